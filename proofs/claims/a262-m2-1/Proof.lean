import JvmDerived
import JvmDerived.Pilot.@@N@@Statement
import JvmDerived.Pilot.@@N@@Code
set_option linter.unusedVariables false
set_option linter.unusedSimpArgs false
namespace Jvm.OwnKit
open Sem ClassFile Op Lib Jvm.Stand Jvm.Free Jvm.LawKit Jvm.RoadKit
/-- every written place is one of ws or new -/
def FrW (h0 : Heap) (ws : List Addr) (L : List Loc) : Prop := ∀ y ∈ L, y.base ∈ ws ∨ h0.size ≤ y.base
/-- what stays fixed while a body runs -/
def Fix (p : Program) (Z s : State) (m : MethodId) (meth : Method) (c : Code) (bytes : ByteArray) (maxL : Nat) (own nm : String) (ret : Option FieldType) : Prop :=
  p.tables.exec = Jvm.exec ∧ Z.Warmed39 s.vm ∧ c.code = bytes ∧ c.maxLocals = maxL ∧ s.vm.findClass own = some m.cls ∧ meth.name = nm ∧ meth.sig.returnType = ret ∧ meth.locks = false
/-- where the run stands: its heap h, what was kept since h0 -/
def St (p : Program) (l : Launch) (e : Env) (R : Room) (s : State) (m : MethodId) (args : Array Value) (below : List Frame) (meth : Method) (c : Code) (h0 : Heap) (ws : List Addr) (T : State) (h : Heap) (cells slots : Nat) : Prop :=
  ∃ locs, Stand p l e R s m args below meth c T locs cells slots ∧ T.heap = h ∧ Keep h0 h ws ∧ FrW h0 ws locs
/-- from T with the top frame f the body comes to its end, and Q holds there -/
def Go (p : Program) (e : Env) (below : List Frame) (s : State) (K N : Nat) (h0 : Heap) (ws : List Addr) (Q : Option Value → Heap → Prop) (T : State) (f : JFrame) : Prop :=
  ∃ t o, Steps p.tables e below (T.setTop f) t ∧ t.status = .running ∧ Ended t below o ∧ ∃ v L, o = .returned v ∧ (Q v t.heap ∧ Keep h0 t.heap ws ∧ FrW h0 ws L) ∧ FrameEnd s o t L K N
/-- a method's contract: called with as' at the heap h0 it returns, writes ws and new cells alone, and Q holds -/
def Meth (l : Launch) (Z : State) (y : MethodName) (bytes : ByteArray) (maxL : Nat) (ret : Option FieldType) (rm : Room) (as' : Array Value) (h0 : Heap) (ws : List Addr) (Q : Option Value → Heap → Prop) : Prop :=
  ∀ wl, MetFree l y (head1 (Cond.code y bytes maxL ret :: wl) rm) (fun a U => a = as' ∧ Z.Warmed39 U.vm ∧ U.heap = h0) (fun _ _ _ _ _ => True) (fun _ U o U' => ∃ v L, o = .returned v ∧ (Q v U'.heap ∧ Keep h0 U'.heap ws ∧ FrW h0 ws L) ∧ FrameEnd U o U' L rm.cells rm.slots)
/-- an array of the kind ty that holds vs -/
def VA (Z : State) (h : Heap) (a : Addr) (ty : FieldType) (vs : List Value) : Prop := ∃ c : Cell, Arr Z h a c ty ∧ c.slots = vs.toArray ∧ vs.length < 2 ^ 31
section Arrays
variable {Z : State} {h h' : Heap} {a b : Addr} {ty : FieldType} {vs : List Value} {sl : Nat} {v : Value} {ws : List Addr}
theorem VA.lt (F : VA Z h a ty vs) : a < h.size := by obtain ⟨c, A, -⟩ := F; exact A.lt
theorem VA.ext (F : VA Z h a ty vs) (E : Ext h h') : VA Z h' a ty vs := by obtain ⟨c, A, r⟩ := F; exact ⟨c, A.ext E, r⟩
theorem VA.other (F : VA Z h b ty vs) (W : Wr h h' a sl v) (q : b ≠ a) : VA Z h' b ty vs := by obtain ⟨c, A, r⟩ := F; exact ⟨c, A.other W q, r⟩
theorem VA.keep (F : VA Z h a ty vs) (K : Keep h h' ws) (q : a ∉ ws) : VA Z h' a ty vs := by obtain ⟨c, A, r⟩ := F; exact ⟨c, ⟨K.2.1 a c A.1 q, A.2⟩, r⟩
theorem VA.set (F : VA Z h a ty vs) (W : Wr h h' a sl v) : VA Z h' a ty (vs.set sl v) := by
  obtain ⟨c, A, r, n⟩ := F
  refine ⟨_, A.same W, ?_, by simpa using n⟩
  show c.slots.setIfInBounds sl v = _
  rw [r]; simp
theorem VA.new {k : ClassId} {n : Int32} (A : Arr Z h a (newA k ty n) ty) (q : ¬ n < 0) : VA Z h a ty (List.replicate n.toNatClampNeg (defaultValue ty)) :=
  ⟨_, A, by simp [newA], by rw [List.length_replicate]; exact (back32 q).2⟩
theorem VA.len31 (F : VA Z h a ty vs) : vs.length < 2 ^ 31 := by obtain ⟨c, A, r, n⟩ := F; exact n
theorem inb {n : Nat} {j : Int32} (hj : 0 ≤ j.toInt ∧ j.toInt < n) : ¬ (j < 0 ∨ n ≤ j.toNatClampNeg) := by
  simp only [Int32.lt_iff_toInt_lt, Int32.toNatClampNeg, Int32.reduceToInt]; omega
theorem own_at {xs : List Int32} {j : Nat} (hj : j < xs.length) : (xs.map Value.int)[j]? = some (.int (xs.getD j 0)) := by
  simp [List.getElem?_eq_getElem hj]
theorem own_atL {xs : List Int64} {j : Nat} (hj : j < xs.length) : (xs.map Value.long)[j]? = some (.long (xs.getD j 0)) := by
  simp [List.getElem?_eq_getElem hj]
theorem own_set (xs : List Int32) (i : Nat) (v : Int32) : (xs.map Value.int).set i (.int v) = (xs.set i v).map Value.int := by simp [List.map_set]
theorem own_setL (xs : List Int64) (i : Nat) (v : Int64) : (xs.map Value.long).set i (.long v) = (xs.set i v).map Value.long := by simp [List.map_set]
theorem own_nat {j : Int32} {n : Nat} (h : 0 ≤ j.toInt ∧ j.toInt < n) : j.toNatClampNeg < n := by simp only [Int32.toNatClampNeg]; omega
end Arrays
section Go
variable {p : Program} {l : Launch} {e : Env} {R : Room} {s : State} {m : MethodId} {args : Array Value} {below : List Frame} {meth : Method} {c : Code} {Z : State} {bytes : ByteArray} {maxL : Nat} {own nm : String} {ret : Option FieldType} {h0 : Heap} {ws : List Addr} {T T' : State} {locs : List Loc} {h : Heap} {cells slots K N : Nat} {Q : Option Value → Heap → Prop} {pc pc' : Nat} {Ls Ls' : Array Slot} {st : List Value} {a0 : Array Value}
theorem Go.to {f f' : JFrame} (k : ∀ t, Steps p.tables e below (T'.setTop f') t → Steps p.tables e below (T.setTop f) t) (g : Go p e below s K N h0 ws Q T' f') : Go p e below s K N h0 ws Q T f := by
  obtain ⟨t, o, a, r⟩ := g; exact ⟨t, o, k t a, r⟩
theorem Go.mono {Q' : Option Value → Heap → Prop} {f : JFrame} (g : Go p e below s K N h0 ws Q T f) (hq : ∀ v h, Q v h → Q' v h) : Go p e below s K N h0 ws Q' T f := by
  obtain ⟨t, o, a, b, d, v, L, e1, ⟨q, r⟩, z⟩ := g; exact ⟨t, o, a, b, d, v, L, e1, ⟨hq _ _ q, r⟩, z⟩
theorem Go.entry {f f' : JFrame} (q : f = f') (g : Go p e below s K N h0 ws Q T f') : Go p e below s K N h0 ws Q T f := q ▸ g
theorem St.more (X : St p l e R s m args below meth c h0 ws T h cells slots) {cells' slots' : Nat} (h1 : cells ≤ cells') (h2 : slots ≤ slots') : St p l e R s m args below meth c h0 ws T h cells' slots' := by
  obtain ⟨L, X, r⟩ := X; exact ⟨L, X.more h1 h2, r⟩
theorem St.kept (X : St p l e R s m args below meth c h0 ws T h cells slots) : Keep h0 h ws := by obtain ⟨L, X, e1, k, f⟩ := X; exact k
theorem St.here (X : St p l e R s m args below meth c h0 ws T h cells slots) : At T m c below := by obtain ⟨L, X, r⟩ := X; exact X.here
theorem Meth.mono {y : MethodName} {rm : Room} {as' : Array Value} {Q' : Option Value → Heap → Prop} (M : Meth l Z y bytes maxL ret rm as' h0 ws Q) (hq : ∀ v h, Q v h → Q' v h) : Meth l Z y bytes maxL ret rm as' h0 ws Q' := by
  intro wl p e ha hc hk s m args below hf happ hP hK
  obtain ⟨n, o, a, b, d, v, L, e1, ⟨q, r⟩, z⟩ := M wl p e ha hc hk s m args below hf happ hP hK
  exact ⟨n, o, a, b, d, v, L, e1, ⟨hq _ _ q, r⟩, z⟩
theorem Meth.of {y : MethodName} {rm : Room} {as' : Array Value} (hpl : plainFor y = true)
    (body : ∀ (p : Program) (e : Env) (s : State) (m : MethodId) (below : List Frame) (meth : Method) (c : Code) (T : State), Fix p Z s m meth c bytes maxL y.cls y.name ret → St p l e rm s m as' below meth c h0 ws T h0 0 0 → Go p e below s rm.cells rm.slots h0 ws Q T (entryFrame m as' maxL)) :
    Meth l Z y bytes maxL ret rm as' h0 ws Q := by
  intro wl
  refine MetFree.of_bodySF hpl hisR ?_
  intro p e s m args below meth c s₁ Bd hml0 hP hK
  obtain ⟨rfl, hZ, hh⟩ := hP
  have X0 : Stand p l e rm s m _ below meth c s₁ [] 0 0 := Stand.of_body Bd
  have e0 : s₁.heap = h0 := by rw [← hh, Bd.state]; rfl
  exact body p e s m below meth c s₁ ⟨Bd.exec, hZ, Bd.bytes, hml0, findClass_of_methodNamed Bd.named, (name_of_methodNamed Bd.named Bd.method).1, Bd.returns, Bd.notSynchronized⟩ ⟨[], X0, e0, Keep.refl _ _, fun y hy => nomatch hy⟩

theorem giload (B : Fix p Z s m meth c bytes maxL own nm ret) (X : St p l e R s m args below meth c h0 ws T h cells slots) {k : Nat} {v : Int32} (hd : decode bytes pc = .ok (.iload k, 2)) (hl : Ls[k]? = some (.val (.int v))) (hp : pc' = pc + 2) (g : Go p e below s K N h0 ws Q T (mkF m pc' Ls (.int v :: st))) : Go p e below s K N h0 ws Q T (mkF m pc Ls st) := by
  subst hp; obtain ⟨L, X, -⟩ := X; exact Go.to (fun t k => XS.iload X.here B.1 rfl (hb B.2.2.1 hd) hl k) g
theorem giloadN (B : Fix p Z s m meth c bytes maxL own nm ret) (X : St p l e R s m args below meth c h0 ws T h cells slots) {k : Fin 4} {v : Int32} (hd : decode bytes pc = .ok (.iload_n k, 1)) (hl : Ls[k.val]? = some (.val (.int v))) (hp : pc' = pc + 1) (g : Go p e below s K N h0 ws Q T (mkF m pc' Ls (.int v :: st))) : Go p e below s K N h0 ws Q T (mkF m pc Ls st) := by
  subst hp; obtain ⟨L, X, -⟩ := X; exact Go.to (fun t k => XS.iloadN X.here B.1 rfl (hb B.2.2.1 hd) hl k) g
theorem gistore (B : Fix p Z s m meth c bytes maxL own nm ret) (X : St p l e R s m args below meth c h0 ws T h cells slots) {k : Nat} {v : Int32} (hd : decode bytes pc = .ok (.istore k, 2)) (hl : storeLocals Ls k (.int v) = some Ls') (hp : pc' = pc + 2) (g : Go p e below s K N h0 ws Q T (mkF m pc' Ls' st)) : Go p e below s K N h0 ws Q T (mkF m pc Ls (.int v :: st)) := by
  subst hp; obtain ⟨L, X, -⟩ := X; exact Go.to (fun t k => XS.istore X.here B.1 rfl (hb B.2.2.1 hd) rfl hl k) g
theorem gistoreN (B : Fix p Z s m meth c bytes maxL own nm ret) (X : St p l e R s m args below meth c h0 ws T h cells slots) {k : Fin 4} {v : Int32} (hd : decode bytes pc = .ok (.istore_n k, 1)) (hl : storeLocals Ls k.val (.int v) = some Ls') (hp : pc' = pc + 1) (g : Go p e below s K N h0 ws Q T (mkF m pc' Ls' st)) : Go p e below s K N h0 ws Q T (mkF m pc Ls (.int v :: st)) := by
  subst hp; obtain ⟨L, X, -⟩ := X; exact Go.to (fun t k => XS.istoreN X.here B.1 rfl (hb B.2.2.1 hd) rfl hl k) g
theorem glload (B : Fix p Z s m meth c bytes maxL own nm ret) (X : St p l e R s m args below meth c h0 ws T h cells slots) {k : Nat} {v : Int64} (hd : decode bytes pc = .ok (.lload k, 2)) (hl : Ls[k]? = some (.val (.long v))) (hp : pc' = pc + 2) (g : Go p e below s K N h0 ws Q T (mkF m pc' Ls (.long v :: st))) : Go p e below s K N h0 ws Q T (mkF m pc Ls st) := by
  subst hp; obtain ⟨L, X, -⟩ := X; exact Go.to (fun t k => XS.lload X.here B.1 rfl (hb B.2.2.1 hd) hl k) g
theorem glloadN (B : Fix p Z s m meth c bytes maxL own nm ret) (X : St p l e R s m args below meth c h0 ws T h cells slots) {k : Fin 4} {v : Int64} (hd : decode bytes pc = .ok (.lload_n k, 1)) (hl : Ls[k.val]? = some (.val (.long v))) (hp : pc' = pc + 1) (g : Go p e below s K N h0 ws Q T (mkF m pc' Ls (.long v :: st))) : Go p e below s K N h0 ws Q T (mkF m pc Ls st) := by
  subst hp; obtain ⟨L, X, -⟩ := X; exact Go.to (fun t k => XS.lloadN X.here B.1 rfl (hb B.2.2.1 hd) hl k) g
theorem glstore (B : Fix p Z s m meth c bytes maxL own nm ret) (X : St p l e R s m args below meth c h0 ws T h cells slots) {k : Nat} {v : Int64} (hd : decode bytes pc = .ok (.lstore k, 2)) (hl : storeLocals Ls k (.long v) = some Ls') (hp : pc' = pc + 2) (g : Go p e below s K N h0 ws Q T (mkF m pc' Ls' st)) : Go p e below s K N h0 ws Q T (mkF m pc Ls (.long v :: st)) := by
  subst hp; obtain ⟨L, X, -⟩ := X; exact Go.to (fun t k => XS.lstore X.here B.1 rfl (hb B.2.2.1 hd) rfl hl k) g
theorem glstoreN (B : Fix p Z s m meth c bytes maxL own nm ret) (X : St p l e R s m args below meth c h0 ws T h cells slots) {k : Fin 4} {v : Int64} (hd : decode bytes pc = .ok (.lstore_n k, 1)) (hl : storeLocals Ls k.val (.long v) = some Ls') (hp : pc' = pc + 1) (g : Go p e below s K N h0 ws Q T (mkF m pc' Ls' st)) : Go p e below s K N h0 ws Q T (mkF m pc Ls (.long v :: st)) := by
  subst hp; obtain ⟨L, X, -⟩ := X; exact Go.to (fun t k => XS.lstoreN X.here B.1 rfl (hb B.2.2.1 hd) rfl hl k) g
theorem gaload (B : Fix p Z s m meth c bytes maxL own nm ret) (X : St p l e R s m args below meth c h0 ws T h cells slots) {k : Nat} {v : Value} (hd : decode bytes pc = .ok (.aload k, 2)) (hl : Ls[k]? = some (.val v)) (hv : v.isRef = true) (hp : pc' = pc + 2) (g : Go p e below s K N h0 ws Q T (mkF m pc' Ls (v :: st))) : Go p e below s K N h0 ws Q T (mkF m pc Ls st) := by
  subst hp; obtain ⟨L, X, -⟩ := X; exact Go.to (fun t k => XS.aload X.here B.1 rfl (hb B.2.2.1 hd) hl hv k) g
theorem galoadN (B : Fix p Z s m meth c bytes maxL own nm ret) (X : St p l e R s m args below meth c h0 ws T h cells slots) {k : Fin 4} {v : Value} (hd : decode bytes pc = .ok (.aload_n k, 1)) (hl : Ls[k.val]? = some (.val v)) (hv : v.isRef = true) (hp : pc' = pc + 1) (g : Go p e below s K N h0 ws Q T (mkF m pc' Ls (v :: st))) : Go p e below s K N h0 ws Q T (mkF m pc Ls st) := by
  subst hp; obtain ⟨L, X, -⟩ := X; exact Go.to (fun t k => XS.aloadN X.here B.1 rfl (hb B.2.2.1 hd) hl hv k) g
theorem gastore (B : Fix p Z s m meth c bytes maxL own nm ret) (X : St p l e R s m args below meth c h0 ws T h cells slots) {k : Nat} {v : Value} (hd : decode bytes pc = .ok (.astore k, 2)) (hv : v.isRef = true) (hl : storeLocals Ls k v = some Ls') (hp : pc' = pc + 2) (g : Go p e below s K N h0 ws Q T (mkF m pc' Ls' st)) : Go p e below s K N h0 ws Q T (mkF m pc Ls (v :: st)) := by
  subst hp; obtain ⟨L, X, -⟩ := X; exact Go.to (fun t k => XS.astore X.here B.1 rfl (hb B.2.2.1 hd) rfl hv hl k) g
theorem gastoreN (B : Fix p Z s m meth c bytes maxL own nm ret) (X : St p l e R s m args below meth c h0 ws T h cells slots) {k : Fin 4} {v : Value} (hd : decode bytes pc = .ok (.astore_n k, 1)) (hv : v.isRef = true) (hl : storeLocals Ls k.val v = some Ls') (hp : pc' = pc + 1) (g : Go p e below s K N h0 ws Q T (mkF m pc' Ls' st)) : Go p e below s K N h0 ws Q T (mkF m pc Ls (v :: st)) := by
  subst hp; obtain ⟨L, X, -⟩ := X; exact Go.to (fun t k => XS.astoreN X.here B.1 rfl (hb B.2.2.1 hd) rfl hv hl k) g
theorem giconst (B : Fix p Z s m meth c bytes maxL own nm ret) (X : St p l e R s m args below meth c h0 ws T h cells slots) {i : Int} {v : Int32} (hd : decode bytes pc = .ok (.iconst i, 1)) (hv : Int32.ofInt i = v) (hp : pc' = pc + 1) (g : Go p e below s K N h0 ws Q T (mkF m pc' Ls (.int v :: st))) : Go p e below s K N h0 ws Q T (mkF m pc Ls st) := by
  subst hp; subst hv; obtain ⟨L, X, -⟩ := X; exact Go.to (fun t k => XS.iconst X.here B.1 rfl (hb B.2.2.1 hd) k) g
theorem gbipush (B : Fix p Z s m meth c bytes maxL own nm ret) (X : St p l e R s m args below meth c h0 ws T h cells slots) {i : Int} {v : Int32} (hd : decode bytes pc = .ok (.bipush i, 2)) (hv : (Int8.ofInt i).toInt32 = v) (hp : pc' = pc + 2) (g : Go p e below s K N h0 ws Q T (mkF m pc' Ls (.int v :: st))) : Go p e below s K N h0 ws Q T (mkF m pc Ls st) := by
  subst hp; subst hv; obtain ⟨L, X, -⟩ := X; exact Go.to (fun t k => XS.bipush X.here B.1 rfl (hb B.2.2.1 hd) k) g
theorem gsipush (B : Fix p Z s m meth c bytes maxL own nm ret) (X : St p l e R s m args below meth c h0 ws T h cells slots) {i : Int} {v : Int32} (hd : decode bytes pc = .ok (.sipush i, 3)) (hv : (Int16.ofInt i).toInt32 = v) (hp : pc' = pc + 3) (g : Go p e below s K N h0 ws Q T (mkF m pc' Ls (.int v :: st))) : Go p e below s K N h0 ws Q T (mkF m pc Ls st) := by
  subst hp; subst hv; obtain ⟨L, X, -⟩ := X; exact Go.to (fun t k => XS.sipush X.here B.1 rfl (hb B.2.2.1 hd) k) g
theorem glconst (B : Fix p Z s m meth c bytes maxL own nm ret) (X : St p l e R s m args below meth c h0 ws T h cells slots) {k : Fin 2} {v : Int64} (hd : decode bytes pc = .ok (.lconst k, 1)) (hv : Int64.ofNat k = v) (hp : pc' = pc + 1) (g : Go p e below s K N h0 ws Q T (mkF m pc' Ls (.long v :: st))) : Go p e below s K N h0 ws Q T (mkF m pc Ls st) := by
  subst hp; subst hv; obtain ⟨L, X, -⟩ := X; exact Go.to (fun t k => XS.lconst X.here B.1 rfl (hb B.2.2.1 hd) k) g
theorem gnull (B : Fix p Z s m meth c bytes maxL own nm ret) (X : St p l e R s m args below meth c h0 ws T h cells slots)  (hd : decode bytes pc = .ok (.aconst_null, 1))  (hp : pc' = pc + 1) (g : Go p e below s K N h0 ws Q T (mkF m pc' Ls (.null :: st))) : Go p e below s K N h0 ws Q T (mkF m pc Ls st) := by
  subst hp; obtain ⟨L, X, -⟩ := X; exact Go.to (fun t k => XS.aconstNull X.here B.1 rfl (hb B.2.2.1 hd)  k) g
theorem giadd (B : Fix p Z s m meth c bytes maxL own nm ret) (X : St p l e R s m args below meth c h0 ws T h cells slots) {x y : Int32} {v : Int32} (hd : decode bytes pc = .ok (.iadd, 1))  (hv : x + y = v) (hp : pc' = pc + 1) (g : Go p e below s K N h0 ws Q T (mkF m pc' Ls (.int v :: st))) : Go p e below s K N h0 ws Q T (mkF m pc Ls (.int y :: .int x :: st)) := by
  subst hp; subst hv; obtain ⟨L, X, -⟩ := X; exact Go.to (fun t k => XS.iadd X.here B.1 rfl (hb B.2.2.1 hd) rfl k) g
theorem gladd (B : Fix p Z s m meth c bytes maxL own nm ret) (X : St p l e R s m args below meth c h0 ws T h cells slots) {x y : Int64} {v : Int64} (hd : decode bytes pc = .ok (.ladd, 1))  (hv : x + y = v) (hp : pc' = pc + 1) (g : Go p e below s K N h0 ws Q T (mkF m pc' Ls (.long v :: st))) : Go p e below s K N h0 ws Q T (mkF m pc Ls (.long y :: .long x :: st)) := by
  subst hp; subst hv; obtain ⟨L, X, -⟩ := X; exact Go.to (fun t k => XS.ladd X.here B.1 rfl (hb B.2.2.1 hd) rfl k) g
theorem gisub (B : Fix p Z s m meth c bytes maxL own nm ret) (X : St p l e R s m args below meth c h0 ws T h cells slots) {x y : Int32} {v : Int32} (hd : decode bytes pc = .ok (.isub, 1))  (hv : x - y = v) (hp : pc' = pc + 1) (g : Go p e below s K N h0 ws Q T (mkF m pc' Ls (.int v :: st))) : Go p e below s K N h0 ws Q T (mkF m pc Ls (.int y :: .int x :: st)) := by
  subst hp; subst hv; obtain ⟨L, X, -⟩ := X; exact Go.to (fun t k => XS.isub X.here B.1 rfl (hb B.2.2.1 hd) rfl k) g
theorem glsub (B : Fix p Z s m meth c bytes maxL own nm ret) (X : St p l e R s m args below meth c h0 ws T h cells slots) {x y : Int64} {v : Int64} (hd : decode bytes pc = .ok (.lsub, 1))  (hv : x - y = v) (hp : pc' = pc + 1) (g : Go p e below s K N h0 ws Q T (mkF m pc' Ls (.long v :: st))) : Go p e below s K N h0 ws Q T (mkF m pc Ls (.long y :: .long x :: st)) := by
  subst hp; subst hv; obtain ⟨L, X, -⟩ := X; exact Go.to (fun t k => XS.lsub X.here B.1 rfl (hb B.2.2.1 hd) rfl k) g
theorem gimul (B : Fix p Z s m meth c bytes maxL own nm ret) (X : St p l e R s m args below meth c h0 ws T h cells slots) {x y : Int32} {v : Int32} (hd : decode bytes pc = .ok (.imul, 1))  (hv : x * y = v) (hp : pc' = pc + 1) (g : Go p e below s K N h0 ws Q T (mkF m pc' Ls (.int v :: st))) : Go p e below s K N h0 ws Q T (mkF m pc Ls (.int y :: .int x :: st)) := by
  subst hp; subst hv; obtain ⟨L, X, -⟩ := X; exact Go.to (fun t k => XS.imul X.here B.1 rfl (hb B.2.2.1 hd) rfl k) g
theorem glmul (B : Fix p Z s m meth c bytes maxL own nm ret) (X : St p l e R s m args below meth c h0 ws T h cells slots) {x y : Int64} {v : Int64} (hd : decode bytes pc = .ok (.lmul, 1))  (hv : x * y = v) (hp : pc' = pc + 1) (g : Go p e below s K N h0 ws Q T (mkF m pc' Ls (.long v :: st))) : Go p e below s K N h0 ws Q T (mkF m pc Ls (.long y :: .long x :: st)) := by
  subst hp; subst hv; obtain ⟨L, X, -⟩ := X; exact Go.to (fun t k => XS.lmul X.here B.1 rfl (hb B.2.2.1 hd) rfl k) g
theorem giand (B : Fix p Z s m meth c bytes maxL own nm ret) (X : St p l e R s m args below meth c h0 ws T h cells slots) {x y : Int32} {v : Int32} (hd : decode bytes pc = .ok (.iand, 1))  (hv : x &&& y = v) (hp : pc' = pc + 1) (g : Go p e below s K N h0 ws Q T (mkF m pc' Ls (.int v :: st))) : Go p e below s K N h0 ws Q T (mkF m pc Ls (.int y :: .int x :: st)) := by
  subst hp; subst hv; obtain ⟨L, X, -⟩ := X; exact Go.to (fun t k => XS.iand X.here B.1 rfl (hb B.2.2.1 hd) rfl k) g
theorem gland (B : Fix p Z s m meth c bytes maxL own nm ret) (X : St p l e R s m args below meth c h0 ws T h cells slots) {x y : Int64} {v : Int64} (hd : decode bytes pc = .ok (.land, 1))  (hv : x &&& y = v) (hp : pc' = pc + 1) (g : Go p e below s K N h0 ws Q T (mkF m pc' Ls (.long v :: st))) : Go p e below s K N h0 ws Q T (mkF m pc Ls (.long y :: .long x :: st)) := by
  subst hp; subst hv; obtain ⟨L, X, -⟩ := X; exact Go.to (fun t k => XS.land X.here B.1 rfl (hb B.2.2.1 hd) rfl k) g
theorem gior (B : Fix p Z s m meth c bytes maxL own nm ret) (X : St p l e R s m args below meth c h0 ws T h cells slots) {x y : Int32} {v : Int32} (hd : decode bytes pc = .ok (.ior, 1))  (hv : x ||| y = v) (hp : pc' = pc + 1) (g : Go p e below s K N h0 ws Q T (mkF m pc' Ls (.int v :: st))) : Go p e below s K N h0 ws Q T (mkF m pc Ls (.int y :: .int x :: st)) := by
  subst hp; subst hv; obtain ⟨L, X, -⟩ := X; exact Go.to (fun t k => XS.ior X.here B.1 rfl (hb B.2.2.1 hd) rfl k) g
theorem glor (B : Fix p Z s m meth c bytes maxL own nm ret) (X : St p l e R s m args below meth c h0 ws T h cells slots) {x y : Int64} {v : Int64} (hd : decode bytes pc = .ok (.lor, 1))  (hv : x ||| y = v) (hp : pc' = pc + 1) (g : Go p e below s K N h0 ws Q T (mkF m pc' Ls (.long v :: st))) : Go p e below s K N h0 ws Q T (mkF m pc Ls (.long y :: .long x :: st)) := by
  subst hp; subst hv; obtain ⟨L, X, -⟩ := X; exact Go.to (fun t k => XS.lor X.here B.1 rfl (hb B.2.2.1 hd) rfl k) g
theorem gixor (B : Fix p Z s m meth c bytes maxL own nm ret) (X : St p l e R s m args below meth c h0 ws T h cells slots) {x y : Int32} {v : Int32} (hd : decode bytes pc = .ok (.ixor, 1))  (hv : x ^^^ y = v) (hp : pc' = pc + 1) (g : Go p e below s K N h0 ws Q T (mkF m pc' Ls (.int v :: st))) : Go p e below s K N h0 ws Q T (mkF m pc Ls (.int y :: .int x :: st)) := by
  subst hp; subst hv; obtain ⟨L, X, -⟩ := X; exact Go.to (fun t k => XS.ixor X.here B.1 rfl (hb B.2.2.1 hd) rfl k) g
theorem glxor (B : Fix p Z s m meth c bytes maxL own nm ret) (X : St p l e R s m args below meth c h0 ws T h cells slots) {x y : Int64} {v : Int64} (hd : decode bytes pc = .ok (.lxor, 1))  (hv : x ^^^ y = v) (hp : pc' = pc + 1) (g : Go p e below s K N h0 ws Q T (mkF m pc' Ls (.long v :: st))) : Go p e below s K N h0 ws Q T (mkF m pc Ls (.long y :: .long x :: st)) := by
  subst hp; subst hv; obtain ⟨L, X, -⟩ := X; exact Go.to (fun t k => XS.lxor X.here B.1 rfl (hb B.2.2.1 hd) rfl k) g
theorem gidiv (B : Fix p Z s m meth c bytes maxL own nm ret) (X : St p l e R s m args below meth c h0 ws T h cells slots) {x y : Int32} {v : Int32} (hd : decode bytes pc = .ok (.idiv, 1)) (hy : y ≠ 0) (hv : x / y = v) (hp : pc' = pc + 1) (g : Go p e below s K N h0 ws Q T (mkF m pc' Ls (.int v :: st))) : Go p e below s K N h0 ws Q T (mkF m pc Ls (.int y :: .int x :: st)) := by
  subst hp; subst hv; obtain ⟨L, X, -⟩ := X; exact Go.to (fun t k => XS.idiv X.here B.1 rfl (hb B.2.2.1 hd) rfl hy k) g
theorem gldiv (B : Fix p Z s m meth c bytes maxL own nm ret) (X : St p l e R s m args below meth c h0 ws T h cells slots) {x y : Int64} {v : Int64} (hd : decode bytes pc = .ok (.ldiv, 1)) (hy : y ≠ 0) (hv : x / y = v) (hp : pc' = pc + 1) (g : Go p e below s K N h0 ws Q T (mkF m pc' Ls (.long v :: st))) : Go p e below s K N h0 ws Q T (mkF m pc Ls (.long y :: .long x :: st)) := by
  subst hp; subst hv; obtain ⟨L, X, -⟩ := X; exact Go.to (fun t k => XS.ldiv X.here B.1 rfl (hb B.2.2.1 hd) rfl hy k) g
theorem girem (B : Fix p Z s m meth c bytes maxL own nm ret) (X : St p l e R s m args below meth c h0 ws T h cells slots) {x y v : Int32} (hd : decode bytes pc = .ok (.irem, 1)) (hy : y ≠ 0) (hv : x % y = v) (hp : pc' = pc + 1) (g : Go p e below s K N h0 ws Q T (mkF m pc' Ls (.int v :: st))) : Go p e below s K N h0 ws Q T (mkF m pc Ls (.int y :: .int x :: st)) := by
  subst hp; subst hv; obtain ⟨L, X, -⟩ := X; exact Go.to (fun t k => iremM X B.1 rfl (hb B.2.2.1 hd) rfl hy k) g
theorem glrem (B : Fix p Z s m meth c bytes maxL own nm ret) (X : St p l e R s m args below meth c h0 ws T h cells slots) {x y v : Int64} (hd : decode bytes pc = .ok (.lrem, 1)) (hy : y ≠ 0) (hv : x % y = v) (hp : pc' = pc + 1) (g : Go p e below s K N h0 ws Q T (mkF m pc' Ls (.long v :: st))) : Go p e below s K N h0 ws Q T (mkF m pc Ls (.long y :: .long x :: st)) := by
  subst hp; subst hv; obtain ⟨L, X, -⟩ := X; exact Go.to (fun t k => XS.lrem X.here B.1 rfl (hb B.2.2.1 hd) rfl hy (by rw [lrem_mod]; exact k)) g
theorem gishl (B : Fix p Z s m meth c bytes maxL own nm ret) (X : St p l e R s m args below meth c h0 ws T h cells slots) {x y : Int32} {v : Int32} (hd : decode bytes pc = .ok (.ishl, 1))  (hv : x <<< (y &&& 31) = v) (hp : pc' = pc + 1) (g : Go p e below s K N h0 ws Q T (mkF m pc' Ls (.int v :: st))) : Go p e below s K N h0 ws Q T (mkF m pc Ls (.int y :: .int x :: st)) := by
  subst hp; subst hv; obtain ⟨L, X, -⟩ := X; exact Go.to (fun t k => XS.ishl X.here B.1 rfl (hb B.2.2.1 hd) rfl k) g
theorem gishr (B : Fix p Z s m meth c bytes maxL own nm ret) (X : St p l e R s m args below meth c h0 ws T h cells slots) {x y : Int32} {v : Int32} (hd : decode bytes pc = .ok (.ishr, 1))  (hv : x >>> (y &&& 31) = v) (hp : pc' = pc + 1) (g : Go p e below s K N h0 ws Q T (mkF m pc' Ls (.int v :: st))) : Go p e below s K N h0 ws Q T (mkF m pc Ls (.int y :: .int x :: st)) := by
  subst hp; subst hv; obtain ⟨L, X, -⟩ := X; exact Go.to (fun t k => XS.ishr X.here B.1 rfl (hb B.2.2.1 hd) rfl k) g
theorem giushr (B : Fix p Z s m meth c bytes maxL own nm ret) (X : St p l e R s m args below meth c h0 ws T h cells slots) {x y : Int32} {v : Int32} (hd : decode bytes pc = .ok (.iushr, 1))  (hv : (x.toUInt32 >>> (y &&& 31).toUInt32).toInt32 = v) (hp : pc' = pc + 1) (g : Go p e below s K N h0 ws Q T (mkF m pc' Ls (.int v :: st))) : Go p e below s K N h0 ws Q T (mkF m pc Ls (.int y :: .int x :: st)) := by
  subst hp; subst hv; obtain ⟨L, X, -⟩ := X; exact Go.to (fun t k => XS.iushr X.here B.1 rfl (hb B.2.2.1 hd) rfl k) g
theorem glshl (B : Fix p Z s m meth c bytes maxL own nm ret) (X : St p l e R s m args below meth c h0 ws T h cells slots) {x : Int64} {y : Int32} {v : Int64} (hd : decode bytes pc = .ok (.lshl, 1))  (hv : x <<< (y &&& 0x3f).toInt64 = v) (hp : pc' = pc + 1) (g : Go p e below s K N h0 ws Q T (mkF m pc' Ls (.long v :: st))) : Go p e below s K N h0 ws Q T (mkF m pc Ls (.int y :: .long x :: st)) := by
  subst hp; subst hv; obtain ⟨L, X, -⟩ := X; exact Go.to (fun t k => XS.lshl X.here B.1 rfl (hb B.2.2.1 hd) rfl k) g
theorem glshr (B : Fix p Z s m meth c bytes maxL own nm ret) (X : St p l e R s m args below meth c h0 ws T h cells slots) {x : Int64} {y : Int32} {v : Int64} (hd : decode bytes pc = .ok (.lshr, 1))  (hv : x >>> (y &&& 0x3f).toInt64 = v) (hp : pc' = pc + 1) (g : Go p e below s K N h0 ws Q T (mkF m pc' Ls (.long v :: st))) : Go p e below s K N h0 ws Q T (mkF m pc Ls (.int y :: .long x :: st)) := by
  subst hp; subst hv; obtain ⟨L, X, -⟩ := X; exact Go.to (fun t k => XS.lshr X.here B.1 rfl (hb B.2.2.1 hd) rfl k) g
theorem glushr (B : Fix p Z s m meth c bytes maxL own nm ret) (X : St p l e R s m args below meth c h0 ws T h cells slots) {x : Int64} {y : Int32} {v : Int64} (hd : decode bytes pc = .ok (.lushr, 1))  (hv : (x.toUInt64 >>> (y &&& 0x3f).toInt64.toUInt64).toInt64 = v) (hp : pc' = pc + 1) (g : Go p e below s K N h0 ws Q T (mkF m pc' Ls (.long v :: st))) : Go p e below s K N h0 ws Q T (mkF m pc Ls (.int y :: .long x :: st)) := by
  subst hp; subst hv; obtain ⟨L, X, -⟩ := X; exact Go.to (fun t k => XS.lushr X.here B.1 rfl (hb B.2.2.1 hd) rfl k) g
theorem gineg (B : Fix p Z s m meth c bytes maxL own nm ret) (X : St p l e R s m args below meth c h0 ws T h cells slots) {x : Int32} {v : Int32} (hd : decode bytes pc = .ok (.ineg, 1))  (hv : -x = v) (hp : pc' = pc + 1) (g : Go p e below s K N h0 ws Q T (mkF m pc' Ls (.int v :: st))) : Go p e below s K N h0 ws Q T (mkF m pc Ls (.int x :: st)) := by
  subst hp; subst hv; obtain ⟨L, X, -⟩ := X; exact Go.to (fun t k => XS.ineg X.here B.1 rfl (hb B.2.2.1 hd) rfl k) g
theorem glneg (B : Fix p Z s m meth c bytes maxL own nm ret) (X : St p l e R s m args below meth c h0 ws T h cells slots) {x : Int64} {v : Int64} (hd : decode bytes pc = .ok (.lneg, 1))  (hv : -x = v) (hp : pc' = pc + 1) (g : Go p e below s K N h0 ws Q T (mkF m pc' Ls (.long v :: st))) : Go p e below s K N h0 ws Q T (mkF m pc Ls (.long x :: st)) := by
  subst hp; subst hv; obtain ⟨L, X, -⟩ := X; exact Go.to (fun t k => XS.lneg X.here B.1 rfl (hb B.2.2.1 hd) rfl k) g
theorem gi2l (B : Fix p Z s m meth c bytes maxL own nm ret) (X : St p l e R s m args below meth c h0 ws T h cells slots) {x : Int32} {v : Int64} (hd : decode bytes pc = .ok (.i2l, 1))  (hv : x.toInt64 = v) (hp : pc' = pc + 1) (g : Go p e below s K N h0 ws Q T (mkF m pc' Ls (.long v :: st))) : Go p e below s K N h0 ws Q T (mkF m pc Ls (.int x :: st)) := by
  subst hp; subst hv; obtain ⟨L, X, -⟩ := X; exact Go.to (fun t k => XS.i2l X.here B.1 rfl (hb B.2.2.1 hd) rfl k) g
theorem gl2i (B : Fix p Z s m meth c bytes maxL own nm ret) (X : St p l e R s m args below meth c h0 ws T h cells slots) {x : Int64} {v : Int32} (hd : decode bytes pc = .ok (.l2i, 1))  (hv : x.toInt32 = v) (hp : pc' = pc + 1) (g : Go p e below s K N h0 ws Q T (mkF m pc' Ls (.int v :: st))) : Go p e below s K N h0 ws Q T (mkF m pc Ls (.long x :: st)) := by
  subst hp; subst hv; obtain ⟨L, X, -⟩ := X; exact Go.to (fun t k => XS.l2i X.here B.1 rfl (hb B.2.2.1 hd) rfl k) g
theorem gi2b (B : Fix p Z s m meth c bytes maxL own nm ret) (X : St p l e R s m args below meth c h0 ws T h cells slots) {x : Int32} {v : Int32} (hd : decode bytes pc = .ok (.i2b, 1))  (hv : x.toInt8.toInt32 = v) (hp : pc' = pc + 1) (g : Go p e below s K N h0 ws Q T (mkF m pc' Ls (.int v :: st))) : Go p e below s K N h0 ws Q T (mkF m pc Ls (.int x :: st)) := by
  subst hp; subst hv; obtain ⟨L, X, -⟩ := X; exact Go.to (fun t k => XS.i2b X.here B.1 rfl (hb B.2.2.1 hd) rfl k) g
theorem gi2s (B : Fix p Z s m meth c bytes maxL own nm ret) (X : St p l e R s m args below meth c h0 ws T h cells slots) {x : Int32} {v : Int32} (hd : decode bytes pc = .ok (.i2s, 1))  (hv : x.toInt16.toInt32 = v) (hp : pc' = pc + 1) (g : Go p e below s K N h0 ws Q T (mkF m pc' Ls (.int v :: st))) : Go p e below s K N h0 ws Q T (mkF m pc Ls (.int x :: st)) := by
  subst hp; subst hv; obtain ⟨L, X, -⟩ := X; exact Go.to (fun t k => XS.i2s X.here B.1 rfl (hb B.2.2.1 hd) rfl k) g
theorem gi2c (B : Fix p Z s m meth c bytes maxL own nm ret) (X : St p l e R s m args below meth c h0 ws T h cells slots) {x : Int32} {v : Int32} (hd : decode bytes pc = .ok (.i2c, 1))  (hv : x.toUInt32.toUInt16.toUInt32.toInt32 = v) (hp : pc' = pc + 1) (g : Go p e below s K N h0 ws Q T (mkF m pc' Ls (.int v :: st))) : Go p e below s K N h0 ws Q T (mkF m pc Ls (.int x :: st)) := by
  subst hp; subst hv; obtain ⟨L, X, -⟩ := X; exact Go.to (fun t k => XS.i2c X.here B.1 rfl (hb B.2.2.1 hd) rfl k) g
theorem glcmp (B : Fix p Z s m meth c bytes maxL own nm ret) (X : St p l e R s m args below meth c h0 ws T h cells slots) {x y : Int64} (hd : decode bytes pc = .ok (.lcmp, 1))  (hp : pc' = pc + 1) (g : Go p e below s K N h0 ws Q T (mkF m pc' Ls (.int (lcmpW x y) :: st))) : Go p e below s K N h0 ws Q T (mkF m pc Ls (.long y :: .long x :: st)) := by
  subst hp; obtain ⟨L, X, -⟩ := X; exact Go.to (fun t k => XS.lcmp X.here B.1 rfl (hb B.2.2.1 hd) rfl k) g
theorem gdup (B : Fix p Z s m meth c bytes maxL own nm ret) (X : St p l e R s m args below meth c h0 ws T h cells slots) {x : Value} (hd : decode bytes pc = .ok (.dup, 1)) (hc : x.category = 1) (hp : pc' = pc + 1) (g : Go p e below s K N h0 ws Q T (mkF m pc' Ls (x :: x :: st))) : Go p e below s K N h0 ws Q T (mkF m pc Ls (x :: st)) := by
  subst hp; obtain ⟨L, X, -⟩ := X; exact Go.to (fun t k => XS.dup X.here B.1 rfl (hb B.2.2.1 hd) rfl hc k) g
theorem gpop (B : Fix p Z s m meth c bytes maxL own nm ret) (X : St p l e R s m args below meth c h0 ws T h cells slots) {x : Value} (hd : decode bytes pc = .ok (.pop, 1)) (hc : x.category = 1) (hp : pc' = pc + 1) (g : Go p e below s K N h0 ws Q T (mkF m pc' Ls st)) : Go p e below s K N h0 ws Q T (mkF m pc Ls (x :: st)) := by
  subst hp; obtain ⟨L, X, -⟩ := X; exact Go.to (fun t k => XS.pop X.here B.1 rfl (hb B.2.2.1 hd) rfl hc k) g
theorem gdup_x1 (B : Fix p Z s m meth c bytes maxL own nm ret) (X : St p l e R s m args below meth c h0 ws T h cells slots) {x y : Value} (hd : decode bytes pc = .ok (.dup_x1, 1)) (hc : x.category = 1) (hc2 : y.category = 1) (hp : pc' = pc + 1) (g : Go p e below s K N h0 ws Q T (mkF m pc' Ls (x :: y :: x :: st))) : Go p e below s K N h0 ws Q T (mkF m pc Ls (x :: y :: st)) := by
  subst hp; obtain ⟨L, X, -⟩ := X; exact Go.to (fun t k => XS.dupX1 X.here B.1 rfl (hb B.2.2.1 hd) rfl hc hc2 k) g
theorem gdup2 (B : Fix p Z s m meth c bytes maxL own nm ret) (X : St p l e R s m args below meth c h0 ws T h cells slots) {x y : Value} (hd : decode bytes pc = .ok (.dup2, 1)) (hc : x.category = 1) (hc2 : y.category = 1) (hp : pc' = pc + 1) (g : Go p e below s K N h0 ws Q T (mkF m pc' Ls (x :: y :: x :: y :: st))) : Go p e below s K N h0 ws Q T (mkF m pc Ls (x :: y :: st)) := by
  subst hp; obtain ⟨L, X, -⟩ := X; exact Go.to (fun t k => Jvm.Free.XT.dup2 X.here B.1 rfl (hb B.2.2.1 hd) rfl hc hc2 k) g
theorem xdup_x2 {tb : Tables} [Ours tb] {target : State} {g : JFrame} (h : At T m c below) (hx : tb.exec = Jvm.exec) (hg : g.method = m) {x y z : Value} {rest : List Value} (hd : decode c.code g.pc = .ok (.dup_x2, 1)) (hs : g.stack = x :: y :: z :: rest) (hc : x.category = 1) (hc' : y.category = 1) (hc2 : z.category = 1)
    (hr : Steps tb e below (T.setTop { g with pc := g.pc + 1, stack := x :: y :: z :: x :: rest }) target) : Steps tb e below (T.setTop g) target := by
  subst hg
  jvm_step h [h.top, hx, hd, hs, hc, hc', hc2]
  exact hr
theorem gdup_x2 (B : Fix p Z s m meth c bytes maxL own nm ret) (X : St p l e R s m args below meth c h0 ws T h cells slots) {x y z : Value} (hd : decode bytes pc = .ok (.dup_x2, 1)) (hc : x.category = 1) (hc2 : y.category = 1) (hc3 : z.category = 1) (hp : pc' = pc + 1) (g : Go p e below s K N h0 ws Q T (mkF m pc' Ls (x :: y :: z :: x :: st))) : Go p e below s K N h0 ws Q T (mkF m pc Ls (x :: y :: z :: st)) := by
  subst hp; obtain ⟨L, X, -⟩ := X; exact Go.to (fun t k => xdup_x2 X.here B.1 rfl (hb B.2.2.1 hd) rfl hc hc2 hc3 k) g
theorem giinc (B : Fix p Z s m meth c bytes maxL own nm ret) (X : St p l e R s m args below meth c h0 ws T h cells slots) {k : Nat} {cst : Int} {x v : Int32} (hd : decode bytes pc = .ok (.iinc k cst, 3)) (hl : Ls[k]? = some (.val (.int x))) (hv : x + Int32.ofInt cst = v) (hl' : storeLocals Ls k (.int v) = some Ls') (hp : pc' = pc + 3) (g : Go p e below s K N h0 ws Q T (mkF m pc' Ls' st)) : Go p e below s K N h0 ws Q T (mkF m pc Ls st) := by
  subst hp; subst hv; obtain ⟨L, X, -⟩ := X; exact Go.to (fun t k => XS.iinc X.here B.1 rfl (hb B.2.2.1 hd) hl hl' k) g
theorem ggoto (B : Fix p Z s m meth c bytes maxL own nm ret) (X : St p l e R s m args below meth c h0 ws T h cells slots) {o : Int} (hd : decode bytes pc = .ok (.goto o, 3)) (ho : 0 ≤ (pc : Int) + o ∧ ((pc : Int) + o).toNat = pc') (g : Go p e below s K N h0 ws Q T (mkF m pc' Ls st)) : Go p e below s K N h0 ws Q T (mkF m pc Ls st) := by
  obtain ⟨L, X, -⟩ := X; exact Go.to (fun t k => XS.goto X.here B.1 rfl (pc0 := pc) rfl (hb B.2.2.1 hd) ho.1 ho.2 k) g
theorem gifY (B : Fix p Z s m meth c bytes maxL own nm ret) (X : St p l e R s m args below meth c h0 ws T h cells slots) {cd : ClassFile.Cond} {o : Int} {x : Int32} (hd : decode bytes pc = .ok (.ifCond cd o, 3)) (hc : ifCond.holds cd x = true) (ho : 0 ≤ (pc : Int) + o ∧ ((pc : Int) + o).toNat = pc') (g : Go p e below s K N h0 ws Q T (mkF m pc' Ls st)) : Go p e below s K N h0 ws Q T (mkF m pc Ls (.int x :: st)) := by
  obtain ⟨L, X, -⟩ := X; exact Go.to (fun t k => XS.ifYes X.here B.1 rfl (pc0 := pc) rfl (hb B.2.2.1 hd) rfl hc ho.1 ho.2 k) g
theorem gifN (B : Fix p Z s m meth c bytes maxL own nm ret) (X : St p l e R s m args below meth c h0 ws T h cells slots) {cd : ClassFile.Cond} {o : Int} {x : Int32} (hd : decode bytes pc = .ok (.ifCond cd o, 3)) (hc : ifCond.holds cd x = false) (hp : pc' = pc + 3) (g : Go p e below s K N h0 ws Q T (mkF m pc' Ls st)) : Go p e below s K N h0 ws Q T (mkF m pc Ls (.int x :: st)) := by
  subst hp; obtain ⟨L, X, -⟩ := X; exact Go.to (fun t k => XS.ifNo X.here B.1 rfl (hb B.2.2.1 hd) rfl hc k) g
theorem gicY (B : Fix p Z s m meth c bytes maxL own nm ret) (X : St p l e R s m args below meth c h0 ws T h cells slots) {cd : ClassFile.Cond} {o : Int} {x y : Int32} (hd : decode bytes pc = .ok (.if_icmp cd o, 3)) (hc : if_icmp.holds cd x y = true) (ho : 0 ≤ (pc : Int) + o ∧ ((pc : Int) + o).toNat = pc') (g : Go p e below s K N h0 ws Q T (mkF m pc' Ls st)) : Go p e below s K N h0 ws Q T (mkF m pc Ls (.int y :: .int x :: st)) := by
  obtain ⟨L, X, -⟩ := X; exact Go.to (fun t k => XS.icmpYes X.here B.1 rfl (pc0 := pc) rfl (hb B.2.2.1 hd) rfl hc ho.1 ho.2 k) g
theorem gicN (B : Fix p Z s m meth c bytes maxL own nm ret) (X : St p l e R s m args below meth c h0 ws T h cells slots) {cd : ClassFile.Cond} {o : Int} {x y : Int32} (hd : decode bytes pc = .ok (.if_icmp cd o, 3)) (hc : if_icmp.holds cd x y = false) (hp : pc' = pc + 3) (g : Go p e below s K N h0 ws Q T (mkF m pc' Ls st)) : Go p e below s K N h0 ws Q T (mkF m pc Ls (.int y :: .int x :: st)) := by
  subst hp; obtain ⟨L, X, -⟩ := X; exact Go.to (fun t k => XS.icmpNo X.here B.1 rfl (hb B.2.2.1 hd) rfl hc k) g
theorem gnullN (B : Fix p Z s m meth c bytes maxL own nm ret) (X : St p l e R s m args below meth c h0 ws T h cells slots) {a : Addr} {o : Int} (hd : decode bytes pc = .ok (.ifnull o, 3)) (hp : pc' = pc + 3) (g : Go p e below s K N h0 ws Q T (mkF m pc' Ls st)) : Go p e below s K N h0 ws Q T (mkF m pc Ls (.ref a :: st)) := by
  subst hp; obtain ⟨L, X, -⟩ := X; exact Go.to (fun t k => XS.ifnullNo X.here B.1 rfl (hb B.2.2.1 hd) rfl k) g
theorem gldc (B : Fix p Z s m meth c bytes maxL own nm ret) (X : St p l e R s m args below meth c h0 ws T h cells slots) {i : Nat} {v : Int32} (w : (Cond.constant own i v).before a0 Z = true) (hd : decode bytes pc = .ok (.ldc i, 2)) (hp : pc' = pc + 2) (g : Go p e below s K N h0 ws Q T (mkF m pc' Ls (.int v :: st))) : Go p e below s K N h0 ws Q T (mkF m pc Ls st) := by
  subst hp; obtain ⟨L, X, -⟩ := X; exact Go.to (fun t k => X.ldcInt B.1 B.2.2.2.2.1 (mvT B.2.1 w) (g := mkF m pc Ls st) rfl (hb B.2.2.1 hd) t k) g
theorem gldcw (B : Fix p Z s m meth c bytes maxL own nm ret) (X : St p l e R s m args below meth c h0 ws T h cells slots) {i : Nat} {v : Int32} (w : (Cond.constant own i v).before a0 Z = true) (hd : decode bytes pc = .ok (.ldc_w i, 3)) (hp : pc' = pc + 3) (g : Go p e below s K N h0 ws Q T (mkF m pc' Ls (.int v :: st))) : Go p e below s K N h0 ws Q T (mkF m pc Ls st) := by
  subst hp; obtain ⟨L, X, -⟩ := X; exact Go.to (fun t k => X.ldcwInt B.1 B.2.2.2.2.1 (mvT B.2.1 w) (g := mkF m pc Ls st) rfl (hb B.2.2.1 hd) t k) g
theorem gldc2 (B : Fix p Z s m meth c bytes maxL own nm ret) (X : St p l e R s m args below meth c h0 ws T h cells slots) {i : Nat} {v : Int64} (w : (Cond.constantLong own i v).before a0 Z = true) (hd : decode bytes pc = .ok (.ldc2_w i, 3)) (hp : pc' = pc + 3) (g : Go p e below s K N h0 ws Q T (mkF m pc' Ls (.long v :: st))) : Go p e below s K N h0 ws Q T (mkF m pc Ls st) := by
  subst hp; obtain ⟨L, X, -⟩ := X; exact Go.to (fun t k => X.ldc2Long B.1 B.2.2.2.2.1 (mvT B.2.1 w) (g := mkF m pc Ls st) rfl (hb B.2.2.1 hd) t k) g
theorem giaload (B : Fix p Z s m meth c bytes maxL own nm ret) (X : St p l e R s m args below meth c h0 ws T h cells slots) {a : Addr} {vs : List Value} {j : Int32} {v : Value} {n : Nat} (A : VA Z h a .int vs) (hn : vs.length = n) (hj : 0 ≤ j.toInt ∧ j.toInt < n) (hv : vs[j.toNatClampNeg]? = some v) (hd : decode bytes pc = .ok (.iaload, 1)) (hp : pc' = pc + 1) (g : Go p e below s K N h0 ws Q T (mkF m pc' Ls (v :: st))) : Go p e below s K N h0 ws Q T (mkF m pc Ls (.int j :: .ref a :: st)) := by
  subst hp; subst hn; obtain ⟨L, X, eT, -⟩ := X; obtain ⟨cl, A, r, n⟩ := A
  exact Go.to (fun t k => X.iaload B.1 (by rw [eT]; exact A.1) (State.isArrayOf_alike B.2.1.alike A.2.1) A.2.2 (by rw [r]; exact inb (by simpa using hj)) (by rw [r]; simpa using hv) (g := mkF m pc Ls (.int j :: .ref a :: st)) rfl rfl (hb B.2.2.1 hd) t k) g
theorem glaload (B : Fix p Z s m meth c bytes maxL own nm ret) (X : St p l e R s m args below meth c h0 ws T h cells slots) {a : Addr} {vs : List Value} {j : Int32} {v : Value} {n : Nat} (A : VA Z h a .long vs) (hn : vs.length = n) (hj : 0 ≤ j.toInt ∧ j.toInt < n) (hv : vs[j.toNatClampNeg]? = some v) (hd : decode bytes pc = .ok (.laload, 1)) (hp : pc' = pc + 1) (g : Go p e below s K N h0 ws Q T (mkF m pc' Ls (v :: st))) : Go p e below s K N h0 ws Q T (mkF m pc Ls (.int j :: .ref a :: st)) := by
  subst hp; subst hn; obtain ⟨L, X, eT, -⟩ := X; obtain ⟨cl, A, r, n⟩ := A
  exact Go.to (fun t k => X.laload B.1 (by rw [eT]; exact A.1) (State.isArrayOf_alike B.2.1.alike A.2.1) A.2.2 (by rw [r]; exact inb (by simpa using hj)) (by rw [r]; simpa using hv) (g := mkF m pc Ls (.int j :: .ref a :: st)) rfl rfl (hb B.2.2.1 hd) t k) g
theorem gbaload (B : Fix p Z s m meth c bytes maxL own nm ret) (X : St p l e R s m args below meth c h0 ws T h cells slots) {a : Addr} {vs : List Value} {j : Int32} {v : Value} {n : Nat} (A : VA Z h a .byte vs) (hn : vs.length = n) (hj : 0 ≤ j.toInt ∧ j.toInt < n) (hv : vs[j.toNatClampNeg]? = some v) (hd : decode bytes pc = .ok (.baload, 1)) (hp : pc' = pc + 1) (g : Go p e below s K N h0 ws Q T (mkF m pc' Ls (v :: st))) : Go p e below s K N h0 ws Q T (mkF m pc Ls (.int j :: .ref a :: st)) := by
  subst hp; subst hn; obtain ⟨L, X, eT, -⟩ := X; obtain ⟨cl, A, r, n⟩ := A
  exact Go.to (fun t k => X.baloadBytes B.1 (by rw [eT]; exact A.1) (State.isArrayOf_alike B.2.1.alike A.2.1) A.2.2 (by rw [r]; exact inb (by simpa using hj)) (by rw [r]; simpa using hv) (g := mkF m pc Ls (.int j :: .ref a :: st)) rfl rfl (hb B.2.2.1 hd) t k) g
theorem gzaload (B : Fix p Z s m meth c bytes maxL own nm ret) (X : St p l e R s m args below meth c h0 ws T h cells slots) {a : Addr} {vs : List Value} {j : Int32} {v : Value} {n : Nat} (A : VA Z h a .boolean vs) (hn : vs.length = n) (hj : 0 ≤ j.toInt ∧ j.toInt < n) (hv : vs[j.toNatClampNeg]? = some v) (hd : decode bytes pc = .ok (.baload, 1)) (hp : pc' = pc + 1) (g : Go p e below s K N h0 ws Q T (mkF m pc' Ls (v :: st))) : Go p e below s K N h0 ws Q T (mkF m pc Ls (.int j :: .ref a :: st)) := by
  subst hp; subst hn; obtain ⟨L, X, eT, -⟩ := X; obtain ⟨cl, A, r, n⟩ := A
  exact Go.to (fun t k => X.baloadBooleans B.1 (by rw [eT]; exact A.1) (State.isArrayOf_alike B.2.1.alike A.2.1) A.2.2 (by rw [r]; exact inb (by simpa using hj)) (by rw [r]; simpa using hv) (g := mkF m pc Ls (.int j :: .ref a :: st)) rfl rfl (hb B.2.2.1 hd) t k) g
theorem glength (B : Fix p Z s m meth c bytes maxL own nm ret) (X : St p l e R s m args below meth c h0 ws T h cells slots) {a : Addr} {ty : FieldType} {vs : List Value} {n : Int32} {k : Nat} (A : VA Z h a ty vs) (hk : vs.length = k) (hn : n.toInt = k) (hd : decode bytes pc = .ok (.arraylength, 1)) (hp : pc' = pc + 1) (g : Go p e below s K N h0 ws Q T (mkF m pc' Ls (.int n :: st))) : Go p e below s K N h0 ws Q T (mkF m pc Ls (.ref a :: st)) := by
  subst hp; subst hk; obtain ⟨L, X, eT, -⟩ := X; obtain ⟨cl, A, r, q⟩ := A
  have e1 : cl.slots.size.toInt32 = n := by rw [r]; apply Int32.toInt_inj.mp; rw [len_toInt (by simpa using q), hn]; simp
  exact Go.to (fun t k => X.arraylength B.1 (by rw [eT]; exact A.1) (State.isArrayOf_alike B.2.1.alike A.2.1) (g := mkF m pc Ls (.ref a :: st)) rfl rfl (hb B.2.2.1 hd) t (by rw [e1]; exact k)) g
theorem giastore (B : Fix p Z s m meth c bytes maxL own nm ret) (X : St p l e R s m args below meth c h0 ws T h cells slots) {a : Addr} {vs vs' : List Value} {j : Int32} {x : Int32} {i n : Nat} (A : VA Z h a .int vs) (hn : vs.length = n) (hj : 0 ≤ j.toInt ∧ j.toInt < n) (hi : j.toNatClampNeg = i) (hvs : vs.set i (.int x) = vs') (ha : a ∈ ws ∨ h0.size ≤ a) (hd : decode bytes pc = .ok (.iastore, 1)) (hp : pc' = pc + 1) (g : ∀ T' h', St p l e R s m args below meth c h0 ws T' h' cells slots → Wr h h' a i (.int x) → VA Z h' a .int vs' → Go p e below s K N h0 ws Q T' (mkF m pc' Ls st)) : Go p e below s K N h0 ws Q T (mkF m pc Ls (.int x :: .int j :: .ref a :: st)) := by
  subst hp; subst hi; subst hvs; subst hn; obtain ⟨L, X, eT, KK, FF⟩ := X; have A0 := A; obtain ⟨cl, A, r, n⟩ := A
  obtain ⟨T', h', X', e', W, k⟩ := stI X B.1 B.2.1 eT A (by rw [r]; exact inb (by simpa using hj)) (g := mkF m pc Ls (.int x :: .int j :: .ref a :: st)) rfl rfl (hb B.2.2.1 hd)
  exact Go.to k (g T' h' ⟨_, X', e', KK.wr W ha, fun y hy => (List.mem_append.mp hy).elim (FF y) fun q => by cases List.mem_singleton.mp q; exact ha⟩ W (A0.set W))
theorem glastore (B : Fix p Z s m meth c bytes maxL own nm ret) (X : St p l e R s m args below meth c h0 ws T h cells slots) {a : Addr} {vs vs' : List Value} {j : Int32} {x : Int64} {i n : Nat} (A : VA Z h a .long vs) (hn : vs.length = n) (hj : 0 ≤ j.toInt ∧ j.toInt < n) (hi : j.toNatClampNeg = i) (hvs : vs.set i (.long x) = vs') (ha : a ∈ ws ∨ h0.size ≤ a) (hd : decode bytes pc = .ok (.lastore, 1)) (hp : pc' = pc + 1) (g : ∀ T' h', St p l e R s m args below meth c h0 ws T' h' cells slots → Wr h h' a i (.long x) → VA Z h' a .long vs' → Go p e below s K N h0 ws Q T' (mkF m pc' Ls st)) : Go p e below s K N h0 ws Q T (mkF m pc Ls (.long x :: .int j :: .ref a :: st)) := by
  subst hp; subst hi; subst hvs; subst hn; obtain ⟨L, X, eT, KK, FF⟩ := X; have A0 := A; obtain ⟨cl, A, r, n⟩ := A
  obtain ⟨T', h', X', e', W, k⟩ := stJ X B.1 B.2.1 eT A (by rw [r]; exact inb (by simpa using hj)) (g := mkF m pc Ls (.long x :: .int j :: .ref a :: st)) rfl rfl (hb B.2.2.1 hd)
  exact Go.to k (g T' h' ⟨_, X', e', KK.wr W ha, fun y hy => (List.mem_append.mp hy).elim (FF y) fun q => by cases List.mem_singleton.mp q; exact ha⟩ W (A0.set W))
theorem gbastore (B : Fix p Z s m meth c bytes maxL own nm ret) (X : St p l e R s m args below meth c h0 ws T h cells slots) {a : Addr} {vs vs' : List Value} {j : Int32} {x : Int32} {i n : Nat} (A : VA Z h a .byte vs) (hn : vs.length = n) (hj : 0 ≤ j.toInt ∧ j.toInt < n) (hi : j.toNatClampNeg = i) (hvs : vs.set i (.int x.toInt8.toInt32) = vs') (ha : a ∈ ws ∨ h0.size ≤ a) (hd : decode bytes pc = .ok (.bastore, 1)) (hp : pc' = pc + 1) (g : ∀ T' h', St p l e R s m args below meth c h0 ws T' h' cells slots → Wr h h' a i (.int x.toInt8.toInt32) → VA Z h' a .byte vs' → Go p e below s K N h0 ws Q T' (mkF m pc' Ls st)) : Go p e below s K N h0 ws Q T (mkF m pc Ls (.int x :: .int j :: .ref a :: st)) := by
  subst hp; subst hi; subst hvs; subst hn; obtain ⟨L, X, eT, KK, FF⟩ := X; have A0 := A; obtain ⟨cl, A, r, n⟩ := A
  obtain ⟨T', h', X', e', W, k⟩ := stB X B.1 B.2.1 eT A (by rw [r]; exact inb (by simpa using hj)) (g := mkF m pc Ls (.int x :: .int j :: .ref a :: st)) rfl rfl (hb B.2.2.1 hd)
  exact Go.to k (g T' h' ⟨_, X', e', KK.wr W ha, fun y hy => (List.mem_append.mp hy).elim (FF y) fun q => by cases List.mem_singleton.mp q; exact ha⟩ W (A0.set W))
theorem gzastore (B : Fix p Z s m meth c bytes maxL own nm ret) (X : St p l e R s m args below meth c h0 ws T h cells slots) {a : Addr} {vs vs' : List Value} {j : Int32} {x : Int32} {i n : Nat} (A : VA Z h a .boolean vs) (hn : vs.length = n) (hj : 0 ≤ j.toInt ∧ j.toInt < n) (hi : j.toNatClampNeg = i) (hvs : vs.set i (.int (x &&& 1)) = vs') (ha : a ∈ ws ∨ h0.size ≤ a) (hd : decode bytes pc = .ok (.bastore, 1)) (hp : pc' = pc + 1) (g : ∀ T' h', St p l e R s m args below meth c h0 ws T' h' cells slots → Wr h h' a i (.int (x &&& 1)) → VA Z h' a .boolean vs' → Go p e below s K N h0 ws Q T' (mkF m pc' Ls st)) : Go p e below s K N h0 ws Q T (mkF m pc Ls (.int x :: .int j :: .ref a :: st)) := by
  subst hp; subst hi; subst hvs; subst hn; obtain ⟨L, X, eT, KK, FF⟩ := X; have A0 := A; obtain ⟨cl, A, r, n⟩ := A
  obtain ⟨T', h', X', e', W, k⟩ := stZ X B.1 B.2.1 eT A (by rw [r]; exact inb (by simpa using hj)) (g := mkF m pc Ls (.int x :: .int j :: .ref a :: st)) rfl rfl (hb B.2.2.1 hd)
  exact Go.to k (g T' h' ⟨_, X', e', KK.wr W ha, fun y hy => (List.mem_append.mp hy).elim (FF y) fun q => by cases List.mem_singleton.mp q; exact ha⟩ W (A0.set W))
theorem gnewarray (B : Fix p Z s m meth c bytes maxL own nm ret) (X : St p l e R s m args below meth c h0 ws T h cells slots) {aty : ArrayType} {n : Int32} {cap : Nat} {vs : List Value} {ty : FieldType} (hty : newarray.typeOf aty = ty) (hvs : List.replicate n.toNatClampNeg (defaultValue ty) = vs) (w : (Cond.arrayClass ty).before a0 Z = true) (hn : 0 ≤ n.toInt) (hcap : n.toInt ≤ cap) (hb8 : cap * 8 ≤ 536870912) (hc : cells + 1 ≤ R.cells) (hl : slots + cap ≤ R.slots) (hd : decode bytes pc = .ok (.newarray aty, 2)) (hp : pc' = pc + 2) (g : ∀ T' h' a, St p l e R s m args below meth c h0 ws T' h' (cells + 1) (slots + cap) → a = h.size → Ext h h' → h0.size ≤ a → VA Z h' a ty vs → Go p e below s K N h0 ws Q T' (mkF m pc' Ls (.ref a :: st))) : Go p e below s K N h0 ws Q T (mkF m pc Ls (.int n :: st)) := by
  subst hp; subst hty; subst hvs; obtain ⟨L, X, eT, KK, FF⟩ := X
  have hn' : ¬ n < 0 := by rw [Int32.lt_iff_toInt_lt, show (0 : Int32).toInt = 0 from rfl]; omega
  obtain ⟨T', h', cA, X', e', E, A, k⟩ := newP X B.1 B.2.1 w eT (g := mkF m pc Ls (.int n :: st)) rfl (hb B.2.2.1 hd) rfl hn' (cap := cap) (by simp only [Int32.toNatClampNeg]; omega) hb8 hc hl
  exact Go.to k (g T' h' _ ⟨_, X', e', KK.ext E, FF⟩ rfl E KK.1 (VA.new A hn'))
theorem gget (B : Fix p Z s m meth c bytes maxL own nm ret) (X : St p l e R s m args below meth c h0 ws T h cells slots) {a : Addr} {i : Nat} {C n d : String} {v : Value} (w : (Cond.fieldLink own i C n d).before a0 Z = true) (F : Fld Z h a C n d v) (hd : decode bytes pc = .ok (.getfield i, 3)) (hp : pc' = pc + 3) (g : ∀ T', St p l e R s m args below meth c h0 ws T' h cells slots → Go p e below s K N h0 ws Q T' (mkF m pc' Ls (v :: st))) : Go p e below s K N h0 ws Q T (mkF m pc Ls (.ref a :: st)) := by
  subst hp; obtain ⟨L, X, eT, r⟩ := X
  obtain ⟨T', X', e', k⟩ := getF X B.1 B.2.1 B.2.2.2.2.1 (host := "") (Or.inl w) Via.refl eT F (g := mkF m pc Ls (.ref a :: st)) rfl rfl (hb B.2.2.1 hd)
  exact Go.to k (g T' ⟨L, X', e', r⟩)
theorem gput (B : Fix p Z s m meth c bytes maxL own nm ret) (X : St p l e R s m args below meth c h0 ws T h cells slots) {a : Addr} {i kk : Nat} {C O n d : String} {ty : FieldType} {v old : Value} (w : (Cond.fieldLink own i O n d).before a0 Z = true) (F : Fld Z h a O n d old) (E : Exa Z h a C) (L : (Cond.lays C O n d).before a0 Z = true ∨ ((Cond.laysFinal C O n d).before a0 Z = true ∧ own = O ∧ nm = "<init>")) (wi : (Cond.instantiable C kk).before a0 Z = true) (hty : parseFieldDescriptor d = some ty) (hn : narrow ty v = v) (hf : fits ty v = true) (ha : a ∈ ws ∨ h0.size ≤ a) (hd : decode bytes pc = .ok (.putfield i, 3)) (hp : pc' = pc + 3) (g : ∀ T' h', St p l e R s m args below meth c h0 ws T' h' cells slots → Wr h h' a (Jvm.RoadKit.slotOf Z O n d) v → Go p e below s K N h0 ws Q T' (mkF m pc' Ls st)) : Go p e below s K N h0 ws Q T (mkF m pc Ls (v :: .ref a :: st)) := by
  subst hp; obtain ⟨L0, X, eT, KK, FF⟩ := X
  obtain ⟨T', h', X', e', W, k⟩ := putF X B.1 B.2.1 B.2.2.2.2.1 (host := "") (Or.inl w) Via.refl eT F E (L.imp id fun q => ⟨q.1, q.2.1, B.2.2.2.2.2.1.trans q.2.2⟩) wi hty hn hf (g := mkF m pc Ls (v :: .ref a :: st)) rfl rfl (hb B.2.2.1 hd)
  exact Go.to k (g T' h' ⟨_, X', e', KK.wr W ha, fun y hy => (List.mem_append.mp hy).elim (FF y) fun q => by cases List.mem_singleton.mp q; exact ha⟩ W)
theorem gnew (B : Fix p Z s m meth c bytes maxL own nm ret) (X : St p l e R s m args below meth c h0 ws T h cells slots) {i n : Nat} {C : String} (w : (Cond.classLink own i C).before a0 Z = true) (wi : (Cond.instantiable C n).before a0 Z = true) (wz : (Cond.initialized C).before a0 Z = true) (hc : cells + 1 ≤ R.cells) (hl : slots + n ≤ R.slots) (hd : decode bytes pc = .ok (.new i, 3)) (hp : pc' = pc + 3) (g : ∀ T' h' a, St p l e R s m args below meth c h0 ws T' h' (cells + 1) (slots + n) → a = h.size → Ext h h' → h0.size ≤ a → Exa Z h' a C → (∀ {O nm d : String} {ty : FieldType}, Laid Z a0 C O nm d → parseFieldDescriptor d = some ty → Fld Z h' a O nm d (defaultValue ty)) → Go p e below s K N h0 ws Q T' (mkF m pc' Ls (.ref a :: st))) : Go p e below s K N h0 ws Q T (mkF m pc Ls st) := by
  subst hp; obtain ⟨L0, X, eT, KK, FF⟩ := X
  obtain ⟨T', h', X', e', E, A, D, -, k⟩ := newO X B.1 B.2.1 B.2.2.2.2.1 w wi wz eT (g := mkF m pc Ls st) rfl (hb B.2.2.1 hd) hc hl
  exact Go.to k (g T' h' _ ⟨_, X', e', KK.ext E, FF⟩ rfl E KK.1 A D)
theorem ginitO (B : Fix p Z s m meth c bytes maxL own nm ret) (X : St p l e R s m args below meth c h0 ws T h cells slots) {a : Addr} {i W : Nat} (w1 : (Cond.methodLink own i Lib.objectInit).before a0 Z = true) (w2 : (Cond.instanceMethod Lib.objectInit).before a0 Z = true) (w3 : (Cond.code Lib.objectInit ⟨#[0xb1]⟩ 1 none).before a0 Z = true) (hsz : Ls.size = maxL) (hf : 1 ≤ R.frames) (hW : (st.map fun v => v.category).sum ≤ W) (hl : W + 12 ≤ R.locals) (hd : decode bytes pc = .ok (.invokespecial i, 3)) (hp : pc' = pc + 3) (g : ∀ T', St p l e R s m args below meth c h0 ws T' h cells slots → Go p e below s K N h0 ws Q T' (mkF m pc' Ls st)) : Go p e below s K N h0 ws Q T (mkF m pc Ls (.ref a :: st)) := by
  subst hp; obtain ⟨L0, X, eT, r⟩ := X
  obtain ⟨T', X', e', k⟩ := initO X B.1 B.2.1 B.2.2.2.2.1 w1 w2 w3 eT (g := mkF m pc Ls (.ref a :: st)) rfl (hsz.trans B.2.2.2.1.symm) rfl (hb B.2.2.1 hd) hf (W := W) (by show 2 * 0 + _ ≤ _; rw [Nat.mul_zero, Nat.zero_add]; exact hW) hl
  exact Go.to k (g T' ⟨L0, X', e', r⟩)
theorem gcallS (B : Fix p Z s m meth c bytes maxL own nm ret) (X : St p l e R s m args below meth c h0 ws T h cells slots) {y : MethodName} {bytes' : ByteArray} {maxL' : Nat} {ret' : Option FieldType} {rm : Room} {ws' : List Addr} {Q' : Option Value → Heap → Prop} {stk argsL : List Value} {i W : Nat} {ps : List FieldType} {rr : Option FieldType}  (w1 : (Cond.methodLink own i y).before a0 Z = true) (w2 : (Cond.static y).before a0 Z = true) (w3 : (Cond.initialized y.cls).before a0 Z = true) (w4 : (Cond.code y bytes' maxL' ret').before a0 Z = true) (hy : y.cls ≠ "java/lang/invoke/MethodHandle" ∧ y.cls ≠ "java/lang/invoke/VarHandle") (M : Meth l Z y bytes' maxL' ret' rm argsL.toArray h ws' Q') (hpd : parseMethodDescriptor y.desc = some ⟨ps, rr⟩) (hlen : argsL.length = ps.length) (hstk : stk = argsL.reverse ++ st) (hsz : Ls.size = maxL) (hW : (st.map fun v => v.category).sum ≤ W) (hfr : rm.frames + 1 ≤ R.frames) (hlo : W + (maxL' + 11) + rm.locals ≤ R.locals) (hcs : cells + rm.cells ≤ R.cells) (hss : slots + rm.slots ≤ R.slots) (hws : ∀ x ∈ ws', x ∈ ws ∨ h0.size ≤ x) (hd : decode bytes pc = .ok (.invokestatic i, 3)) (hp : pc' = pc + 3)
    (g : ∀ T' h' v, St p l e R s m args below meth c h0 ws T' h' (cells + rm.cells) (slots + rm.slots) → Keep h h' ws' → Q' v h' → Go p e below s K N h0 ws Q T' (mkF m pc' Ls (v.toList ++ st))) : Go p e below s K N h0 ws Q T (mkF m pc Ls stk) := by
  subst hp; subst hstk; obtain ⟨L0, X, eT, KK, FF⟩ := X
  obtain ⟨v2, _, ⟨T2, L2, c2, n2⟩, -, X2, ⟨Lc2, hq, l2, y2, z2⟩, k2⟩ := Jvm.LawKit.callS X B.1 (y := y) B.2.2.2.2.1 (mvT B.2.1 w1) (mvT B.2.1 w2) (mvT B.2.1 w3) (mvT B.2.1 w4) hy (backOf (W := W) (Q := fun v h' L => Q' v h' ∧ Keep h h' ws' ∧ FrW h ws' L) (M []) B.2.1 w4 w3 hfr hlo) (g := mkF m pc Ls (argsL.reverse ++ st)) rfl (hsz.trans B.2.2.2.1.symm) (argsL := argsL) (rest := st) (lenOf hpd hlen) rfl (by show 2 * 0 + _ ≤ _; rw [Nat.mul_zero, Nat.zero_add]; exact hW) (hb B.2.2.1 hd) (fun _ _ => ⟨rfl, eT, hcs, hss⟩)
  dsimp only [Pt.U, Pt.locs, Pt.cells, Pt.slots] at X2 l2 y2 z2 k2 hq
  subst l2 y2 z2
  refine Go.to k2 (g T2 T2.heap v2 ⟨_, X2, rfl, KK.trans hq.2.1 hws, fun y hy => (List.mem_append.mp hy).elim (FF y) fun q => ?_⟩ hq.2.1 hq.1)
  exact (hq.2.2 y q).elim (fun z => hws _ z) fun z => Or.inr (Nat.le_trans KK.1 z)
theorem gcallI (B : Fix p Z s m meth c bytes maxL own nm ret) (X : St p l e R s m args below meth c h0 ws T h cells slots) {y : MethodName} {bytes' : ByteArray} {maxL' : Nat} {ret' : Option FieldType} {rm : Room} {ws' : List Addr} {Q' : Option Value → Heap → Prop} {stk argsL : List Value} {i W : Nat} {ps : List FieldType} {rr : Option FieldType} {a : Addr} (hni : y.name = "<init>") (hret : ret' = none) (w1 : (Cond.methodLink own i y).before a0 Z = true) (w2 : (Cond.instanceMethod y).before a0 Z = true) (w3 : (Cond.initialized y.cls).before a0 Z = true) (w4 : (Cond.code y bytes' maxL' ret').before a0 Z = true) (hy : y.cls ≠ "java/lang/invoke/MethodHandle" ∧ y.cls ≠ "java/lang/invoke/VarHandle") (M : Meth l Z y bytes' maxL' ret' rm (.ref a :: argsL).toArray h ws' Q') (hpd : parseMethodDescriptor y.desc = some ⟨ps, rr⟩) (hlen : argsL.length = ps.length) (hstk : stk = argsL.reverse ++ .ref a :: st) (hsz : Ls.size = maxL) (hW : (st.map fun v => v.category).sum ≤ W) (hfr : rm.frames + 1 ≤ R.frames) (hlo : W + (maxL' + 11) + rm.locals ≤ R.locals) (hcs : cells + rm.cells ≤ R.cells) (hss : slots + rm.slots ≤ R.slots) (hws : ∀ x ∈ ws', x ∈ ws ∨ h0.size ≤ x) (hd : decode bytes pc = .ok (.invokespecial i, 3)) (hp : pc' = pc + 3)
    (g : ∀ T' h' v, St p l e R s m args below meth c h0 ws T' h' (cells + rm.cells) (slots + rm.slots) → Keep h h' ws' → Q' v h' → Go p e below s K N h0 ws Q T' (mkF m pc' Ls (v.toList ++ st))) : Go p e below s K N h0 ws Q T (mkF m pc Ls stk) := by
  subst hp; subst hstk; obtain ⟨L0, X, eT, KK, FF⟩ := X
  subst hret
  obtain ⟨v2, _, ⟨T2, L2, c2, n2⟩, -, X2, ⟨Lc2, hq, l2, y2, z2⟩, k2⟩ := X.specialBack B.1 (y := y) hni B.2.2.2.2.1 (mvT B.2.1 w1) (mvT B.2.1 w2) (mvT B.2.1 w4) hy (backOf (W := W) (Q := fun v h' L => Q' v h' ∧ Keep h h' ws' ∧ FrW h ws' L) (M []) B.2.1 w4 w3 hfr hlo) (g := mkF m pc Ls (argsL.reverse ++ .ref a :: st)) rfl (hsz.trans B.2.2.2.1.symm) (Steps.refl _) (a := a) (argsL := argsL) (rest := st) (lenOf hpd hlen) rfl (by show 2 * 0 + _ ≤ _; rw [Nat.mul_zero, Nat.zero_add]; exact hW) (hb B.2.2.1 hd) (fun _ _ => ⟨rfl, eT, hcs, hss⟩)
  dsimp only [Pt.U, Pt.locs, Pt.cells, Pt.slots] at X2 l2 y2 z2 k2 hq
  subst l2 y2 z2
  refine Go.to (fun t kt => k2.trans kt) (g T2 T2.heap v2 ⟨_, X2, rfl, KK.trans hq.2.1 hws, fun y hy => (List.mem_append.mp hy).elim (FF y) fun q => ?_⟩ hq.2.1 hq.1)
  exact (hq.2.2 y q).elim (fun z => hws _ z) fun z => Or.inr (Nat.le_trans KK.1 z)
theorem gcallV (B : Fix p Z s m meth c bytes maxL own nm ret) (X : St p l e R s m args below meth c h0 ws T h cells slots) {y : MethodName} {bytes' : ByteArray} {maxL' : Nat} {ret' : Option FieldType} {rm : Room} {ws' : List Addr} {Q' : Option Value → Heap → Prop} {stk argsL : List Value} {i W : Nat} {ps : List FieldType} {rr : Option FieldType} {a : Addr} {z : MethodName} {C : String} (E : Exa Z h a C) (w1 : (Cond.methodLink own i y).before a0 Z = true) (w2 : (Cond.declares y).before a0 Z = true) (w5 : (Cond.selects C y z).before a0 Z = true) (w6 : (Cond.instanceMethod z).before a0 Z = true) (w3 : (Cond.initialized z.cls).before a0 Z = true) (w4 : (Cond.code z bytes' maxL' ret').before a0 Z = true) (hyz : y = z) (hy : y.cls ≠ "java/lang/invoke/MethodHandle" ∧ y.cls ≠ "java/lang/invoke/VarHandle") (M : Meth l Z z bytes' maxL' ret' rm (.ref a :: argsL).toArray h ws' Q') (hpd : parseMethodDescriptor y.desc = some ⟨ps, rr⟩) (hlen : argsL.length = ps.length) (hstk : stk = argsL.reverse ++ .ref a :: st) (hsz : Ls.size = maxL) (hW : (st.map fun v => v.category).sum ≤ W) (hfr : rm.frames + 1 ≤ R.frames) (hlo : W + (maxL' + 11) + rm.locals ≤ R.locals) (hcs : cells + rm.cells ≤ R.cells) (hss : slots + rm.slots ≤ R.slots) (hws : ∀ x ∈ ws', x ∈ ws ∨ h0.size ≤ x) (hd : decode bytes pc = .ok (.invokevirtual i, 3)) (hp : pc' = pc + 3)
    (g : ∀ T' h' v, St p l e R s m args below meth c h0 ws T' h' (cells + rm.cells) (slots + rm.slots) → Keep h h' ws' → Q' v h' → Go p e below s K N h0 ws Q T' (mkF m pc' Ls (v.toList ++ st))) : Go p e below s K N h0 ws Q T (mkF m pc Ls stk) := by
  subst hp; subst hstk; obtain ⟨L0, X, eT, KK, FF⟩ := X
  subst hyz
  obtain ⟨cq, kq, qa, qb, qc⟩ := isOf B.2.1 eT E
  obtain ⟨v2, _, ⟨T2, L2, c2, n2⟩, -, X2, ⟨Lc2, hq, l2, y2, z2⟩, k2⟩ := X.virtualBack B.1 (y := y) (z := y) B.2.2.2.2.1 (mvT B.2.1 w1) (mvT B.2.1 w2) (notFace_of_selects (args := #[]) (mvT B.2.1 w5)) (mvT B.2.1 w5) (mvT B.2.1 w6) hy (backOf (W := W) (Q := fun v h' L => Q' v h' ∧ Keep h h' ws' ∧ FrW h ws' L) (M []) B.2.1 w4 w3 hfr hlo) qa qc (g := mkF m pc Ls (argsL.reverse ++ .ref a :: st)) rfl (hsz.trans B.2.2.2.1.symm) (Steps.refl _) (argsL := argsL) (rest := st) (lenOf hpd hlen) rfl (by show 2 * 0 + _ ≤ _; rw [Nat.mul_zero, Nat.zero_add]; exact hW) (hb B.2.2.1 hd) (fun _ _ => ⟨rfl, eT, hcs, hss⟩)
  dsimp only [Pt.U, Pt.locs, Pt.cells, Pt.slots] at X2 l2 y2 z2 k2 hq
  subst l2 y2 z2
  refine Go.to (fun t kt => k2.trans kt) (g T2 T2.heap v2 ⟨_, X2, rfl, KK.trans hq.2.1 hws, fun y hy => (List.mem_append.mp hy).elim (FF y) fun q => ?_⟩ hq.2.1 hq.1)
  exact (hq.2.2 y q).elim (fun z => hws _ z) fun z => Or.inr (Nat.le_trans KK.1 z)
theorem gcallP (B : Fix p Z s m meth c bytes maxL own nm ret) (X : St p l e R s m args below meth c h0 ws T h cells slots) {y : MethodName} {bytes' : ByteArray} {maxL' : Nat} {ret' : Option FieldType} {rm : Room} {ws' : List Addr} {Q' : Option Value → Heap → Prop} {stk argsL : List Value} {i W : Nat} {ps : List FieldType} {rr : Option FieldType} {a : Addr} {C : String} (E : Exa Z h a C) (w1 : (Cond.methodLink own i y).before a0 Z = true) (w2 : (Cond.instanceMethod y).before a0 Z = true) {nn : Nat} (w5 : (Cond.instantiable y.cls nn).before a0 Z = true) (w6 : (Cond.privateMethod y).before a0 Z = true) (w3 : (Cond.initialized y.cls).before a0 Z = true) (w4 : (Cond.code y bytes' maxL' ret').before a0 Z = true) (hy : y.cls ≠ "java/lang/invoke/MethodHandle" ∧ y.cls ≠ "java/lang/invoke/VarHandle") (M : Meth l Z y bytes' maxL' ret' rm (.ref a :: argsL).toArray h ws' Q') (hpd : parseMethodDescriptor y.desc = some ⟨ps, rr⟩) (hlen : argsL.length = ps.length) (hstk : stk = argsL.reverse ++ .ref a :: st) (hsz : Ls.size = maxL) (hW : (st.map fun v => v.category).sum ≤ W) (hfr : rm.frames + 1 ≤ R.frames) (hlo : W + (maxL' + 11) + rm.locals ≤ R.locals) (hcs : cells + rm.cells ≤ R.cells) (hss : slots + rm.slots ≤ R.slots) (hws : ∀ x ∈ ws', x ∈ ws ∨ h0.size ≤ x) (hd : decode bytes pc = .ok (.invokevirtual i, 3)) (hp : pc' = pc + 3)
    (g : ∀ T' h' v, St p l e R s m args below meth c h0 ws T' h' (cells + rm.cells) (slots + rm.slots) → Keep h h' ws' → Q' v h' → Go p e below s K N h0 ws Q T' (mkF m pc' Ls (v.toList ++ st))) : Go p e below s K N h0 ws Q T (mkF m pc Ls stk) := by
  subst hp; subst hstk; obtain ⟨L0, X, eT, KK, FF⟩ := X
  obtain ⟨cq, q, q'⟩ := E.cell
  obtain ⟨ci, ki, i1, i2, -, i4, -⟩ := Cond.instantiable_spec (mvT (args := args) B.2.1 w5)
  have w5' : (Cond.selects y.cls y y).before args s = true := selects_self_of_private i1 i2 (by simp only [Bool.or_eq_false_iff] at i4; exact i4.1) (Cond.privateMethod_at (mvP B.2.1 w6 (args := #[]))) (mvT B.2.1 w2) hy
  obtain ⟨v2, _, ⟨T2, L2, c2, n2⟩, -, X2, ⟨Lc2, hq, l2, y2, z2⟩, k2⟩ := X.privateBack B.1 (y := y) B.2.2.2.2.1 (mvT B.2.1 w1) (mvT B.2.1 w2) w5' (Cond.privateMethod_at (mvP B.2.1 w6 (args := #[]))) (mvT B.2.1 w4) hy (backOf (W := W) (Q := fun v h' L => Q' v h' ∧ Keep h h' ws' ∧ FrW h ws' L) (M []) B.2.1 w4 w3 hfr hlo) (g := mkF m pc Ls (argsL.reverse ++ .ref a :: st)) rfl (hsz.trans B.2.2.2.1.symm) (Steps.refl _) (a := a) (by rw [eT]; exact q) q' (argsL := argsL) (rest := st) (lenOf hpd hlen) rfl (by show 2 * 0 + _ ≤ _; rw [Nat.mul_zero, Nat.zero_add]; exact hW) (hb B.2.2.1 hd) (fun _ _ => ⟨rfl, eT, hcs, hss⟩)
  dsimp only [Pt.U, Pt.locs, Pt.cells, Pt.slots] at X2 l2 y2 z2 k2 hq
  subst l2 y2 z2
  refine Go.to (fun t kt => k2.trans kt) (g T2 T2.heap v2 ⟨_, X2, rfl, KK.trans hq.2.1 hws, fun y hy => (List.mem_append.mp hy).elim (FF y) fun q => ?_⟩ hq.2.1 hq.1)
  exact (hq.2.2 y q).elim (fun z => hws _ z) fun z => Or.inr (Nat.le_trans KK.1 z)
theorem pureG {rm : Room} {r : Value} {ws' : List Addr} (hc : rm.cells = 0) (hs : rm.slots = 0) (g : ∀ T', St p l e R s m args below meth c h0 ws T' h cells slots → Go p e below s K N h0 ws Q T' (mkF m pc' Ls (r :: st))) : ∀ T' h' v, St p l e R s m args below meth c h0 ws T' h' (cells + rm.cells) (slots + rm.slots) → Keep h h' ws' → (v = some r ∧ h' = h) → Go p e below s K N h0 ws Q T' (mkF m pc' Ls (v.toList ++ st)) := by
  rintro T' h' v X k ⟨rfl, rfl⟩
  rw [hc, hs] at X; exact g T' X
theorem pureV {rm : Room} {ws' : List Addr} (hc : rm.cells = 0) (hs : rm.slots = 0) (g : ∀ T', St p l e R s m args below meth c h0 ws T' h cells slots → Go p e below s K N h0 ws Q T' (mkF m pc' Ls st)) : ∀ T' h' v, St p l e R s m args below meth c h0 ws T' h' (cells + rm.cells) (slots + rm.slots) → Keep h h' ws' → (v = none ∧ h' = h) → Go p e below s K N h0 ws Q T' (mkF m pc' Ls (v.toList ++ st)) := by
  rintro T' h' v X k ⟨rfl, rfl⟩
  rw [hc, hs] at X; exact g T' X
theorem joinH (X : St p l e R s m args below meth c h0 ws T h cells slots) {F : JFrame} {P : Heap → Prop} {cells' slots' : Nat} (b : (∀ T' h', St p l e R s m args below meth c h0 ws T' h' cells' slots' → P h' → Go p e below s K N h0 ws Q T' F) → Go p e below s K N h0 ws Q T (mkF m pc Ls st)) (k : ∀ T' h', St p l e R s m args below meth c h0 ws T' h' cells' slots' → P h' → Go p e below s K N h0 ws Q T' F) : Go p e below s K N h0 ws Q T (mkF m pc Ls st) := b k
theorem joinG {α : Type} (B : Fix p Z s m meth c bytes maxL own nm ret) (X : St p l e R s m args below meth c h0 ws T h cells slots) {F : α → JFrame} {r : α} {f : JFrame} (b : (∀ T', St p l e R s m args below meth c h0 ws T' h cells slots → Go p e below s K N h0 ws Q T' (F r)) → Go p e below s K N h0 ws Q T f) (k : ∀ T', St p l e R s m args below meth c h0 ws T' h cells slots → Go p e below s K N h0 ws Q T' (F r)) : Go p e below s K N h0 ws Q T f := b k
theorem nbb (x : Int32) : x.toInt8.toInt32.toInt8.toInt32 = x.toInt8.toInt32 := by simp
theorem nb (x : Int32) : nar .byte x.toInt8.toInt32 = x.toInt8.toInt32 := by simp [nar]
theorem retI (X : Stand p l e R s m args below meth c T locs cells slots) (hx : p.tables.exec = Jvm.exec) {z : Int32} {rest : List Value} (hret : meth.sig.returnType = some .int) (hd : decode c.code pc = .ok (.ireturn, 1)) {fs : List Frame}
    (hl : ∀ (f : JFrame) (acts : List Action), f.method = m → f.locked = none → f.entered = [] → (doReturn e (T.setTop f) acts (some (.int z))).1 = T.setFrames fs) : Steps p.tables e below (T.setTop (mkF m pc Ls (.int z :: rest))) (T.setFrames fs) := by
  have hm' : T.vm.method? m = some meth := X.method'
  have hn : narrow .int (.int z) = .int z := rfl
  show Steps p.tables e below (T.setTop { method := m, pc := pc, locals := Ls, stack := _ :: rest, locked := none }) _
  jvm_step X.here [X.here.top, hx, hd, hm', hret, hn]
  first | (intro acts; rw [hl _ acts rfl rfl rfl]) | rw [hl _ _ rfl rfl rfl]
  exact Steps.refl _
theorem gretI (B : Fix p Z s m meth c bytes maxL own nm (some .int)) (X : St p l e R s m args below meth c h0 ws T h cells slots) {z : Int32} (hd : decode bytes pc = .ok (.ireturn, 1)) (hk : cells ≤ K) (hn : slots ≤ N) (hQ : Q (some (.int z)) h) : Go p e below s K N h0 ws Q T (mkF m pc Ls (.int z :: st)) := by
  obtain ⟨L0, X, eT, KK, FF⟩ := X; have hlk := B.2.2.2.2.2.2.2; have hrt := B.2.2.2.2.2.2.1
  obtain ⟨fs, hr, hrun, hended, hW, hsame⟩ := X.leave (v := some (.int z)) (fun h => by rw [hrt] at h; cases h) hlk
  exact ⟨_, _, retI X B.1 hrt (hb B.2.2.1 hd) hr, hrun, hended, _, _, rfl, ⟨by show Q _ T.heap; rw [eT]; exact hQ, by show Keep h0 T.heap ws; rw [eT]; exact KK, FF⟩, ⟨_, rfl⟩, hW, hsame.mono hk hn⟩
theorem gretN {t : FieldType} (B : Fix p Z s m meth c bytes maxL own nm (some t)) (X : St p l e R s m args below meth c h0 ws T h cells slots) {z z' : Int32} (ht : t = .boolean ∨ t = .byte ∨ t = .char ∨ t = .short) (hz : nar t z = z') (hd : decode bytes pc = .ok (.ireturn, 1)) (hk : cells ≤ K) (hn : slots ≤ N) (hQ : Q (some (.int z')) h) : Go p e below s K N h0 ws Q T (mkF m pc Ls (.int z :: st)) := by
  subst hz; obtain ⟨L0, X, eT, KK, FF⟩ := X; have hlk := B.2.2.2.2.2.2.2; have hrt := B.2.2.2.2.2.2.1
  obtain ⟨fs, hr, hrun, hended, hW, hsame⟩ := X.leave (v := some (.int (nar t z))) (fun h => by rw [hrt] at h; cases h) hlk
  exact ⟨_, _, retN X B.1 hrt ht (hb B.2.2.1 hd) hr, hrun, hended, _, _, rfl, ⟨by show Q _ T.heap; rw [eT]; exact hQ, by show Keep h0 T.heap ws; rw [eT]; exact KK, FF⟩, ⟨_, rfl⟩, hW, hsame.mono hk hn⟩
theorem gretL (B : Fix p Z s m meth c bytes maxL own nm (some .long)) (X : St p l e R s m args below meth c h0 ws T h cells slots) {z : Int64} (hd : decode bytes pc = .ok (.lreturn, 1)) (hk : cells ≤ K) (hn : slots ≤ N) (hQ : Q (some (.long z)) h) : Go p e below s K N h0 ws Q T (mkF m pc Ls (.long z :: st)) := by
  obtain ⟨L0, X, eT, KK, FF⟩ := X; have hlk := B.2.2.2.2.2.2.2; have hrt := B.2.2.2.2.2.2.1
  obtain ⟨fs, hr, hrun, hended, hW, hsame⟩ := X.leave (v := some (.long z)) (fun h => by rw [hrt] at h; cases h) hlk
  exact ⟨_, _, retOut X B.1 hrt rfl (Or.inr (Or.inl ⟨rfl, rfl, _, rfl⟩)) (hb B.2.2.1 hd) hr, hrun, hended, _, _, rfl, ⟨by show Q _ T.heap; rw [eT]; exact hQ, by show Keep h0 T.heap ws; rw [eT]; exact KK, FF⟩, ⟨_, rfl⟩, hW, hsame.mono hk hn⟩
theorem gretA {t : FieldType} (B : Fix p Z s m meth c bytes maxL own nm (some t)) (X : St p l e R s m args below meth c h0 ws T h cells slots) {a : Addr} (ht : t.isReference = true) (hnn : narrow t (.ref a) = .ref a) (hd : decode bytes pc = .ok (.areturn, 1)) (hk : cells ≤ K) (hn : slots ≤ N) (hQ : Q (some (.ref a)) h) : Go p e below s K N h0 ws Q T (mkF m pc Ls (.ref a :: st)) := by
  obtain ⟨L0, X, eT, KK, FF⟩ := X; have hlk := B.2.2.2.2.2.2.2; have hrt := B.2.2.2.2.2.2.1
  obtain ⟨fs, hr, hrun, hended, hW, hsame⟩ := X.leave (v := some (.ref a)) (fun h => by rw [hrt] at h; cases h) hlk
  exact ⟨_, _, retOut X B.1 hrt hnn (Or.inr (Or.inr (Or.inr (Or.inr ⟨rfl, ht, rfl⟩)))) (hb B.2.2.1 hd) hr, hrun, hended, _, _, rfl, ⟨by show Q _ T.heap; rw [eT]; exact hQ, by show Keep h0 T.heap ws; rw [eT]; exact KK, FF⟩, ⟨_, rfl⟩, hW, hsame.mono hk hn⟩
theorem gretV (B : Fix p Z s m meth c bytes maxL own nm none) (X : St p l e R s m args below meth c h0 ws T h cells slots)  (hd : decode bytes pc = .ok (.return_, 1)) (hk : cells ≤ K) (hn : slots ≤ N) (hQ : Q (none) h) : Go p e below s K N h0 ws Q T (mkF m pc Ls []) := by
  obtain ⟨L0, X, eT, KK, FF⟩ := X; have hlk := B.2.2.2.2.2.2.2; have hrt := B.2.2.2.2.2.2.1
  obtain ⟨fs, hr, hrun, hended, hW, hsame⟩ := X.leave (v := none) (fun h => rfl) hlk
  exact ⟨_, _, X.returnOut B.1 hrt (hb B.2.2.1 hd) hr, hrun, hended, _, _, rfl, ⟨by show Q _ T.heap; rw [eT]; exact hQ, by show Keep h0 T.heap ws; rw [eT]; exact KK, FF⟩, ⟨_, rfl⟩, hW, hsame.mono hk hn⟩
end Go
end Jvm.OwnKit
namespace Jvm.Pilot.@@N@@
open Jvm Jvm.ClassFile Sem Op Lib Jvm.Free Jvm.Stand Jvm.LawKit Jvm.RoadKit Jvm.OwnKit Bundle Jvm.Pilot.@@N@@.Jvm.D
def Dq (Z : State) (h : Heap) (a : Addr) (v0 v1 v2 v3 v4 : Value) : Prop := Exa Z h a "com/example/glouton/glouton/consistency/DistinctQueue" ∧ Fld Z h a "com/example/glouton/glouton/consistency/DistinctQueue" "ring" "[I" v0 ∧ Fld Z h a "com/example/glouton/glouton/consistency/DistinctQueue" "held" "[Z" v1 ∧ Fld Z h a "com/example/glouton/glouton/consistency/DistinctQueue" "head" "I" v2 ∧ Fld Z h a "com/example/glouton/glouton/consistency/DistinctQueue" "tail" "I" v3 ∧ Fld Z h a "com/example/glouton/glouton/consistency/DistinctQueue" "size" "I" v4
theorem Dq.lt {Z : State} {h : Heap} {a : Addr} {v0 v1 v2 v3 v4 : Value} (F : Dq Z h a v0 v1 v2 v3 v4) : a < h.size := F.1.lt
theorem Dq.ext {Z : State} {h h' : Heap} {a : Addr} {v0 v1 v2 v3 v4 : Value} (F : Dq Z h a v0 v1 v2 v3 v4) (E0 : Ext h h') : Dq Z h' a v0 v1 v2 v3 v4 := by obtain ⟨E, f0, f1, f2, f3, f4⟩ := F; exact ⟨E.ext E0, f0.ext E0, f1.ext E0, f2.ext E0, f3.ext E0, f4.ext E0⟩
theorem Dq.keep {Z : State} {h h' : Heap} {a : Addr} {v0 v1 v2 v3 v4 : Value} {ws : List Addr} (F : Dq Z h a v0 v1 v2 v3 v4) (K : Keep h h' ws) (q : a ∉ ws) : Dq Z h' a v0 v1 v2 v3 v4 := by obtain ⟨E, f0, f1, f2, f3, f4⟩ := F; exact ⟨E.keep K, f0.keep K q, f1.keep K q, f2.keep K q, f3.keep K q, f4.keep K q⟩
theorem Dq.other {Z : State} {h h' : Heap} {a : Addr} {v0 v1 v2 v3 v4 : Value} {b : Addr} {v : Value} {sl : Nat} (F : Dq Z h b v0 v1 v2 v3 v4) (W : Wr h h' a sl v) (q : b ≠ a) : Dq Z h' b v0 v1 v2 v3 v4 := by obtain ⟨E, f0, f1, f2, f3, f4⟩ := F; exact ⟨E.wr W, f0.other W (Or.inl q), f1.other W (Or.inl q), f2.other W (Or.inl q), f3.other W (Or.inl q), f4.other W (Or.inl q)⟩
theorem Dq.set0 {Z : State} {h h' : Heap} {a : Addr} {v0 v1 v2 v3 v4 : Value} {v : Value} {a0 : Array Value} (hw : ∀ d ∈ tables_1, d.before a0 Z = true) (F : Dq Z h a v0 v1 v2 v3 v4) (W : Wr h h' a (Jvm.RoadKit.slotOf Z "com/example/glouton/glouton/consistency/DistinctQueue" "ring" "[I") v) : Dq Z h' a v v1 v2 v3 v4 := by obtain ⟨E, f0, f1, f2, f3, f4⟩ := F; exact ⟨E.wr W, f0.same W, f1.other W (Or.inr (slot_ne (Or.inr (hw _ (List.mem_of_getElem? (i := 15) rfl))) (Or.inr (hw _ (List.mem_of_getElem? (i := 13) rfl))) (by decide) (t := (.array .boolean)) (t' := (.array .int)) (by decide) (by decide))), f2.other W (Or.inr (slot_ne (Or.inl (hw _ (List.mem_of_getElem? (i := 40) rfl))) (Or.inr (hw _ (List.mem_of_getElem? (i := 13) rfl))) (by decide) (t := .int) (t' := (.array .int)) (by decide) (by decide))), f3.other W (Or.inr (slot_ne (Or.inl (hw _ (List.mem_of_getElem? (i := 29) rfl))) (Or.inr (hw _ (List.mem_of_getElem? (i := 13) rfl))) (by decide) (t := .int) (t' := (.array .int)) (by decide) (by decide))), f4.other W (Or.inr (slot_ne (Or.inl (hw _ (List.mem_of_getElem? (i := 22) rfl))) (Or.inr (hw _ (List.mem_of_getElem? (i := 13) rfl))) (by decide) (t := .int) (t' := (.array .int)) (by decide) (by decide)))⟩
theorem Dq.set1 {Z : State} {h h' : Heap} {a : Addr} {v0 v1 v2 v3 v4 : Value} {v : Value} {a0 : Array Value} (hw : ∀ d ∈ tables_1, d.before a0 Z = true) (F : Dq Z h a v0 v1 v2 v3 v4) (W : Wr h h' a (Jvm.RoadKit.slotOf Z "com/example/glouton/glouton/consistency/DistinctQueue" "held" "[Z") v) : Dq Z h' a v0 v v2 v3 v4 := by obtain ⟨E, f0, f1, f2, f3, f4⟩ := F; exact ⟨E.wr W, f0.other W (Or.inr (slot_ne (Or.inr (hw _ (List.mem_of_getElem? (i := 13) rfl))) (Or.inr (hw _ (List.mem_of_getElem? (i := 15) rfl))) (by decide) (t := (.array .int)) (t' := (.array .boolean)) (by decide) (by decide))), f1.same W, f2.other W (Or.inr (slot_ne (Or.inl (hw _ (List.mem_of_getElem? (i := 40) rfl))) (Or.inr (hw _ (List.mem_of_getElem? (i := 15) rfl))) (by decide) (t := .int) (t' := (.array .boolean)) (by decide) (by decide))), f3.other W (Or.inr (slot_ne (Or.inl (hw _ (List.mem_of_getElem? (i := 29) rfl))) (Or.inr (hw _ (List.mem_of_getElem? (i := 15) rfl))) (by decide) (t := .int) (t' := (.array .boolean)) (by decide) (by decide))), f4.other W (Or.inr (slot_ne (Or.inl (hw _ (List.mem_of_getElem? (i := 22) rfl))) (Or.inr (hw _ (List.mem_of_getElem? (i := 15) rfl))) (by decide) (t := .int) (t' := (.array .boolean)) (by decide) (by decide)))⟩
theorem Dq.set2 {Z : State} {h h' : Heap} {a : Addr} {v0 v1 v2 v3 v4 : Value} {v : Value} {a0 : Array Value} (hw : ∀ d ∈ tables_1, d.before a0 Z = true) (F : Dq Z h a v0 v1 v2 v3 v4) (W : Wr h h' a (Jvm.RoadKit.slotOf Z "com/example/glouton/glouton/consistency/DistinctQueue" "head" "I") v) : Dq Z h' a v0 v1 v v3 v4 := by obtain ⟨E, f0, f1, f2, f3, f4⟩ := F; exact ⟨E.wr W, f0.other W (Or.inr (slot_ne (Or.inr (hw _ (List.mem_of_getElem? (i := 13) rfl))) (Or.inl (hw _ (List.mem_of_getElem? (i := 40) rfl))) (by decide) (t := (.array .int)) (t' := .int) (by decide) (by decide))), f1.other W (Or.inr (slot_ne (Or.inr (hw _ (List.mem_of_getElem? (i := 15) rfl))) (Or.inl (hw _ (List.mem_of_getElem? (i := 40) rfl))) (by decide) (t := (.array .boolean)) (t' := .int) (by decide) (by decide))), f2.same W, f3.other W (Or.inr (slot_ne (Or.inl (hw _ (List.mem_of_getElem? (i := 29) rfl))) (Or.inl (hw _ (List.mem_of_getElem? (i := 40) rfl))) (by decide) (t := .int) (t' := .int) (by decide) (by decide))), f4.other W (Or.inr (slot_ne (Or.inl (hw _ (List.mem_of_getElem? (i := 22) rfl))) (Or.inl (hw _ (List.mem_of_getElem? (i := 40) rfl))) (by decide) (t := .int) (t' := .int) (by decide) (by decide)))⟩
theorem Dq.set3 {Z : State} {h h' : Heap} {a : Addr} {v0 v1 v2 v3 v4 : Value} {v : Value} {a0 : Array Value} (hw : ∀ d ∈ tables_1, d.before a0 Z = true) (F : Dq Z h a v0 v1 v2 v3 v4) (W : Wr h h' a (Jvm.RoadKit.slotOf Z "com/example/glouton/glouton/consistency/DistinctQueue" "tail" "I") v) : Dq Z h' a v0 v1 v2 v v4 := by obtain ⟨E, f0, f1, f2, f3, f4⟩ := F; exact ⟨E.wr W, f0.other W (Or.inr (slot_ne (Or.inr (hw _ (List.mem_of_getElem? (i := 13) rfl))) (Or.inl (hw _ (List.mem_of_getElem? (i := 29) rfl))) (by decide) (t := (.array .int)) (t' := .int) (by decide) (by decide))), f1.other W (Or.inr (slot_ne (Or.inr (hw _ (List.mem_of_getElem? (i := 15) rfl))) (Or.inl (hw _ (List.mem_of_getElem? (i := 29) rfl))) (by decide) (t := (.array .boolean)) (t' := .int) (by decide) (by decide))), f2.other W (Or.inr (slot_ne (Or.inl (hw _ (List.mem_of_getElem? (i := 40) rfl))) (Or.inl (hw _ (List.mem_of_getElem? (i := 29) rfl))) (by decide) (t := .int) (t' := .int) (by decide) (by decide))), f3.same W, f4.other W (Or.inr (slot_ne (Or.inl (hw _ (List.mem_of_getElem? (i := 22) rfl))) (Or.inl (hw _ (List.mem_of_getElem? (i := 29) rfl))) (by decide) (t := .int) (t' := .int) (by decide) (by decide)))⟩
theorem Dq.set4 {Z : State} {h h' : Heap} {a : Addr} {v0 v1 v2 v3 v4 : Value} {v : Value} {a0 : Array Value} (hw : ∀ d ∈ tables_1, d.before a0 Z = true) (F : Dq Z h a v0 v1 v2 v3 v4) (W : Wr h h' a (Jvm.RoadKit.slotOf Z "com/example/glouton/glouton/consistency/DistinctQueue" "size" "I") v) : Dq Z h' a v0 v1 v2 v3 v := by obtain ⟨E, f0, f1, f2, f3, f4⟩ := F; exact ⟨E.wr W, f0.other W (Or.inr (slot_ne (Or.inr (hw _ (List.mem_of_getElem? (i := 13) rfl))) (Or.inl (hw _ (List.mem_of_getElem? (i := 22) rfl))) (by decide) (t := (.array .int)) (t' := .int) (by decide) (by decide))), f1.other W (Or.inr (slot_ne (Or.inr (hw _ (List.mem_of_getElem? (i := 15) rfl))) (Or.inl (hw _ (List.mem_of_getElem? (i := 22) rfl))) (by decide) (t := (.array .boolean)) (t' := .int) (by decide) (by decide))), f2.other W (Or.inr (slot_ne (Or.inl (hw _ (List.mem_of_getElem? (i := 40) rfl))) (Or.inl (hw _ (List.mem_of_getElem? (i := 22) rfl))) (by decide) (t := .int) (t' := .int) (by decide) (by decide))), f3.other W (Or.inr (slot_ne (Or.inl (hw _ (List.mem_of_getElem? (i := 29) rfl))) (Or.inl (hw _ (List.mem_of_getElem? (i := 22) rfl))) (by decide) (t := .int) (t' := .int) (by decide) (by decide))), f4.same W⟩
theorem d5_0 : decode prog_6_method_6_code 0 = .ok (.iload_n 1, 1) := by decide +kernel
theorem d5_1 : decode prog_6_method_6_code 1 = .ok (.iconst 1, 1) := by decide +kernel
theorem d5_2 : decode prog_6_method_6_code 2 = .ok (.iadd, 1) := by decide +kernel
theorem d5_3 : decode prog_6_method_6_code 3 = .ok (.aload_n 0, 1) := by decide +kernel
theorem d5_4 : decode prog_6_method_6_code 4 = .ok (.getfield 7, 3) := by decide +kernel
theorem d5_7 : decode prog_6_method_6_code 7 = .ok (.arraylength, 1) := by decide +kernel
theorem d5_8 : decode prog_6_method_6_code 8 = .ok (.if_icmp .ne 7, 3) := by decide +kernel
theorem d5_11 : decode prog_6_method_6_code 11 = .ok (.iconst 0, 1) := by decide +kernel
theorem d5_12 : decode prog_6_method_6_code 12 = .ok (.goto 6, 3) := by decide +kernel
theorem d5_15 : decode prog_6_method_6_code 15 = .ok (.iload_n 1, 1) := by decide +kernel
theorem d5_16 : decode prog_6_method_6_code 16 = .ok (.iconst 1, 1) := by decide +kernel
theorem d5_17 : decode prog_6_method_6_code 17 = .ok (.iadd, 1) := by decide +kernel
theorem d5_18 : decode prog_6_method_6_code 18 = .ok (.ireturn, 1) := by decide +kernel
theorem pn5 : plainFor (⟨"com/example/glouton/glouton/consistency/DistinctQueue", "following", "(I)I"⟩ : MethodName) = true := plainFor_of_name (by first | (simp [plainName, overriddenIn]; done) | decide +kernel)
theorem ef5_RI (m : MethodId) (x0 : Addr) (x1 : Int32) : entryFrame m #[(.ref x0), (.int x1)] 2 = mkF m 0 #[.val (.ref x0), .val (.int x1)] [] := by first | (simp [entryFrame, mkF, argsToLocals, Value.category]; done) | rfl
def ofol (pl : Int32) (k : Int32) : Int32 := if (pl + (1 : Int32)) = k then (0 : Int32) else ((pl + (1 : Int32)))
def rmr5 : Room := { frames := 0, cells := 0, slots := 0, locals := 0 }
set_option maxRecDepth 65536 in
set_option maxHeartbeats 4000000 in
theorem mtfol (l : Launch) (Z : State) (a0 : Array Value) (hw : ∀ d ∈ tables_1, d.before a0 Z = true) (q : Addr) (pl : Int32) (r : Addr) (v1 v2 v3 v4 : Value) (vs : List Value) (N : Nat) (k : Int32) (h0 : Heap) (O : Dq Z h0 q (.ref r) v1 v2 v3 v4) (FR : VA Z h0 r .int vs) (hN : vs.length = N) (hk : k.toInt = N) : Meth l Z (⟨"com/example/glouton/glouton/consistency/DistinctQueue", "following", "(I)I"⟩ : MethodName) prog_6_method_6_code 2 (some .int) rmr5 #[(.ref q), (.int pl)] h0 [] (fun vr h' => vr = some (.int (ofol pl k)) ∧ h' = h0) := by
  refine Meth.of pn5 ?_
  intro p e s m below meth c T B X
  refine Go.entry (ef5_RI m q pl) ?_
  refine giloadN B X d5_0 rfl (pc' := 1) rfl ?_
  refine giconst B X d5_1 (v := (1 : Int32)) rfl (pc' := 2) rfl ?_
  refine giadd B X d5_2 rfl (pc' := 3) rfl ?_
  refine galoadN B X d5_3 rfl rfl (pc' := 4) rfl ?_
  refine gget B X (hw _ (List.mem_of_getElem? (i := 12) rfl)) O.2.1 d5_4 (pc' := 7) rfl fun T1 X2 => ?_
  refine glength B X2 (n := k) FR hN hk d5_7 (pc' := 8) rfl ?_
  by_cases c8_3 : (pl + (1 : Int32)) = k
  · refine gicN B X2 d5_8 (teq c8_3).2 (pc' := 11) rfl ?_
    refine giconst B X2 d5_11 (v := (0 : Int32)) rfl (pc' := 12) rfl ?_
    refine ggoto B X2 (pc' := 18) d5_12 (by decide) ?_
    exact gretI B X2 d5_18 (by decide) (by decide) (⟨by rw [ofol, if_pos c8_3], rfl⟩)
  · refine gicY B X2 (pc' := 15) d5_8 (feq c8_3).2 (by decide) ?_
    refine giloadN B X2 d5_15 rfl (pc' := 16) rfl ?_
    refine giconst B X2 d5_16 (v := (1 : Int32)) rfl (pc' := 17) rfl ?_
    refine giadd B X2 d5_17 rfl (pc' := 18) rfl ?_
    exact gretI B X2 d5_18 (by decide) (by decide) (⟨by rw [ofol, if_neg c8_3], rfl⟩)
/-- the queue's state: ring, held, head, tail, size -/
abbrev QS := List Int32 × List Int32 × Int32 × Int32 × Int32
def oAdd (k : Int32) (s : QS) (x : Int32) : QS := if s.2.1.getD x.toNatClampNeg 0 = (0 : Int32) then (s.1.set s.2.2.2.1.toNatClampNeg x, s.2.1.set x.toNatClampNeg 1, s.2.2.1, ofol s.2.2.2.1 k, s.2.2.2.2 + 1) else s
def oVal (s : QS) : Int32 := s.1.getD s.2.2.1.toNatClampNeg 0
def oPoll (k : Int32) (s : QS) : QS := (s.1, s.2.1.set (oVal s).toNatClampNeg 0, ofol s.2.2.1 k, s.2.2.2.1, s.2.2.2.2 - 1)
def Ok (k : Int32) (s : QS) : Prop := (s.1.length : Int) = k.toInt ∧ (s.2.1.length : Int) = k.toInt ∧ (0 ≤ s.2.2.1.toInt ∧ s.2.2.1.toInt < k.toInt) ∧ (0 ≤ s.2.2.2.1.toInt ∧ s.2.2.2.1.toInt < k.toInt) ∧ ∀ j, j < s.1.length → 0 ≤ (s.1.getD j 0).toInt ∧ (s.1.getD j 0).toInt < k.toInt
theorem own_fol {p k : Int32} (h : 0 ≤ p.toInt ∧ p.toInt < k.toInt) : 0 ≤ (ofol p k).toInt ∧ (ofol p k).toInt < k.toInt := by
  have s := c_iadd p 1; have r := rng32 (p + 1); have r2 := rng32 k
  have z : (1 : Int32).toInt = 1 := rfl
  unfold ofol
  split
  · have z0 : (0 : Int32).toInt = 0 := rfl
    omega
  · rename_i q
    have q' : ¬ (p + 1).toInt = k.toInt := fun e => q (Int32.toInt_inj.mp e)
    omega
theorem Ok.add {k x : Int32} {s : QS} (h : Ok k s) (hx : 0 ≤ x.toInt ∧ x.toInt < k.toInt) : Ok k (oAdd k s x) := by
  unfold oAdd
  split
  · obtain ⟨h1, h2, h3, h4, h5⟩ := h
    refine ⟨by simpa using h1, by simpa using h2, h3, own_fol h4, fun j hj => ?_⟩
    simp only [List.length_set] at hj
    rw [List.getD_eq_getElem?_getD, List.getElem?_set]
    split
    · rename_i e
      rw [if_pos (by rw [e]; exact hj)]
      exact hx
    · exact h5 j hj
  · exact h
theorem Ok.val {k : Int32} {s : QS} (h : Ok k s) : 0 ≤ (oVal s).toInt ∧ (oVal s).toInt < k.toInt := h.2.2.2.2 _ (own_nat ⟨h.2.2.1.1, by have := h.1; have := h.2.2.1.2; omega⟩)
theorem Ok.poll {k : Int32} {s : QS} (h : Ok k s) : Ok k (oPoll k s) := ⟨h.1, by simpa [oPoll] using h.2.1, own_fol h.2.2.1, h.2.2.2.1, h.2.2.2.2⟩
theorem d3_0 : decode prog_6_method_4_code 0 = .ok (.aload_n 0, 1) := by decide +kernel
theorem d3_1 : decode prog_6_method_4_code 1 = .ok (.getfield 25, 3) := by decide +kernel
theorem d3_4 : decode prog_6_method_4_code 4 = .ok (.ifCond .ne 7, 3) := by decide +kernel
theorem d3_7 : decode prog_6_method_4_code 7 = .ok (.iconst 1, 1) := by decide +kernel
theorem d3_8 : decode prog_6_method_4_code 8 = .ok (.goto 4, 3) := by decide +kernel
theorem d3_11 : decode prog_6_method_4_code 11 = .ok (.iconst 0, 1) := by decide +kernel
theorem d3_12 : decode prog_6_method_4_code 12 = .ok (.ireturn, 1) := by decide +kernel
theorem pn3 : plainFor (⟨"com/example/glouton/glouton/consistency/DistinctQueue", "isEmpty", "()Z"⟩ : MethodName) = true := plainFor_of_name (by first | (simp [plainName, overriddenIn]; done) | decide +kernel)
theorem ef3_R (m : MethodId) (x0 : Addr) : entryFrame m #[(.ref x0)] 1 = mkF m 0 #[.val (.ref x0)] [] := by first | (simp [entryFrame, mkF, argsToLocals, Value.category]; done) | rfl
def oemp (sz : Int32) : Int32 := if sz = (0 : Int32) then (1 : Int32) else ((0 : Int32))
def rmr3 : Room := { frames := 0, cells := 0, slots := 0, locals := 0 }
set_option maxRecDepth 65536 in
set_option maxHeartbeats 4000000 in
theorem mtemp (l : Launch) (Z : State) (a0 : Array Value) (hw : ∀ d ∈ tables_1, d.before a0 Z = true) (q : Addr) (v0 v1 v2 v3 : Value) (sz : Int32) (h0 : Heap) (O : Dq Z h0 q v0 v1 v2 v3 (.int sz)) : Meth l Z (⟨"com/example/glouton/glouton/consistency/DistinctQueue", "isEmpty", "()Z"⟩ : MethodName) prog_6_method_4_code 1 (some .boolean) rmr3 #[(.ref q)] h0 [] (fun vr h' => vr = some (.int (oemp sz)) ∧ h' = h0) := by
  refine Meth.of pn3 ?_
  intro p e s m below meth c T B X
  refine Go.entry (ef3_R m q) ?_
  refine galoadN B X d3_0 rfl rfl (pc' := 1) rfl ?_
  refine gget B X (hw _ (List.mem_of_getElem? (i := 21) rfl)) O.2.2.2.2.2 d3_1 (pc' := 4) rfl fun T4 X5 => ?_
  by_cases c4_6 : sz = (0 : Int32)
  · refine gifN B X5 d3_4 ((if0 _ _).trans (teq c4_6).2) (pc' := 7) rfl ?_
    refine giconst B X5 d3_7 (v := (1 : Int32)) rfl (pc' := 8) rfl ?_
    refine ggoto B X5 (pc' := 12) d3_8 (by decide) ?_
    exact gretN B X5 (z' := (1 : Int32)) (by simp) (rfl) d3_12 (by decide) (by decide) (⟨by rw [oemp, if_pos c4_6], rfl⟩)
  · refine gifY B X5 (pc' := 11) d3_4 ((if0 _ _).trans (feq c4_6).2) (by decide) ?_
    refine giconst B X5 d3_11 (v := (0 : Int32)) rfl (pc' := 12) rfl ?_
    exact gretN B X5 (z' := (0 : Int32)) (by simp) (rfl) d3_12 (by decide) (by decide) (⟨by rw [oemp, if_neg c4_6], rfl⟩)
theorem d1_0 : decode prog_6_method_1_code 0 = .ok (.aload_n 0, 1) := by decide +kernel
theorem d1_1 : decode prog_6_method_1_code 1 = .ok (.invokespecial 1, 3) := by decide +kernel
theorem d1_4 : decode prog_6_method_1_code 4 = .ok (.aload_n 0, 1) := by decide +kernel
theorem d1_5 : decode prog_6_method_1_code 5 = .ok (.iload_n 1, 1) := by decide +kernel
theorem d1_6 : decode prog_6_method_1_code 6 = .ok (.newarray .int, 2) := by decide +kernel
theorem d1_8 : decode prog_6_method_1_code 8 = .ok (.putfield 7, 3) := by decide +kernel
theorem d1_11 : decode prog_6_method_1_code 11 = .ok (.aload_n 0, 1) := by decide +kernel
theorem d1_12 : decode prog_6_method_1_code 12 = .ok (.iload_n 1, 1) := by decide +kernel
theorem d1_13 : decode prog_6_method_1_code 13 = .ok (.newarray .boolean, 2) := by decide +kernel
theorem d1_15 : decode prog_6_method_1_code 15 = .ok (.putfield 13, 3) := by decide +kernel
theorem d1_18 : decode prog_6_method_1_code 18 = .ok (.return_, 1) := by decide +kernel
theorem pn1 : plainFor (⟨"com/example/glouton/glouton/consistency/DistinctQueue", "<init>", "(I)V"⟩ : MethodName) = true := plainFor_of_name (by first | (simp [plainName, overriddenIn]; done) | decide +kernel)
theorem ef1_RI (m : MethodId) (x0 : Addr) (x1 : Int32) : entryFrame m #[(.ref x0), (.int x1)] 2 = mkF m 0 #[.val (.ref x0), .val (.int x1)] [] := by first | (simp [entryFrame, mkF, argsToLocals, Value.category]; done) | rfl
def rmr1 : Room := { frames := 1, cells := 2, slots := 6, locals := 12 }
set_option maxRecDepth 65536 in
set_option maxHeartbeats 4000000 in
theorem mt1 (l : Launch) (Z : State) (a0 : Array Value) (hw : ∀ d ∈ tables_1, d.before a0 Z = true) (q : Addr) (k : Int32)  (h0 : Heap) (O : Dq Z h0 q .null .null (.int 0) (.int 0) (.int 0)) (hk : 0 ≤ k.toInt ∧ k.toInt ≤ (3 : Nat)) : Meth l Z (⟨"com/example/glouton/glouton/consistency/DistinctQueue", "<init>", "(I)V"⟩ : MethodName) prog_6_method_1_code 2 none rmr1 #[(.ref q), (.int k)] h0 [q] (fun v h' => v = none ∧ ∃ r t, h0.size ≤ r ∧ h0.size ≤ t ∧ r ≠ t ∧ Dq Z h' q (.ref r) (.ref t) (.int 0) (.int 0) (.int 0) ∧ VA Z h' r .int (List.replicate k.toNatClampNeg (.int 0)) ∧ VA Z h' t .boolean (List.replicate k.toNatClampNeg (.int 0))) := by
  refine Meth.of pn1 ?_
  intro p e s m below meth c T B X
  refine Go.entry (ef1_RI m q k) ?_
  refine galoadN B X d1_0 rfl rfl (pc' := 1) rfl ?_
  refine ginitO B X (W := 0) (hw _ (List.mem_of_getElem? (i := 8) rfl)) (hw _ (List.mem_of_getElem? (i := 9) rfl)) (hw _ (List.mem_of_getElem? (i := 10) rfl)) rfl (by decide) (Nat.le_of_eq rfl) (by decide) d1_1 (pc' := 4) rfl fun T7 X8 => ?_
  refine galoadN B X8 d1_4 rfl rfl (pc' := 5) rfl ?_
  refine giloadN B X8 d1_5 rfl (pc' := 6) rfl ?_
  refine gnewarray B X8 (cap := 3) (vs := (List.replicate k.toNatClampNeg (.int 0))) (ty := .int) rfl rfl (hw _ (List.mem_of_getElem? (i := 11) rfl)) hk.1 hk.2 (by decide) (by decide) (by decide) d1_6 (pc' := 8) rfl fun T9 h10 a11 X12 q13 E14 z_a11 A15 => ?_
  have n16 : q ≠ a11 := by rw [q13]; exact Nat.ne_of_lt O.lt
  have F17 := O.ext E14
  refine gput B X12 (ty := (.array .int)) (hw _ (List.mem_of_getElem? (i := 12) rfl)) F17.2.1 F17.1 (Or.inr ⟨(hw _ (List.mem_of_getElem? (i := 13) rfl)), rfl, rfl⟩) (hw _ (List.mem_of_getElem? (i := 3) rfl)) (by decide) rfl rfl (Or.inl (List.mem_of_getElem? (i := 0) rfl)) d1_8 (pc' := 11) rfl fun T18 h19 X20 W21 => ?_
  have O22 := Dq.set0 hw F17 W21
  have F23 := A15.other W21 (Ne.symm n16)
  refine galoadN B X20 d1_11 rfl rfl (pc' := 12) rfl ?_
  refine giloadN B X20 d1_12 rfl (pc' := 13) rfl ?_
  refine gnewarray B X20 (cap := 3) (vs := (List.replicate k.toNatClampNeg (.int 0))) (ty := .boolean) rfl rfl (hw _ (List.mem_of_getElem? (i := 1) rfl)) hk.1 hk.2 (by decide) (by decide) (by decide) d1_13 (pc' := 15) rfl fun T24 h25 a26 X27 q28 E29 z_a26 A30 => ?_
  have n31 : q ≠ a26 := by rw [q28]; exact Nat.ne_of_lt O22.lt
  have n32 : a11 ≠ a26 := by rw [q28]; exact Nat.ne_of_lt F23.lt
  have F33 := O22.ext E29
  have F34 := F23.ext E29
  refine gput B X27 (ty := (.array .boolean)) (hw _ (List.mem_of_getElem? (i := 14) rfl)) F33.2.2.1 F33.1 (Or.inr ⟨(hw _ (List.mem_of_getElem? (i := 15) rfl)), rfl, rfl⟩) (hw _ (List.mem_of_getElem? (i := 3) rfl)) (by decide) rfl rfl (Or.inl (List.mem_of_getElem? (i := 0) rfl)) d1_15 (pc' := 18) rfl fun T35 h36 X37 W38 => ?_
  have O39 := Dq.set1 hw F33 W38
  have F40 := F34.other W38 (Ne.symm n16)
  have F41 := A30.other W38 (Ne.symm n31)
  exact gretV B X37 d1_18 (by decide) (by decide) (⟨rfl, a11, a26, z_a11, z_a26, n32, O39, F40, F41⟩)
theorem d4_0 : decode prog_6_method_2_code 0 = .ok (.aload_n 0, 1) := by decide +kernel
theorem d4_1 : decode prog_6_method_2_code 1 = .ok (.getfield 13, 3) := by decide +kernel
theorem d4_4 : decode prog_6_method_2_code 4 = .ok (.iload_n 1, 1) := by decide +kernel
theorem d4_5 : decode prog_6_method_2_code 5 = .ok (.baload, 1) := by decide +kernel
theorem d4_6 : decode prog_6_method_2_code 6 = .ok (.ifCond .ne 42, 3) := by decide +kernel
theorem d4_9 : decode prog_6_method_2_code 9 = .ok (.aload_n 0, 1) := by decide +kernel
theorem d4_10 : decode prog_6_method_2_code 10 = .ok (.getfield 13, 3) := by decide +kernel
theorem d4_13 : decode prog_6_method_2_code 13 = .ok (.iload_n 1, 1) := by decide +kernel
theorem d4_14 : decode prog_6_method_2_code 14 = .ok (.iconst 1, 1) := by decide +kernel
theorem d4_15 : decode prog_6_method_2_code 15 = .ok (.bastore, 1) := by decide +kernel
theorem d4_16 : decode prog_6_method_2_code 16 = .ok (.aload_n 0, 1) := by decide +kernel
theorem d4_17 : decode prog_6_method_2_code 17 = .ok (.getfield 7, 3) := by decide +kernel
theorem d4_20 : decode prog_6_method_2_code 20 = .ok (.aload_n 0, 1) := by decide +kernel
theorem d4_21 : decode prog_6_method_2_code 21 = .ok (.getfield 17, 3) := by decide +kernel
theorem d4_24 : decode prog_6_method_2_code 24 = .ok (.iload_n 1, 1) := by decide +kernel
theorem d4_25 : decode prog_6_method_2_code 25 = .ok (.iastore, 1) := by decide +kernel
theorem d4_26 : decode prog_6_method_2_code 26 = .ok (.aload_n 0, 1) := by decide +kernel
theorem d4_27 : decode prog_6_method_2_code 27 = .ok (.aload_n 0, 1) := by decide +kernel
theorem d4_28 : decode prog_6_method_2_code 28 = .ok (.aload_n 0, 1) := by decide +kernel
theorem d4_29 : decode prog_6_method_2_code 29 = .ok (.getfield 17, 3) := by decide +kernel
theorem d4_32 : decode prog_6_method_2_code 32 = .ok (.invokevirtual 21, 3) := by decide +kernel
theorem d4_35 : decode prog_6_method_2_code 35 = .ok (.putfield 17, 3) := by decide +kernel
theorem d4_38 : decode prog_6_method_2_code 38 = .ok (.aload_n 0, 1) := by decide +kernel
theorem d4_39 : decode prog_6_method_2_code 39 = .ok (.dup, 1) := by decide +kernel
theorem d4_40 : decode prog_6_method_2_code 40 = .ok (.getfield 25, 3) := by decide +kernel
theorem d4_43 : decode prog_6_method_2_code 43 = .ok (.iconst 1, 1) := by decide +kernel
theorem d4_44 : decode prog_6_method_2_code 44 = .ok (.iadd, 1) := by decide +kernel
theorem d4_45 : decode prog_6_method_2_code 45 = .ok (.putfield 25, 3) := by decide +kernel
theorem d4_48 : decode prog_6_method_2_code 48 = .ok (.return_, 1) := by decide +kernel
theorem pn4 : plainFor (⟨"com/example/glouton/glouton/consistency/DistinctQueue", "add", "(I)V"⟩ : MethodName) = true := plainFor_of_name (by first | (simp [plainName, overriddenIn]; done) | decide +kernel)
theorem ef4_RI (m : MethodId) (x0 : Addr) (x1 : Int32) : entryFrame m #[(.ref x0), (.int x1)] 2 = mkF m 0 #[.val (.ref x0), .val (.int x1)] [] := by first | (simp [entryFrame, mkF, argsToLocals, Value.category]; done) | rfl
theorem pd__I_I : parseMethodDescriptor "(I)I" = some ⟨[.int], some .int⟩ := by decide +kernel
def rmr4 : Room := { frames := 1, cells := 0, slots := 0, locals := 14 }
set_option maxRecDepth 65536 in
set_option maxHeartbeats 4000000 in
theorem mt4 (l : Launch) (Z : State) (a0 : Array Value) (hw : ∀ d ∈ tables_1, d.before a0 Z = true) (q : Addr) (x : Int32) (r t : Addr) (k : Int32) (qs : QS) (h0 : Heap) (O : Dq Z h0 q (.ref r) (.ref t) (.int qs.2.2.1) (.int qs.2.2.2.1) (.int qs.2.2.2.2)) (FR : VA Z h0 r .int (qs.1.map Value.int)) (FT : VA Z h0 t .boolean (qs.2.1.map Value.int)) (qr : q ≠ r) (qt : q ≠ t) (rt : r ≠ t) (ok : Ok k qs) (hx : 0 ≤ x.toInt ∧ x.toInt < k.toInt) : Meth l Z (⟨"com/example/glouton/glouton/consistency/DistinctQueue", "add", "(I)V"⟩ : MethodName) prog_6_method_2_code 2 none rmr4 #[(.ref q), (.int x)] h0 [q, r, t] (fun v h' => v = none ∧ Dq Z h' q (.ref r) (.ref t) (.int (oAdd k qs x).2.2.1) (.int (oAdd k qs x).2.2.2.1) (.int (oAdd k qs x).2.2.2.2) ∧ VA Z h' r .int ((oAdd k qs x).1.map Value.int) ∧ VA Z h' t .boolean ((oAdd k qs x).2.1.map Value.int)) := by
  refine Meth.of pn4 ?_
  intro p e s m below meth c T B X
  refine Go.entry (ef4_RI m q x) ?_
  refine galoadN B X d4_0 rfl rfl (pc' := 1) rfl ?_
  refine gget B X (hw _ (List.mem_of_getElem? (i := 14) rfl)) O.2.2.1 d4_1 (pc' := 4) rfl fun T42 X43 => ?_
  refine giloadN B X43 d4_4 rfl (pc' := 5) rfl ?_
  refine gzaload B X43 FT (List.length_map ..) ⟨hx.1, by have a := ok.2.1; have b := hx.2; omega⟩ (v := (.int (qs.2.1.getD x.toNatClampNeg 0))) (own_at (own_nat ⟨hx.1, by have a := ok.2.1; have b := hx.2; omega⟩)) d4_5 (pc' := 6) rfl ?_
  by_cases c6_44 : (qs.2.1.getD x.toNatClampNeg 0) = (0 : Int32)
  · refine gifN B X43 d4_6 ((if0 _ _).trans (teq c6_44).2) (pc' := 9) rfl ?_
    refine galoadN B X43 d4_9 rfl rfl (pc' := 10) rfl ?_
    refine gget B X43 (hw _ (List.mem_of_getElem? (i := 14) rfl)) O.2.2.1 d4_10 (pc' := 13) rfl fun T45 X46 => ?_
    refine giloadN B X46 d4_13 rfl (pc' := 14) rfl ?_
    refine giconst B X46 d4_14 (v := (1 : Int32)) rfl (pc' := 15) rfl ?_
    refine gzastore B X46 (i := x.toNatClampNeg) FT (List.length_map ..) ⟨hx.1, by have a := ok.2.1; have b := hx.2; omega⟩ rfl (vs' := ((qs.2.1.set x.toNatClampNeg 1).map Value.int)) (own_set _ _ 1) (Or.inl (List.mem_of_getElem? (i := 2) rfl)) d4_15 (pc' := 16) rfl fun T47 h48 X49 W50 A51 => ?_
    have F52 := O.other W50 qt
    have F53 := FR.other W50 rt
    refine galoadN B X49 d4_16 rfl rfl (pc' := 17) rfl ?_
    refine gget B X49 (hw _ (List.mem_of_getElem? (i := 12) rfl)) F52.2.1 d4_17 (pc' := 20) rfl fun T54 X55 => ?_
    refine galoadN B X55 d4_20 rfl rfl (pc' := 21) rfl ?_
    refine gget B X55 (hw _ (List.mem_of_getElem? (i := 28) rfl)) F52.2.2.2.2.1 d4_21 (pc' := 24) rfl fun T56 X57 => ?_
    refine giloadN B X57 d4_24 rfl (pc' := 25) rfl ?_
    refine giastore B X57 (i := qs.2.2.2.1.toNatClampNeg) F53 (List.length_map ..) ⟨ok.2.2.2.1.1, by have a := ok.1; have b := ok.2.2.2.1.2; omega⟩ rfl (vs' := ((qs.1.set qs.2.2.2.1.toNatClampNeg x).map Value.int)) (own_set _ _ _) (Or.inl (List.mem_of_getElem? (i := 1) rfl)) d4_25 (pc' := 26) rfl fun T58 h59 X60 W61 A62 => ?_
    have F63 := F52.other W61 qr
    have F64 := A51.other W61 (Ne.symm rt)
    refine galoadN B X60 d4_26 rfl rfl (pc' := 27) rfl ?_
    refine galoadN B X60 d4_27 rfl rfl (pc' := 28) rfl ?_
    refine galoadN B X60 d4_28 rfl rfl (pc' := 29) rfl ?_
    refine gget B X60 (hw _ (List.mem_of_getElem? (i := 28) rfl)) F63.2.2.2.2.1 d4_29 (pc' := 32) rfl fun T65 X66 => ?_
    refine gcallP B X66 F63.1 (hw _ (List.mem_of_getElem? (i := 30) rfl)) (hw _ (List.mem_of_getElem? (i := 31) rfl)) (hw _ (List.mem_of_getElem? (i := 3) rfl)) (hw _ (List.mem_of_getElem? (i := 32) rfl)) (hw _ (List.mem_of_getElem? (i := 4) rfl)) (hw _ (List.mem_of_getElem? (i := 33) rfl)) (by decide) (mtfol l Z a0 hw q qs.2.2.2.1 r (.ref t) (.int qs.2.2.1) (.int qs.2.2.2.1) (.int qs.2.2.2.2) ((qs.1.set qs.2.2.2.1.toNatClampNeg x).map Value.int) (qs.1.set qs.2.2.2.1.toNatClampNeg x).length k h59 F63 A62 (List.length_map ..) (by rw [List.length_set]; exact ok.1.symm)) pd__I_I rfl (argsL := [(.int qs.2.2.2.1)]) (st := [(.ref q)]) rfl rfl (W := 1) (Nat.le_of_eq rfl) (by decide) (by decide) (by decide) (by decide) (fun x q => nomatch q) d4_32 (pc' := 35) rfl (pureG rfl rfl fun T67 X68 => ?_)
    refine gput B X68 (ty := .int) (hw _ (List.mem_of_getElem? (i := 28) rfl)) F63.2.2.2.2.1 F63.1 (Or.inl (hw _ (List.mem_of_getElem? (i := 29) rfl))) (hw _ (List.mem_of_getElem? (i := 3) rfl)) (by decide) rfl rfl (Or.inl (List.mem_of_getElem? (i := 0) rfl)) d4_35 (pc' := 38) rfl fun T69 h70 X71 W72 => ?_
    have O73 := Dq.set3 hw F63 W72
    have F74 := A62.other W72 (Ne.symm qr)
    have F75 := F64.other W72 (Ne.symm qt)
    refine galoadN B X71 d4_38 rfl rfl (pc' := 39) rfl ?_
    refine gdup B X71 d4_39 rfl (pc' := 40) rfl ?_
    refine gget B X71 (hw _ (List.mem_of_getElem? (i := 21) rfl)) O73.2.2.2.2.2 d4_40 (pc' := 43) rfl fun T76 X77 => ?_
    refine giconst B X77 d4_43 (v := (1 : Int32)) rfl (pc' := 44) rfl ?_
    refine giadd B X77 d4_44 rfl (pc' := 45) rfl ?_
    refine gput B X77 (ty := .int) (hw _ (List.mem_of_getElem? (i := 21) rfl)) O73.2.2.2.2.2 O73.1 (Or.inl (hw _ (List.mem_of_getElem? (i := 22) rfl))) (hw _ (List.mem_of_getElem? (i := 3) rfl)) (by decide) rfl rfl (Or.inl (List.mem_of_getElem? (i := 0) rfl)) d4_45 (pc' := 48) rfl fun T78 h79 X80 W81 => ?_
    have O82 := Dq.set4 hw O73 W81
    have F83 := F74.other W81 (Ne.symm qr)
    have F84 := F75.other W81 (Ne.symm qt)
    exact gretV B X80 d4_48 (by decide) (by decide) (by rw [oAdd, if_pos c6_44]; exact ⟨rfl, O82, F83, F84⟩)
  · refine gifY B X43 (pc' := 48) d4_6 ((if0 _ _).trans (feq c6_44).2) (by decide) ?_
    exact gretV B X43 d4_48 (by decide) (by decide) (by rw [oAdd, if_neg c6_44]; exact ⟨rfl, O, FR, FT⟩)
theorem d6_0 : decode prog_6_method_3_code 0 = .ok (.aload_n 0, 1) := by decide +kernel
theorem d6_1 : decode prog_6_method_3_code 1 = .ok (.getfield 7, 3) := by decide +kernel
theorem d6_4 : decode prog_6_method_3_code 4 = .ok (.aload_n 0, 1) := by decide +kernel
theorem d6_5 : decode prog_6_method_3_code 5 = .ok (.getfield 28, 3) := by decide +kernel
theorem d6_8 : decode prog_6_method_3_code 8 = .ok (.iaload, 1) := by decide +kernel
theorem d6_9 : decode prog_6_method_3_code 9 = .ok (.istore_n 1, 1) := by decide +kernel
theorem d6_10 : decode prog_6_method_3_code 10 = .ok (.aload_n 0, 1) := by decide +kernel
theorem d6_11 : decode prog_6_method_3_code 11 = .ok (.aload_n 0, 1) := by decide +kernel
theorem d6_12 : decode prog_6_method_3_code 12 = .ok (.aload_n 0, 1) := by decide +kernel
theorem d6_13 : decode prog_6_method_3_code 13 = .ok (.getfield 28, 3) := by decide +kernel
theorem d6_16 : decode prog_6_method_3_code 16 = .ok (.invokevirtual 21, 3) := by decide +kernel
theorem d6_19 : decode prog_6_method_3_code 19 = .ok (.putfield 28, 3) := by decide +kernel
theorem d6_22 : decode prog_6_method_3_code 22 = .ok (.aload_n 0, 1) := by decide +kernel
theorem d6_23 : decode prog_6_method_3_code 23 = .ok (.dup, 1) := by decide +kernel
theorem d6_24 : decode prog_6_method_3_code 24 = .ok (.getfield 25, 3) := by decide +kernel
theorem d6_27 : decode prog_6_method_3_code 27 = .ok (.iconst 1, 1) := by decide +kernel
theorem d6_28 : decode prog_6_method_3_code 28 = .ok (.isub, 1) := by decide +kernel
theorem d6_29 : decode prog_6_method_3_code 29 = .ok (.putfield 25, 3) := by decide +kernel
theorem d6_32 : decode prog_6_method_3_code 32 = .ok (.aload_n 0, 1) := by decide +kernel
theorem d6_33 : decode prog_6_method_3_code 33 = .ok (.getfield 13, 3) := by decide +kernel
theorem d6_36 : decode prog_6_method_3_code 36 = .ok (.iload_n 1, 1) := by decide +kernel
theorem d6_37 : decode prog_6_method_3_code 37 = .ok (.iconst 0, 1) := by decide +kernel
theorem d6_38 : decode prog_6_method_3_code 38 = .ok (.bastore, 1) := by decide +kernel
theorem d6_39 : decode prog_6_method_3_code 39 = .ok (.iload_n 1, 1) := by decide +kernel
theorem d6_40 : decode prog_6_method_3_code 40 = .ok (.ireturn, 1) := by decide +kernel
theorem pn6 : plainFor (⟨"com/example/glouton/glouton/consistency/DistinctQueue", "poll", "()I"⟩ : MethodName) = true := plainFor_of_name (by first | (simp [plainName, overriddenIn]; done) | decide +kernel)
theorem ef6_R (m : MethodId) (x0 : Addr) : entryFrame m #[(.ref x0)] 2 = mkF m 0 #[.val (.ref x0), .unset] [] := by first | (simp [entryFrame, mkF, argsToLocals, Value.category]; done) | rfl
def rmr6 : Room := { frames := 1, cells := 0, slots := 0, locals := 14 }
set_option maxRecDepth 65536 in
set_option maxHeartbeats 4000000 in
theorem mt6 (l : Launch) (Z : State) (a0 : Array Value) (hw : ∀ d ∈ tables_1, d.before a0 Z = true) (q : Addr) (r t : Addr) (k : Int32) (qs : QS) (h0 : Heap) (O : Dq Z h0 q (.ref r) (.ref t) (.int qs.2.2.1) (.int qs.2.2.2.1) (.int qs.2.2.2.2)) (FR : VA Z h0 r .int (qs.1.map Value.int)) (FT : VA Z h0 t .boolean (qs.2.1.map Value.int)) (qr : q ≠ r) (qt : q ≠ t) (rt : r ≠ t) (ok : Ok k qs) : Meth l Z (⟨"com/example/glouton/glouton/consistency/DistinctQueue", "poll", "()I"⟩ : MethodName) prog_6_method_3_code 2 (some .int) rmr6 #[(.ref q)] h0 [q, r, t] (fun v h' => v = some (.int (oVal qs)) ∧ Dq Z h' q (.ref r) (.ref t) (.int (oPoll k qs).2.2.1) (.int (oPoll k qs).2.2.2.1) (.int (oPoll k qs).2.2.2.2) ∧ VA Z h' r .int ((oPoll k qs).1.map Value.int) ∧ VA Z h' t .boolean ((oPoll k qs).2.1.map Value.int)) := by
  refine Meth.of pn6 ?_
  intro p e s m below meth c T B X
  refine Go.entry (ef6_R m q) ?_
  refine galoadN B X d6_0 rfl rfl (pc' := 1) rfl ?_
  refine gget B X (hw _ (List.mem_of_getElem? (i := 12) rfl)) O.2.1 d6_1 (pc' := 4) rfl fun T85 X86 => ?_
  refine galoadN B X86 d6_4 rfl rfl (pc' := 5) rfl ?_
  refine gget B X86 (hw _ (List.mem_of_getElem? (i := 39) rfl)) O.2.2.2.1 d6_5 (pc' := 8) rfl fun T87 X88 => ?_
  refine giaload B X88 FR (List.length_map ..) ⟨ok.2.2.1.1, by have a := ok.1; have b := ok.2.2.1.2; omega⟩ (v := (.int (oVal qs))) (own_at (own_nat ⟨ok.2.2.1.1, by have a := ok.1; have b := ok.2.2.1.2; omega⟩)) d6_8 (pc' := 9) rfl ?_
  refine gistoreN B X88 d6_9 (Ls' := #[.val (.ref q), .val (.int (oVal qs))]) rfl (pc' := 10) rfl ?_
  refine galoadN B X88 d6_10 rfl rfl (pc' := 11) rfl ?_
  refine galoadN B X88 d6_11 rfl rfl (pc' := 12) rfl ?_
  refine galoadN B X88 d6_12 rfl rfl (pc' := 13) rfl ?_
  refine gget B X88 (hw _ (List.mem_of_getElem? (i := 39) rfl)) O.2.2.2.1 d6_13 (pc' := 16) rfl fun T89 X90 => ?_
  refine gcallP B X90 O.1 (hw _ (List.mem_of_getElem? (i := 30) rfl)) (hw _ (List.mem_of_getElem? (i := 31) rfl)) (hw _ (List.mem_of_getElem? (i := 3) rfl)) (hw _ (List.mem_of_getElem? (i := 32) rfl)) (hw _ (List.mem_of_getElem? (i := 4) rfl)) (hw _ (List.mem_of_getElem? (i := 33) rfl)) (by decide) (mtfol l Z a0 hw q qs.2.2.1 r (.ref t) (.int qs.2.2.1) (.int qs.2.2.2.1) (.int qs.2.2.2.2) (qs.1.map Value.int) qs.1.length k h0 O FR (List.length_map ..) ok.1.symm) pd__I_I rfl (argsL := [(.int qs.2.2.1)]) (st := [(.ref q)]) rfl rfl (W := 1) (Nat.le_of_eq rfl) (by decide) (by decide) (by decide) (by decide) (fun x q => nomatch q) d6_16 (pc' := 19) rfl (pureG rfl rfl fun T91 X92 => ?_)
  refine gput B X92 (ty := .int) (hw _ (List.mem_of_getElem? (i := 39) rfl)) O.2.2.2.1 O.1 (Or.inl (hw _ (List.mem_of_getElem? (i := 40) rfl))) (hw _ (List.mem_of_getElem? (i := 3) rfl)) (by decide) rfl rfl (Or.inl (List.mem_of_getElem? (i := 0) rfl)) d6_19 (pc' := 22) rfl fun T93 h94 X95 W96 => ?_
  have O97 := Dq.set2 hw O W96
  have F98 := FR.other W96 (Ne.symm qr)
  have F99 := FT.other W96 (Ne.symm qt)
  refine galoadN B X95 d6_22 rfl rfl (pc' := 23) rfl ?_
  refine gdup B X95 d6_23 rfl (pc' := 24) rfl ?_
  refine gget B X95 (hw _ (List.mem_of_getElem? (i := 21) rfl)) O97.2.2.2.2.2 d6_24 (pc' := 27) rfl fun T100 X101 => ?_
  refine giconst B X101 d6_27 (v := (1 : Int32)) rfl (pc' := 28) rfl ?_
  refine gisub B X101 d6_28 rfl (pc' := 29) rfl ?_
  refine gput B X101 (ty := .int) (hw _ (List.mem_of_getElem? (i := 21) rfl)) O97.2.2.2.2.2 O97.1 (Or.inl (hw _ (List.mem_of_getElem? (i := 22) rfl))) (hw _ (List.mem_of_getElem? (i := 3) rfl)) (by decide) rfl rfl (Or.inl (List.mem_of_getElem? (i := 0) rfl)) d6_29 (pc' := 32) rfl fun T102 h103 X104 W105 => ?_
  have O106 := Dq.set4 hw O97 W105
  have F107 := F98.other W105 (Ne.symm qr)
  have F108 := F99.other W105 (Ne.symm qt)
  refine galoadN B X104 d6_32 rfl rfl (pc' := 33) rfl ?_
  refine gget B X104 (hw _ (List.mem_of_getElem? (i := 14) rfl)) O106.2.2.1 d6_33 (pc' := 36) rfl fun T109 X110 => ?_
  refine giloadN B X110 d6_36 rfl (pc' := 37) rfl ?_
  refine giconst B X110 d6_37 (v := (0 : Int32)) rfl (pc' := 38) rfl ?_
  refine gzastore B X110 (i := (oVal qs).toNatClampNeg) F108 (List.length_map ..) ⟨ok.val.1, by have a := ok.2.1; have b := ok.val.2; omega⟩ rfl (vs' := ((qs.2.1.set (oVal qs).toNatClampNeg 0).map Value.int)) (own_set _ _ 0) (Or.inl (List.mem_of_getElem? (i := 2) rfl)) d6_38 (pc' := 39) rfl fun T111 h112 X113 W114 A115 => ?_
  have F116 := O106.other W114 qt
  have F117 := F107.other W114 rt
  refine giloadN B X113 d6_39 rfl (pc' := 40) rfl ?_
  exact gretI B X113 d6_40 (by decide) (by decide) (⟨rfl, F116, F117, A115⟩)
def oS0 (k : Int32) : QS := (List.replicate k.toNatClampNeg 0, List.replicate k.toNatClampNeg 0, 0, 0, 0)
def oU (f : Int32) : Int32 := if f = (0 : Int32) then (0 : Int32) else (1 : Int32)
def oA (u : Int32) (s : QS) (x : Int32) : QS := if u = (0 : Int32) then s else oAdd 3 s x
def oM (u : Int32) (ms : List Int32) (x : Int32) : List Int32 := if u = (0 : Int32) then ms else ms.set x.toNatClampNeg 1
def oN3 (ms : List Int32) : Int32 := oU (ms.getD 0 0) + oU (ms.getD 1 0) + oU (ms.getD 2 0)
def oZ (n : Int32) : Int32 := if n = (0 : Int32) then (1 : Int32) else (0 : Int32)
def oPl (n : Int32) (s : QS) : QS := if (0 : Int32) < n then oPoll 3 s else s
def oD (n : Int32) : Int32 := if (0 : Int32) < n then n + (-1 : Int32) else n
def oS3 (u0 u1 u2 a b c : Int32) : QS := oA u2 (oA u1 (oA u0 (oS0 3) a) b) c
def oM3 (u0 u1 u2 a b c : Int32) : List Int32 := oM u2 (oM u1 (oM u0 [0, 0, 0] a) b) c
def oNN (u0 u1 u2 a b c : Int32) : Int32 := oN3 (oM3 u0 u1 u2 a b c)
def oAll (u0 u1 u2 a b c : Int32) : Prop := oemp (oS3 u0 u1 u2 a b c).2.2.2.2 = oZ (oNN u0 u1 u2 a b c) ∧ oemp (oPl (oNN u0 u1 u2 a b c) (oS3 u0 u1 u2 a b c)).2.2.2.2 = oZ (oD (oNN u0 u1 u2 a b c)) ∧
  oemp (oPl (oD (oNN u0 u1 u2 a b c)) (oPl (oNN u0 u1 u2 a b c) (oS3 u0 u1 u2 a b c))).2.2.2.2 = oZ (oD (oD (oNN u0 u1 u2 a b c))) ∧ oemp (oPl (oD (oD (oNN u0 u1 u2 a b c))) (oPl (oD (oNN u0 u1 u2 a b c)) (oPl (oNN u0 u1 u2 a b c) (oS3 u0 u1 u2 a b c)))).2.2.2.2 = oZ (oD (oD (oD (oNN u0 u1 u2 a b c))))
instance (u0 u1 u2 a b c : Int32) : Decidable (oAll u0 u1 u2 a b c) := by unfold oAll; infer_instance
set_option maxRecDepth 100000 in
set_option maxHeartbeats 4000000 in
theorem own_dec : ∀ u v w : Fin 2, ∀ a b c : Fin 3, oAll (Int32.ofInt (u.1 : Int)) (Int32.ofInt (v.1 : Int)) (Int32.ofInt (w.1 : Int)) (Int32.ofInt (a.1 : Int)) (Int32.ofInt (b.1 : Int)) (Int32.ofInt (c.1 : Int)) := by decide +kernel
theorem own_p (x : Int32) : 0 ≤ (x &&& 2147483647).toInt := by
  have h := c_mask x 2147483647 31 (by decide) (by decide); rw [h]; omega
theorem own_x (x : Int32) : 0 ≤ ((x &&& 2147483647) % 3).toInt ∧ ((x &&& 2147483647) % 3).toInt < (3 : Int32).toInt := by
  have h := (c_irem (x &&& 2147483647) 3 3 rfl).1 (own_p x)
  rw [h]; exact ⟨Int.emod_nonneg _ (by decide), Int.emod_lt_of_pos _ (by decide)⟩
theorem own_fin (x : Int32) (n : Nat) (hx : 0 ≤ x.toInt ∧ x.toInt < n) : ∃ i : Fin n, x = Int32.ofInt (i.1 : Int) := ⟨⟨x.toInt.toNat, by omega⟩, by rw [Int.toNat_of_nonneg hx.1]; exact (Int32.ofInt_toInt x).symm⟩
theorem own_u (f : Int32) : 0 ≤ (oU f).toInt ∧ (oU f).toInt < (2 : Nat) := by unfold oU; split <;> decide
theorem own_all (f g h a b c : Int32) (ha : 0 ≤ a.toInt ∧ a.toInt < (3 : Int32).toInt) (hb : 0 ≤ b.toInt ∧ b.toInt < (3 : Int32).toInt) (hc : 0 ≤ c.toInt ∧ c.toInt < (3 : Int32).toInt) : oAll (oU f) (oU g) (oU h) a b c := by
  obtain ⟨u, e1⟩ := own_fin (oU f) 2 (own_u f); obtain ⟨v, e2⟩ := own_fin (oU g) 2 (own_u g); obtain ⟨w, e3⟩ := own_fin (oU h) 2 (own_u h)
  obtain ⟨i, e4⟩ := own_fin a 3 ha; obtain ⟨j, e5⟩ := own_fin b 3 hb; obtain ⟨k, e6⟩ := own_fin c 3 hc
  rw [e1, e2, e3, e4, e5, e6]; exact own_dec u v w i j k
theorem own_ok0 : Ok 3 (oS0 3) := ⟨rfl, rfl, by decide, by decide, fun j hj => by revert j; decide⟩
theorem Ok.stepA {u x : Int32} {s : QS} (h : Ok 3 s) (hx : 0 ≤ x.toInt ∧ x.toInt < (3 : Int32).toInt) : Ok 3 (oA u s x) := by unfold oA; split; exact h; exact h.add hx
theorem Ok.stepP {n : Int32} {s : QS} (h : Ok 3 s) : Ok 3 (oPl n s) := by unfold oPl; split; exact h.poll; exact h
theorem own_len (u : Int32) (ms : List Int32) (x : Int32) (h : ms.length = 3) : (oM u ms x).length = 3 := by unfold oM; split; exact h; simpa using h
theorem own_and3 (x : Int32) : x &&& 3 = 0 ∨ x &&& 3 = 1 ∨ x &&& 3 = 2 ∨ x &&& 3 = 3 := by
  have h := c_mask x 3 2 (by decide) (by decide)
  simp only [← Int32.toInt_inj, h, Int32.reduceToInt]; omega
theorem pn0 : plainFor (⟨"com/example/glouton/glouton/consistency/DistinctQueueIsEmptyPinLaw", "law", "(IIIII)Z"⟩ : MethodName) = true := plainFor_of_name (by first | (simp [plainName, overriddenIn]; done) | decide +kernel)
theorem ef0_IIIII (m : MethodId) (x0 : Int32) (x1 : Int32) (x2 : Int32) (x3 : Int32) (x4 : Int32) : entryFrame m #[(.int x0), (.int x1), (.int x2), (.int x3), (.int x4)] 16 = mkF m 0 #[.val (.int x0), .val (.int x1), .val (.int x2), .val (.int x3), .val (.int x4), .unset, .unset, .unset, .unset, .unset, .unset, .unset, .unset, .unset, .unset, .unset] [] := by first | (simp [entryFrame, mkF, argsToLocals, Value.category]; done) | rfl
theorem pd__I_V : parseMethodDescriptor "(I)V" = some ⟨[.int], none⟩ := by decide +kernel
theorem pd___Z : parseMethodDescriptor "()Z" = some ⟨[], some .boolean⟩ := by decide +kernel
theorem pd___I : parseMethodDescriptor "()I" = some ⟨[], some .int⟩ := by decide +kernel
set_option maxRecDepth 65536 in
set_option maxHeartbeats 4000000 in
theorem mt0 (l : Launch) (Z : State) (a0 : Array Value) (hw : ∀ d ∈ tables_1, d.before a0 Z = true) (p0 : Int32) (p1 : Int32) (p2 : Int32) (p3 : Int32) (p4 : Int32) (h0 : Heap) : Meth l Z x code maxLocals ret room_1 #[(.int p0), (.int p1), (.int p2), (.int p3), (.int p4)] h0 [] (fun v h' => v = some (.int 1)) := by
  refine Meth.of pn0 ?_
  intro p e s m below meth c T B X
  have B : Fix p Z s m meth c code 16 "com/example/glouton/glouton/consistency/DistinctQueueIsEmptyPinLaw" "law" (some .boolean) := B
  refine Go.entry (ef0_IIIII m p0 p1 p2 p3 p4) ?_
  refine giloadN B X at_0 rfl (pc' := 1) rfl ?_
  refine gldc B X (v := (2147483647 : Int32)) (hw _ (List.mem_of_getElem? (i := 0) rfl)) at_1 (pc' := 3) rfl ?_
  refine giand B X at_3 rfl (pc' := 4) rfl ?_
  refine giconst B X at_4 (v := (3 : Int32)) rfl (pc' := 5) rfl ?_
  refine girem B X at_5 (by decide) rfl (pc' := 6) rfl ?_
  generalize e_qx0 : ((p0 &&& (2147483647 : Int32)) % (3 : Int32)) = qx0
  refine gistore B X at_6 (Ls' := #[.val (.int p0), .val (.int p1), .val (.int p2), .val (.int p3), .val (.int p4), .val (.int qx0), .unset, .unset, .unset, .unset, .unset, .unset, .unset, .unset, .unset, .unset]) rfl (pc' := 8) rfl ?_
  have hqx0 := own_x p0; rw [e_qx0] at hqx0
  refine giloadN B X at_8 rfl (pc' := 9) rfl ?_
  refine gldc B X (v := (2147483647 : Int32)) (hw _ (List.mem_of_getElem? (i := 0) rfl)) at_9 (pc' := 11) rfl ?_
  refine giand B X at_11 rfl (pc' := 12) rfl ?_
  refine giconst B X at_12 (v := (3 : Int32)) rfl (pc' := 13) rfl ?_
  refine girem B X at_13 (by decide) rfl (pc' := 14) rfl ?_
  generalize e_qx1 : ((p1 &&& (2147483647 : Int32)) % (3 : Int32)) = qx1
  refine gistore B X at_14 (Ls' := #[.val (.int p0), .val (.int p1), .val (.int p2), .val (.int p3), .val (.int p4), .val (.int qx0), .val (.int qx1), .unset, .unset, .unset, .unset, .unset, .unset, .unset, .unset, .unset]) rfl (pc' := 16) rfl ?_
  have hqx1 := own_x p1; rw [e_qx1] at hqx1
  refine giloadN B X at_16 rfl (pc' := 17) rfl ?_
  refine gldc B X (v := (2147483647 : Int32)) (hw _ (List.mem_of_getElem? (i := 0) rfl)) at_17 (pc' := 19) rfl ?_
  refine giand B X at_19 rfl (pc' := 20) rfl ?_
  refine giconst B X at_20 (v := (3 : Int32)) rfl (pc' := 21) rfl ?_
  refine girem B X at_21 (by decide) rfl (pc' := 22) rfl ?_
  generalize e_qx2 : ((p2 &&& (2147483647 : Int32)) % (3 : Int32)) = qx2
  refine gistore B X at_22 (Ls' := #[.val (.int p0), .val (.int p1), .val (.int p2), .val (.int p3), .val (.int p4), .val (.int qx0), .val (.int qx1), .val (.int qx2), .unset, .unset, .unset, .unset, .unset, .unset, .unset, .unset]) rfl (pc' := 24) rfl ?_
  have hqx2 := own_x p2; rw [e_qx2] at hqx2
  refine giload B X at_24 rfl (pc' := 26) rfl ?_
  refine giconst B X at_26 (v := (1 : Int32)) rfl (pc' := 27) rfl ?_
  refine giand B X at_27 rfl (pc' := 28) rfl ?_
  refine joinG B X (F := fun z => (mkF m 36 #[.val (.int p0), .val (.int p1), .val (.int p2), .val (.int p3), .val (.int p4), .val (.int qx0), .val (.int qx1), .val (.int qx2), .unset, .unset, .unset, .unset, .unset, .unset, .unset, .unset] [(.int z)])) (r := (oU (p4 &&& (1 : Int32)))) (fun J => ?_) ?_
  · by_cases c28_118 : (p4 &&& (1 : Int32)) = (0 : Int32)
    · refine gifY B X (pc' := 35) at_28 ((if0 _ _).trans (teq c28_118).1) (by decide) ?_
      refine giconst B X at_35 (v := (0 : Int32)) rfl (pc' := 36) rfl ?_
      have e_J : (oU (p4 &&& (1 : Int32))) = (0 : Int32) := by rw [oU, if_pos c28_118]
      rw [e_J] at J
      exact J _ X
    · refine gifN B X at_28 ((if0 _ _).trans (feq c28_118).1) (pc' := 31) rfl ?_
      refine giconst B X at_31 (v := (1 : Int32)) rfl (pc' := 32) rfl ?_
      refine ggoto B X (pc' := 36) at_32 (by decide) ?_
      have e_J : (oU (p4 &&& (1 : Int32))) = (1 : Int32) := by rw [oU, if_neg c28_118]
      rw [e_J] at J
      exact J _ X
  intro T119 X120
  show Go p e below s _ _ _ _ _ T119 (mkF m 36 #[.val (.int p0), .val (.int p1), .val (.int p2), .val (.int p3), .val (.int p4), .val (.int qx0), .val (.int qx1), .val (.int qx2), .unset, .unset, .unset, .unset, .unset, .unset, .unset, .unset] [(.int (oU (p4 &&& (1 : Int32))))])
  generalize e_qu0 : (oU (p4 &&& (1 : Int32))) = qu0
  refine gistore B X120 at_36 (Ls' := #[.val (.int p0), .val (.int p1), .val (.int p2), .val (.int p3), .val (.int p4), .val (.int qx0), .val (.int qx1), .val (.int qx2), .val (.int qu0), .unset, .unset, .unset, .unset, .unset, .unset, .unset]) rfl (pc' := 38) rfl ?_
  refine giload B X120 at_38 rfl (pc' := 40) rfl ?_
  refine giconst B X120 at_40 (v := (2 : Int32)) rfl (pc' := 41) rfl ?_
  refine giand B X120 at_41 rfl (pc' := 42) rfl ?_
  refine joinG B X120 (F := fun z => (mkF m 50 #[.val (.int p0), .val (.int p1), .val (.int p2), .val (.int p3), .val (.int p4), .val (.int qx0), .val (.int qx1), .val (.int qx2), .val (.int qu0), .unset, .unset, .unset, .unset, .unset, .unset, .unset] [(.int z)])) (r := (oU (p4 &&& (2 : Int32)))) (fun J => ?_) ?_
  · by_cases c42_121 : (p4 &&& (2 : Int32)) = (0 : Int32)
    · refine gifY B X120 (pc' := 49) at_42 ((if0 _ _).trans (teq c42_121).1) (by decide) ?_
      refine giconst B X120 at_49 (v := (0 : Int32)) rfl (pc' := 50) rfl ?_
      have e_J : (oU (p4 &&& (2 : Int32))) = (0 : Int32) := by rw [oU, if_pos c42_121]
      rw [e_J] at J
      exact J _ X120
    · refine gifN B X120 at_42 ((if0 _ _).trans (feq c42_121).1) (pc' := 45) rfl ?_
      refine giconst B X120 at_45 (v := (1 : Int32)) rfl (pc' := 46) rfl ?_
      refine ggoto B X120 (pc' := 50) at_46 (by decide) ?_
      have e_J : (oU (p4 &&& (2 : Int32))) = (1 : Int32) := by rw [oU, if_neg c42_121]
      rw [e_J] at J
      exact J _ X120
  intro T122 X123
  show Go p e below s _ _ _ _ _ T122 (mkF m 50 #[.val (.int p0), .val (.int p1), .val (.int p2), .val (.int p3), .val (.int p4), .val (.int qx0), .val (.int qx1), .val (.int qx2), .val (.int qu0), .unset, .unset, .unset, .unset, .unset, .unset, .unset] [(.int (oU (p4 &&& (2 : Int32))))])
  generalize e_qu1 : (oU (p4 &&& (2 : Int32))) = qu1
  refine gistore B X123 at_50 (Ls' := #[.val (.int p0), .val (.int p1), .val (.int p2), .val (.int p3), .val (.int p4), .val (.int qx0), .val (.int qx1), .val (.int qx2), .val (.int qu0), .val (.int qu1), .unset, .unset, .unset, .unset, .unset, .unset]) rfl (pc' := 52) rfl ?_
  refine giload B X123 at_52 rfl (pc' := 54) rfl ?_
  refine giconst B X123 at_54 (v := (4 : Int32)) rfl (pc' := 55) rfl ?_
  refine giand B X123 at_55 rfl (pc' := 56) rfl ?_
  refine joinG B X123 (F := fun z => (mkF m 64 #[.val (.int p0), .val (.int p1), .val (.int p2), .val (.int p3), .val (.int p4), .val (.int qx0), .val (.int qx1), .val (.int qx2), .val (.int qu0), .val (.int qu1), .unset, .unset, .unset, .unset, .unset, .unset] [(.int z)])) (r := (oU (p4 &&& (4 : Int32)))) (fun J => ?_) ?_
  · by_cases c56_124 : (p4 &&& (4 : Int32)) = (0 : Int32)
    · refine gifY B X123 (pc' := 63) at_56 ((if0 _ _).trans (teq c56_124).1) (by decide) ?_
      refine giconst B X123 at_63 (v := (0 : Int32)) rfl (pc' := 64) rfl ?_
      have e_J : (oU (p4 &&& (4 : Int32))) = (0 : Int32) := by rw [oU, if_pos c56_124]
      rw [e_J] at J
      exact J _ X123
    · refine gifN B X123 at_56 ((if0 _ _).trans (feq c56_124).1) (pc' := 59) rfl ?_
      refine giconst B X123 at_59 (v := (1 : Int32)) rfl (pc' := 60) rfl ?_
      refine ggoto B X123 (pc' := 64) at_60 (by decide) ?_
      have e_J : (oU (p4 &&& (4 : Int32))) = (1 : Int32) := by rw [oU, if_neg c56_124]
      rw [e_J] at J
      exact J _ X123
  intro T125 X126
  show Go p e below s _ _ _ _ _ T125 (mkF m 64 #[.val (.int p0), .val (.int p1), .val (.int p2), .val (.int p3), .val (.int p4), .val (.int qx0), .val (.int qx1), .val (.int qx2), .val (.int qu0), .val (.int qu1), .unset, .unset, .unset, .unset, .unset, .unset] [(.int (oU (p4 &&& (4 : Int32))))])
  generalize e_qu2 : (oU (p4 &&& (4 : Int32))) = qu2
  refine gistore B X126 at_64 (Ls' := #[.val (.int p0), .val (.int p1), .val (.int p2), .val (.int p3), .val (.int p4), .val (.int qx0), .val (.int qx1), .val (.int qx2), .val (.int qu0), .val (.int qu1), .val (.int qu2), .unset, .unset, .unset, .unset, .unset]) rfl (pc' := 66) rfl ?_
  have hA := own_all (p4 &&& 1) (p4 &&& 2) (p4 &&& 4) qx0 qx1 qx2 hqx0 hqx1 hqx2
  rw [e_qu0, e_qu1, e_qu2] at hA
  refine giconst B X126 at_66 (v := (3 : Int32)) rfl (pc' := 67) rfl ?_
  refine gnewarray B X126 (cap := 3) (vs := [(.int (0 : Int32)), (.int (0 : Int32)), (.int (0 : Int32))]) (ty := .boolean) rfl rfl (hw _ (List.mem_of_getElem? (i := 1) rfl)) (by decide) (by decide) (by decide) (by decide) (by decide) at_67 (pc' := 69) rfl fun T127 h128 a129 X130 q131 E132 z_a129 A133 => ?_
  refine gastore B X130 at_69 rfl (Ls' := #[.val (.int p0), .val (.int p1), .val (.int p2), .val (.int p3), .val (.int p4), .val (.int qx0), .val (.int qx1), .val (.int qx2), .val (.int qu0), .val (.int qu1), .val (.int qu2), .val (.ref a129), .unset, .unset, .unset, .unset]) rfl (pc' := 71) rfl ?_
  refine gnew B X130 (hw _ (List.mem_of_getElem? (i := 2) rfl)) (hw _ (List.mem_of_getElem? (i := 3) rfl)) (hw _ (List.mem_of_getElem? (i := 4) rfl)) (by decide) (by decide) at_71 (pc' := 74) rfl fun T134 h135 a136 X137 q138 E139 z_a136 A140 D141 => ?_
  have O142 : Dq Z h135 a136 .null .null (.int (0 : Int32)) (.int (0 : Int32)) (.int (0 : Int32)) := ⟨A140, D141 (Or.inr (hw _ (List.mem_of_getElem? (i := 13) rfl))) (ty := (.array .int)) (by decide), D141 (Or.inr (hw _ (List.mem_of_getElem? (i := 15) rfl))) (ty := (.array .boolean)) (by decide), D141 (Or.inl (hw _ (List.mem_of_getElem? (i := 40) rfl))) (ty := .int) (by decide), D141 (Or.inl (hw _ (List.mem_of_getElem? (i := 29) rfl))) (ty := .int) (by decide), D141 (Or.inl (hw _ (List.mem_of_getElem? (i := 22) rfl))) (ty := .int) (by decide)⟩
  have n143 : a129 ≠ a136 := by rw [q138]; exact Nat.ne_of_lt A133.lt
  have F144 := A133.ext E139
  refine gdup B X137 at_74 rfl (pc' := 75) rfl ?_
  refine giconst B X137 at_75 (v := (3 : Int32)) rfl (pc' := 76) rfl ?_
  refine gcallI B X137 rfl rfl (hw _ (List.mem_of_getElem? (i := 5) rfl)) (hw _ (List.mem_of_getElem? (i := 6) rfl)) (hw _ (List.mem_of_getElem? (i := 4) rfl)) (hw _ (List.mem_of_getElem? (i := 7) rfl)) (by decide) (mt1 l Z a0 hw a136 (3 : Int32)  h135 O142 (by decide)) pd__I_V rfl (argsL := [(.int (3 : Int32))]) (st := [(.ref a136)]) rfl rfl (W := 1) (Nat.le_of_eq rfl) (by decide) (by decide) (by decide) (by decide) (allS (Or.inr z_a136) all0) at_76 (pc' := 79) rfl fun T145 h146 v147 X148 K149 Q150 => ?_
  have F151 := F144.keep K149 (ninS n143 nin0)
  obtain ⟨rfl, r152, t153, y154, y155, n156, O157, A158, A159⟩ := Q150
  have z_r152 : h0.size ≤ r152 := Nat.le_trans X137.kept.1 y154
  have n160 : a129 ≠ r152 := Nat.ne_of_lt (Nat.lt_of_lt_of_le F144.lt y154)
  have n161 : a136 ≠ r152 := Nat.ne_of_lt (Nat.lt_of_lt_of_le O142.lt y154)
  have z_t153 : h0.size ≤ t153 := Nat.le_trans X137.kept.1 y155
  have n162 : a129 ≠ t153 := Nat.ne_of_lt (Nat.lt_of_lt_of_le F144.lt y155)
  have n163 : a136 ≠ t153 := Nat.ne_of_lt (Nat.lt_of_lt_of_le O142.lt y155)
  have A158' : VA Z h146 r152 .int ((oS0 (3 : Int32)).1.map Value.int) := A158
  have A159' : VA Z h146 t153 .boolean ((oS0 (3 : Int32)).2.1.map Value.int) := A159
  show Go p e below s _ _ _ _ _ T145 (mkF m 79 #[.val (.int p0), .val (.int p1), .val (.int p2), .val (.int p3), .val (.int p4), .val (.int qx0), .val (.int qx1), .val (.int qx2), .val (.int qu0), .val (.int qu1), .val (.int qu2), .val (.ref a129), .unset, .unset, .unset, .unset] [(.ref a136)])
  refine gastore B X148 at_79 rfl (Ls' := #[.val (.int p0), .val (.int p1), .val (.int p2), .val (.int p3), .val (.int p4), .val (.int qx0), .val (.int qx1), .val (.int qx2), .val (.int qu0), .val (.int qu1), .val (.int qu2), .val (.ref a129), .val (.ref a136), .unset, .unset, .unset]) rfl (pc' := 81) rfl ?_
  refine gaload B X148 at_81 rfl rfl (pc' := 83) rfl ?_
  refine gcallV B X148 O157.1 (hw _ (List.mem_of_getElem? (i := 16) rfl)) (hw _ (List.mem_of_getElem? (i := 17) rfl)) (hw _ (List.mem_of_getElem? (i := 19) rfl)) (hw _ (List.mem_of_getElem? (i := 18) rfl)) (hw _ (List.mem_of_getElem? (i := 4) rfl)) (hw _ (List.mem_of_getElem? (i := 20) rfl)) rfl (by decide) (mtemp l Z a0 hw a136 (.ref r152) (.ref t153) (.int (oS0 (3 : Int32)).2.2.1) (.int (oS0 (3 : Int32)).2.2.2.1) (oS0 (3 : Int32)).2.2.2.2 h146 O157) pd___Z rfl (argsL := []) (st := []) rfl rfl (W := 0) (Nat.le_of_eq rfl) (by decide) (by decide) (by decide) (by decide) (fun x q => nomatch q) at_83 (pc' := 86) rfl (pureG rfl rfl fun T164 X165 => ?_)
  refine gistore B X165 at_86 (Ls' := #[.val (.int p0), .val (.int p1), .val (.int p2), .val (.int p3), .val (.int p4), .val (.int qx0), .val (.int qx1), .val (.int qx2), .val (.int qu0), .val (.int qu1), .val (.int qu2), .val (.ref a129), .val (.ref a136), .val (.int (oemp (oS0 (3 : Int32)).2.2.2.2)), .unset, .unset]) rfl (pc' := 88) rfl ?_
  have hm0 : ([0, 0, 0] : List Int32).length = 3 := rfl
  have A166 : VA Z h146 a129 .boolean (([0, 0, 0] : List Int32).map Value.int) := F151
  refine joinH X165 (cells' := 4) (slots' := 14) (F := (mkF m 106 #[.val (.int p0), .val (.int p1), .val (.int p2), .val (.int p3), .val (.int p4), .val (.int qx0), .val (.int qx1), .val (.int qx2), .val (.int qu0), .val (.int qu1), .val (.int qu2), .val (.ref a129), .val (.ref a136), .val (.int (oemp (oS0 (3 : Int32)).2.2.2.2)), .unset, .unset] [])) (P := fun hh => Dq Z hh a136 (.ref r152) (.ref t153) (.int ((oA qu0 (oS0 (3 : Int32)) qx0)).2.2.1) (.int ((oA qu0 (oS0 (3 : Int32)) qx0)).2.2.2.1) (.int ((oA qu0 (oS0 (3 : Int32)) qx0)).2.2.2.2) ∧ VA Z hh r152 .int (((oA qu0 (oS0 (3 : Int32)) qx0)).1.map Value.int) ∧ VA Z hh t153 .boolean (((oA qu0 (oS0 (3 : Int32)) qx0)).2.1.map Value.int) ∧ VA Z hh a129 .boolean ((oM qu0 ([0, 0, 0] : List Int32) qx0).map Value.int)) (fun J => ?_) ?_
  · refine giload B X165 at_88 rfl (pc' := 90) rfl ?_
    by_cases c90_167 : qu0 = (0 : Int32)
    · refine gifY B X165 (pc' := 106) at_90 ((if0 _ _).trans (teq c90_167).1) (by decide) ?_
      exact J _ _ (X165.more (by decide) (by decide)) (by rw [oA, oM, if_pos c90_167, if_pos c90_167]; exact ⟨O157, A158', A159', A166⟩)
    · refine gifN B X165 at_90 ((if0 _ _).trans (feq c90_167).1) (pc' := 93) rfl ?_
      refine gaload B X165 at_93 rfl rfl (pc' := 95) rfl ?_
      refine giload B X165 at_95 rfl (pc' := 97) rfl ?_
      refine gcallV B X165 O157.1 (hw _ (List.mem_of_getElem? (i := 23) rfl)) (hw _ (List.mem_of_getElem? (i := 24) rfl)) (hw _ (List.mem_of_getElem? (i := 26) rfl)) (hw _ (List.mem_of_getElem? (i := 25) rfl)) (hw _ (List.mem_of_getElem? (i := 4) rfl)) (hw _ (List.mem_of_getElem? (i := 27) rfl)) rfl (by decide) (mt4 l Z a0 hw a136 qx0 r152 t153 (3 : Int32) (oS0 (3 : Int32)) h146 O157 A158' A159' n161 n163 n156 own_ok0 hqx0) pd__I_V rfl (argsL := [(.int qx0)]) (st := []) rfl rfl (W := 0) (Nat.le_of_eq rfl) (by decide) (by decide) (by decide) (by decide) (allS (Or.inr z_a136) (allS (Or.inr z_r152) (allS (Or.inr z_t153) all0))) at_97 (pc' := 100) rfl fun T168 h169 v170 X171 K172 Q173 => ?_
      have F174 := A166.keep K172 (ninS n143 (ninS n160 (ninS n162 nin0)))
      obtain ⟨rfl, O175, A176, A177⟩ := Q173
      generalize e_s178 : oAdd (3 : Int32) (oS0 (3 : Int32)) qx0 = s178 at O175 A176 A177
      have ok_s178 := own_ok0.add hqx0; rw [e_s178] at ok_s178
      show Go p e below s _ _ _ _ _ T168 (mkF m 100 #[.val (.int p0), .val (.int p1), .val (.int p2), .val (.int p3), .val (.int p4), .val (.int qx0), .val (.int qx1), .val (.int qx2), .val (.int qu0), .val (.int qu1), .val (.int qu2), .val (.ref a129), .val (.ref a136), .val (.int (oemp (oS0 (3 : Int32)).2.2.2.2)), .unset, .unset] [])
      refine gaload B X171 at_100 rfl rfl (pc' := 102) rfl ?_
      refine giload B X171 at_102 rfl (pc' := 104) rfl ?_
      refine giconst B X171 at_104 (v := (1 : Int32)) rfl (pc' := 105) rfl ?_
      refine gzastore B X171 (i := qx0.toNatClampNeg) F174 (n := 3) (by rw [List.length_map]; exact hm0) hqx0 rfl (vs' := ((([0, 0, 0] : List Int32).set qx0.toNatClampNeg 1).map Value.int)) (own_set _ _ 1) (Or.inr z_a129) at_105 (pc' := 106) rfl fun T179 h180 X181 W182 A183 => ?_
      have F184 := O175.other W182 (Ne.symm n143)
      have F185 := A176.other W182 (Ne.symm n160)
      have F186 := A177.other W182 (Ne.symm n162)
      exact J _ _ (X181.more (by decide) (by decide)) (by rw [oA, oM, if_neg c90_167, if_neg c90_167, e_s178]; exact ⟨F184, F185, F186, A183⟩)
  intro T187 h188 X189 P190
  obtain ⟨O191, A192, A193, A194⟩ := P190
  have ok_s195 := own_ok0.stepA (u := qu0) hqx0
  have ln_ms196 := own_len qu0 ([0, 0, 0] : List Int32) qx0 hm0
  generalize e_s195 : (oA qu0 (oS0 (3 : Int32)) qx0) = s195 at O191 A192 A193 ok_s195
  generalize e_ms196 : (oM qu0 ([0, 0, 0] : List Int32) qx0) = ms196 at A194 ln_ms196
  show Go p e below s _ _ _ _ _ T187 (mkF m 106 #[.val (.int p0), .val (.int p1), .val (.int p2), .val (.int p3), .val (.int p4), .val (.int qx0), .val (.int qx1), .val (.int qx2), .val (.int qu0), .val (.int qu1), .val (.int qu2), .val (.ref a129), .val (.ref a136), .val (.int (oemp (oS0 (3 : Int32)).2.2.2.2)), .unset, .unset] [])
  refine joinH X189 (cells' := 4) (slots' := 14) (F := (mkF m 124 #[.val (.int p0), .val (.int p1), .val (.int p2), .val (.int p3), .val (.int p4), .val (.int qx0), .val (.int qx1), .val (.int qx2), .val (.int qu0), .val (.int qu1), .val (.int qu2), .val (.ref a129), .val (.ref a136), .val (.int (oemp (oS0 (3 : Int32)).2.2.2.2)), .unset, .unset] [])) (P := fun hh => Dq Z hh a136 (.ref r152) (.ref t153) (.int ((oA qu1 s195 qx1)).2.2.1) (.int ((oA qu1 s195 qx1)).2.2.2.1) (.int ((oA qu1 s195 qx1)).2.2.2.2) ∧ VA Z hh r152 .int (((oA qu1 s195 qx1)).1.map Value.int) ∧ VA Z hh t153 .boolean (((oA qu1 s195 qx1)).2.1.map Value.int) ∧ VA Z hh a129 .boolean ((oM qu1 ms196 qx1).map Value.int)) (fun J => ?_) ?_
  · refine giload B X189 at_106 rfl (pc' := 108) rfl ?_
    by_cases c108_197 : qu1 = (0 : Int32)
    · refine gifY B X189 (pc' := 124) at_108 ((if0 _ _).trans (teq c108_197).1) (by decide) ?_
      exact J _ _ (X189.more (by decide) (by decide)) (by rw [oA, oM, if_pos c108_197, if_pos c108_197]; exact ⟨O191, A192, A193, A194⟩)
    · refine gifN B X189 at_108 ((if0 _ _).trans (feq c108_197).1) (pc' := 111) rfl ?_
      refine gaload B X189 at_111 rfl rfl (pc' := 113) rfl ?_
      refine giload B X189 at_113 rfl (pc' := 115) rfl ?_
      refine gcallV B X189 O191.1 (hw _ (List.mem_of_getElem? (i := 23) rfl)) (hw _ (List.mem_of_getElem? (i := 24) rfl)) (hw _ (List.mem_of_getElem? (i := 26) rfl)) (hw _ (List.mem_of_getElem? (i := 25) rfl)) (hw _ (List.mem_of_getElem? (i := 4) rfl)) (hw _ (List.mem_of_getElem? (i := 27) rfl)) rfl (by decide) (mt4 l Z a0 hw a136 qx1 r152 t153 (3 : Int32) s195 h188 O191 A192 A193 n161 n163 n156 ok_s195 hqx1) pd__I_V rfl (argsL := [(.int qx1)]) (st := []) rfl rfl (W := 0) (Nat.le_of_eq rfl) (by decide) (by decide) (by decide) (by decide) (allS (Or.inr z_a136) (allS (Or.inr z_r152) (allS (Or.inr z_t153) all0))) at_115 (pc' := 118) rfl fun T198 h199 v200 X201 K202 Q203 => ?_
      have F204 := A194.keep K202 (ninS n143 (ninS n160 (ninS n162 nin0)))
      obtain ⟨rfl, O205, A206, A207⟩ := Q203
      generalize e_s208 : oAdd (3 : Int32) s195 qx1 = s208 at O205 A206 A207
      have ok_s208 := ok_s195.add hqx1; rw [e_s208] at ok_s208
      show Go p e below s _ _ _ _ _ T198 (mkF m 118 #[.val (.int p0), .val (.int p1), .val (.int p2), .val (.int p3), .val (.int p4), .val (.int qx0), .val (.int qx1), .val (.int qx2), .val (.int qu0), .val (.int qu1), .val (.int qu2), .val (.ref a129), .val (.ref a136), .val (.int (oemp (oS0 (3 : Int32)).2.2.2.2)), .unset, .unset] [])
      refine gaload B X201 at_118 rfl rfl (pc' := 120) rfl ?_
      refine giload B X201 at_120 rfl (pc' := 122) rfl ?_
      refine giconst B X201 at_122 (v := (1 : Int32)) rfl (pc' := 123) rfl ?_
      refine gzastore B X201 (i := qx1.toNatClampNeg) F204 (n := 3) (by rw [List.length_map]; exact ln_ms196) hqx1 rfl (vs' := ((ms196.set qx1.toNatClampNeg 1).map Value.int)) (own_set _ _ 1) (Or.inr z_a129) at_123 (pc' := 124) rfl fun T209 h210 X211 W212 A213 => ?_
      have F214 := O205.other W212 (Ne.symm n143)
      have F215 := A206.other W212 (Ne.symm n160)
      have F216 := A207.other W212 (Ne.symm n162)
      exact J _ _ (X211.more (by decide) (by decide)) (by rw [oA, oM, if_neg c108_197, if_neg c108_197, e_s208]; exact ⟨F214, F215, F216, A213⟩)
  intro T217 h218 X219 P220
  obtain ⟨O221, A222, A223, A224⟩ := P220
  have ok_s225 := ok_s195.stepA (u := qu1) hqx1
  have ln_ms226 := own_len qu1 ms196 qx1 ln_ms196
  generalize e_s225 : (oA qu1 s195 qx1) = s225 at O221 A222 A223 ok_s225
  generalize e_ms226 : (oM qu1 ms196 qx1) = ms226 at A224 ln_ms226
  show Go p e below s _ _ _ _ _ T217 (mkF m 124 #[.val (.int p0), .val (.int p1), .val (.int p2), .val (.int p3), .val (.int p4), .val (.int qx0), .val (.int qx1), .val (.int qx2), .val (.int qu0), .val (.int qu1), .val (.int qu2), .val (.ref a129), .val (.ref a136), .val (.int (oemp (oS0 (3 : Int32)).2.2.2.2)), .unset, .unset] [])
  refine joinH X219 (cells' := 4) (slots' := 14) (F := (mkF m 142 #[.val (.int p0), .val (.int p1), .val (.int p2), .val (.int p3), .val (.int p4), .val (.int qx0), .val (.int qx1), .val (.int qx2), .val (.int qu0), .val (.int qu1), .val (.int qu2), .val (.ref a129), .val (.ref a136), .val (.int (oemp (oS0 (3 : Int32)).2.2.2.2)), .unset, .unset] [])) (P := fun hh => Dq Z hh a136 (.ref r152) (.ref t153) (.int ((oA qu2 s225 qx2)).2.2.1) (.int ((oA qu2 s225 qx2)).2.2.2.1) (.int ((oA qu2 s225 qx2)).2.2.2.2) ∧ VA Z hh r152 .int (((oA qu2 s225 qx2)).1.map Value.int) ∧ VA Z hh t153 .boolean (((oA qu2 s225 qx2)).2.1.map Value.int) ∧ VA Z hh a129 .boolean ((oM qu2 ms226 qx2).map Value.int)) (fun J => ?_) ?_
  · refine giload B X219 at_124 rfl (pc' := 126) rfl ?_
    by_cases c126_227 : qu2 = (0 : Int32)
    · refine gifY B X219 (pc' := 142) at_126 ((if0 _ _).trans (teq c126_227).1) (by decide) ?_
      exact J _ _ (X219.more (by decide) (by decide)) (by rw [oA, oM, if_pos c126_227, if_pos c126_227]; exact ⟨O221, A222, A223, A224⟩)
    · refine gifN B X219 at_126 ((if0 _ _).trans (feq c126_227).1) (pc' := 129) rfl ?_
      refine gaload B X219 at_129 rfl rfl (pc' := 131) rfl ?_
      refine giload B X219 at_131 rfl (pc' := 133) rfl ?_
      refine gcallV B X219 O221.1 (hw _ (List.mem_of_getElem? (i := 23) rfl)) (hw _ (List.mem_of_getElem? (i := 24) rfl)) (hw _ (List.mem_of_getElem? (i := 26) rfl)) (hw _ (List.mem_of_getElem? (i := 25) rfl)) (hw _ (List.mem_of_getElem? (i := 4) rfl)) (hw _ (List.mem_of_getElem? (i := 27) rfl)) rfl (by decide) (mt4 l Z a0 hw a136 qx2 r152 t153 (3 : Int32) s225 h218 O221 A222 A223 n161 n163 n156 ok_s225 hqx2) pd__I_V rfl (argsL := [(.int qx2)]) (st := []) rfl rfl (W := 0) (Nat.le_of_eq rfl) (by decide) (by decide) (by decide) (by decide) (allS (Or.inr z_a136) (allS (Or.inr z_r152) (allS (Or.inr z_t153) all0))) at_133 (pc' := 136) rfl fun T228 h229 v230 X231 K232 Q233 => ?_
      have F234 := A224.keep K232 (ninS n143 (ninS n160 (ninS n162 nin0)))
      obtain ⟨rfl, O235, A236, A237⟩ := Q233
      generalize e_s238 : oAdd (3 : Int32) s225 qx2 = s238 at O235 A236 A237
      have ok_s238 := ok_s225.add hqx2; rw [e_s238] at ok_s238
      show Go p e below s _ _ _ _ _ T228 (mkF m 136 #[.val (.int p0), .val (.int p1), .val (.int p2), .val (.int p3), .val (.int p4), .val (.int qx0), .val (.int qx1), .val (.int qx2), .val (.int qu0), .val (.int qu1), .val (.int qu2), .val (.ref a129), .val (.ref a136), .val (.int (oemp (oS0 (3 : Int32)).2.2.2.2)), .unset, .unset] [])
      refine gaload B X231 at_136 rfl rfl (pc' := 138) rfl ?_
      refine giload B X231 at_138 rfl (pc' := 140) rfl ?_
      refine giconst B X231 at_140 (v := (1 : Int32)) rfl (pc' := 141) rfl ?_
      refine gzastore B X231 (i := qx2.toNatClampNeg) F234 (n := 3) (by rw [List.length_map]; exact ln_ms226) hqx2 rfl (vs' := ((ms226.set qx2.toNatClampNeg 1).map Value.int)) (own_set _ _ 1) (Or.inr z_a129) at_141 (pc' := 142) rfl fun T239 h240 X241 W242 A243 => ?_
      have F244 := O235.other W242 (Ne.symm n143)
      have F245 := A236.other W242 (Ne.symm n160)
      have F246 := A237.other W242 (Ne.symm n162)
      exact J _ _ (X241.more (by decide) (by decide)) (by rw [oA, oM, if_neg c126_227, if_neg c126_227, e_s238]; exact ⟨F244, F245, F246, A243⟩)
  intro T247 h248 X249 P250
  obtain ⟨O251, A252, A253, A254⟩ := P250
  have ok_s255 := ok_s225.stepA (u := qu2) hqx2
  have ln_ms256 := own_len qu2 ms226 qx2 ln_ms226
  generalize e_s255 : (oA qu2 s225 qx2) = s255 at O251 A252 A253 ok_s255
  generalize e_ms256 : (oM qu2 ms226 qx2) = ms256 at A254 ln_ms256
  show Go p e below s _ _ _ _ _ T247 (mkF m 142 #[.val (.int p0), .val (.int p1), .val (.int p2), .val (.int p3), .val (.int p4), .val (.int qx0), .val (.int qx1), .val (.int qx2), .val (.int qu0), .val (.int qu1), .val (.int qu2), .val (.ref a129), .val (.ref a136), .val (.int (oemp (oS0 (3 : Int32)).2.2.2.2)), .unset, .unset] [])
  refine gaload B X249 at_142 rfl rfl (pc' := 144) rfl ?_
  refine giconst B X249 at_144 (v := (0 : Int32)) rfl (pc' := 145) rfl ?_
  refine gzaload B X249 A254 (n := 3) (by rw [List.length_map]; exact ln_ms256) (by decide) (v := (.int (ms256.getD 0 0))) (own_at (by rw [ln_ms256]; decide)) at_145 (pc' := 146) rfl ?_
  refine joinG B X249 (F := fun z => (mkF m 154 #[.val (.int p0), .val (.int p1), .val (.int p2), .val (.int p3), .val (.int p4), .val (.int qx0), .val (.int qx1), .val (.int qx2), .val (.int qu0), .val (.int qu1), .val (.int qu2), .val (.ref a129), .val (.ref a136), .val (.int (oemp (oS0 (3 : Int32)).2.2.2.2)), .unset, .unset] [(.int z)])) (r := (oU (ms256.getD 0 0))) (fun J => ?_) ?_
  · by_cases c146_257 : (ms256.getD 0 0) = (0 : Int32)
    · refine gifY B X249 (pc' := 153) at_146 ((if0 _ _).trans (teq c146_257).1) (by decide) ?_
      refine giconst B X249 at_153 (v := (0 : Int32)) rfl (pc' := 154) rfl ?_
      have e_J : (oU (ms256.getD 0 0)) = (0 : Int32) := by rw [oU, if_pos c146_257]
      rw [e_J] at J
      exact J _ X249
    · refine gifN B X249 at_146 ((if0 _ _).trans (feq c146_257).1) (pc' := 149) rfl ?_
      refine giconst B X249 at_149 (v := (1 : Int32)) rfl (pc' := 150) rfl ?_
      refine ggoto B X249 (pc' := 154) at_150 (by decide) ?_
      have e_J : (oU (ms256.getD 0 0)) = (1 : Int32) := by rw [oU, if_neg c146_257]
      rw [e_J] at J
      exact J _ X249
  intro T258 X259
  show Go p e below s _ _ _ _ _ T258 (mkF m 154 #[.val (.int p0), .val (.int p1), .val (.int p2), .val (.int p3), .val (.int p4), .val (.int qx0), .val (.int qx1), .val (.int qx2), .val (.int qu0), .val (.int qu1), .val (.int qu2), .val (.ref a129), .val (.ref a136), .val (.int (oemp (oS0 (3 : Int32)).2.2.2.2)), .unset, .unset] [(.int (oU (ms256.getD 0 0)))])
  refine gaload B X259 at_154 rfl rfl (pc' := 156) rfl ?_
  refine giconst B X259 at_156 (v := (1 : Int32)) rfl (pc' := 157) rfl ?_
  refine gzaload B X259 A254 (n := 3) (by rw [List.length_map]; exact ln_ms256) (by decide) (v := (.int (ms256.getD 1 0))) (own_at (by rw [ln_ms256]; decide)) at_157 (pc' := 158) rfl ?_
  refine joinG B X259 (F := fun z => (mkF m 166 #[.val (.int p0), .val (.int p1), .val (.int p2), .val (.int p3), .val (.int p4), .val (.int qx0), .val (.int qx1), .val (.int qx2), .val (.int qu0), .val (.int qu1), .val (.int qu2), .val (.ref a129), .val (.ref a136), .val (.int (oemp (oS0 (3 : Int32)).2.2.2.2)), .unset, .unset] [(.int z), (.int (oU (ms256.getD 0 0)))])) (r := (oU (ms256.getD 1 0))) (fun J => ?_) ?_
  · by_cases c158_260 : (ms256.getD 1 0) = (0 : Int32)
    · refine gifY B X259 (pc' := 165) at_158 ((if0 _ _).trans (teq c158_260).1) (by decide) ?_
      refine giconst B X259 at_165 (v := (0 : Int32)) rfl (pc' := 166) rfl ?_
      have e_J : (oU (ms256.getD 1 0)) = (0 : Int32) := by rw [oU, if_pos c158_260]
      rw [e_J] at J
      exact J _ X259
    · refine gifN B X259 at_158 ((if0 _ _).trans (feq c158_260).1) (pc' := 161) rfl ?_
      refine giconst B X259 at_161 (v := (1 : Int32)) rfl (pc' := 162) rfl ?_
      refine ggoto B X259 (pc' := 166) at_162 (by decide) ?_
      have e_J : (oU (ms256.getD 1 0)) = (1 : Int32) := by rw [oU, if_neg c158_260]
      rw [e_J] at J
      exact J _ X259
  intro T261 X262
  show Go p e below s _ _ _ _ _ T261 (mkF m 166 #[.val (.int p0), .val (.int p1), .val (.int p2), .val (.int p3), .val (.int p4), .val (.int qx0), .val (.int qx1), .val (.int qx2), .val (.int qu0), .val (.int qu1), .val (.int qu2), .val (.ref a129), .val (.ref a136), .val (.int (oemp (oS0 (3 : Int32)).2.2.2.2)), .unset, .unset] [(.int (oU (ms256.getD 1 0))), (.int (oU (ms256.getD 0 0)))])
  refine giadd B X262 at_166 rfl (pc' := 167) rfl ?_
  refine gaload B X262 at_167 rfl rfl (pc' := 169) rfl ?_
  refine giconst B X262 at_169 (v := (2 : Int32)) rfl (pc' := 170) rfl ?_
  refine gzaload B X262 A254 (n := 3) (by rw [List.length_map]; exact ln_ms256) (by decide) (v := (.int (ms256.getD 2 0))) (own_at (by rw [ln_ms256]; decide)) at_170 (pc' := 171) rfl ?_
  refine joinG B X262 (F := fun z => (mkF m 179 #[.val (.int p0), .val (.int p1), .val (.int p2), .val (.int p3), .val (.int p4), .val (.int qx0), .val (.int qx1), .val (.int qx2), .val (.int qu0), .val (.int qu1), .val (.int qu2), .val (.ref a129), .val (.ref a136), .val (.int (oemp (oS0 (3 : Int32)).2.2.2.2)), .unset, .unset] [(.int z), (.int ((oU (ms256.getD 0 0)) + (oU (ms256.getD 1 0))))])) (r := (oU (ms256.getD 2 0))) (fun J => ?_) ?_
  · by_cases c171_263 : (ms256.getD 2 0) = (0 : Int32)
    · refine gifY B X262 (pc' := 178) at_171 ((if0 _ _).trans (teq c171_263).1) (by decide) ?_
      refine giconst B X262 at_178 (v := (0 : Int32)) rfl (pc' := 179) rfl ?_
      have e_J : (oU (ms256.getD 2 0)) = (0 : Int32) := by rw [oU, if_pos c171_263]
      rw [e_J] at J
      exact J _ X262
    · refine gifN B X262 at_171 ((if0 _ _).trans (feq c171_263).1) (pc' := 174) rfl ?_
      refine giconst B X262 at_174 (v := (1 : Int32)) rfl (pc' := 175) rfl ?_
      refine ggoto B X262 (pc' := 179) at_175 (by decide) ?_
      have e_J : (oU (ms256.getD 2 0)) = (1 : Int32) := by rw [oU, if_neg c171_263]
      rw [e_J] at J
      exact J _ X262
  intro T264 X265
  show Go p e below s _ _ _ _ _ T264 (mkF m 179 #[.val (.int p0), .val (.int p1), .val (.int p2), .val (.int p3), .val (.int p4), .val (.int qx0), .val (.int qx1), .val (.int qx2), .val (.int qu0), .val (.int qu1), .val (.int qu2), .val (.ref a129), .val (.ref a136), .val (.int (oemp (oS0 (3 : Int32)).2.2.2.2)), .unset, .unset] [(.int (oU (ms256.getD 2 0))), (.int ((oU (ms256.getD 0 0)) + (oU (ms256.getD 1 0))))])
  refine giadd B X265 at_179 rfl (pc' := 180) rfl ?_
  generalize e_nn : (((oU (ms256.getD 0 0)) + (oU (ms256.getD 1 0))) + (oU (ms256.getD 2 0))) = nn
  have e_nn' : oNN qu0 qu1 qu2 qx0 qx1 qx2 = nn := by rw [← e_nn]; unfold oNN oM3 oN3; rw [e_ms196, e_ms226, e_ms256]
  have e_s3 : oS3 qu0 qu1 qu2 qx0 qx1 qx2 = s255 := by unfold oS3; rw [e_s195, e_s225, e_s255]
  unfold oAll at hA; rw [e_nn', e_s3] at hA
  refine gistore B X265 at_180 (Ls' := #[.val (.int p0), .val (.int p1), .val (.int p2), .val (.int p3), .val (.int p4), .val (.int qx0), .val (.int qx1), .val (.int qx2), .val (.int qu0), .val (.int qu1), .val (.int qu2), .val (.ref a129), .val (.ref a136), .val (.int (oemp (oS0 (3 : Int32)).2.2.2.2)), .val (.int nn), .unset]) rfl (pc' := 182) rfl ?_
  refine giload B X265 at_182 rfl (pc' := 184) rfl ?_
  have c184_266 : ¬ ((oemp (oS0 (3 : Int32)).2.2.2.2) = (0 : Int32)) := (by decide)
  refine gifN B X265 at_184 ((if0 _ _).trans (feq c184_266).1) (pc' := 187) rfl ?_
  refine gaload B X265 at_187 rfl rfl (pc' := 189) rfl ?_
  refine gcallV B X265 O251.1 (hw _ (List.mem_of_getElem? (i := 16) rfl)) (hw _ (List.mem_of_getElem? (i := 17) rfl)) (hw _ (List.mem_of_getElem? (i := 19) rfl)) (hw _ (List.mem_of_getElem? (i := 18) rfl)) (hw _ (List.mem_of_getElem? (i := 4) rfl)) (hw _ (List.mem_of_getElem? (i := 20) rfl)) rfl (by decide) (mtemp l Z a0 hw a136 (.ref r152) (.ref t153) (.int s255.2.2.1) (.int s255.2.2.2.1) s255.2.2.2.2 h248 O251) pd___Z rfl (argsL := []) (st := []) rfl rfl (W := 0) (Nat.le_of_eq rfl) (by decide) (by decide) (by decide) (by decide) (fun x q => nomatch q) at_189 (pc' := 192) rfl (pureG rfl rfl fun T267 X268 => ?_)
  refine giload B X268 at_192 rfl (pc' := 194) rfl ?_
  refine joinG B X268 (F := fun z => (mkF m 202 #[.val (.int p0), .val (.int p1), .val (.int p2), .val (.int p3), .val (.int p4), .val (.int qx0), .val (.int qx1), .val (.int qx2), .val (.int qu0), .val (.int qu1), .val (.int qu2), .val (.ref a129), .val (.ref a136), .val (.int (oemp (oS0 (3 : Int32)).2.2.2.2)), .val (.int nn), .unset] [(.int z), (.int (oemp s255.2.2.2.2))])) (r := (oZ nn)) (fun J => ?_) ?_
  · by_cases c194_269 : nn = (0 : Int32)
    · refine gifN B X268 at_194 ((if0 _ _).trans (teq c194_269).2) (pc' := 197) rfl ?_
      refine giconst B X268 at_197 (v := (1 : Int32)) rfl (pc' := 198) rfl ?_
      refine ggoto B X268 (pc' := 202) at_198 (by decide) ?_
      have e_J : (oZ nn) = (1 : Int32) := by rw [oZ, if_pos c194_269]
      rw [e_J] at J
      exact J _ X268
    · refine gifY B X268 (pc' := 201) at_194 ((if0 _ _).trans (feq c194_269).2) (by decide) ?_
      refine giconst B X268 at_201 (v := (0 : Int32)) rfl (pc' := 202) rfl ?_
      have e_J : (oZ nn) = (0 : Int32) := by rw [oZ, if_neg c194_269]
      rw [e_J] at J
      exact J _ X268
  intro T270 X271
  show Go p e below s _ _ _ _ _ T270 (mkF m 202 #[.val (.int p0), .val (.int p1), .val (.int p2), .val (.int p3), .val (.int p4), .val (.int qx0), .val (.int qx1), .val (.int qx2), .val (.int qu0), .val (.int qu1), .val (.int qu2), .val (.ref a129), .val (.ref a136), .val (.int (oemp (oS0 (3 : Int32)).2.2.2.2)), .val (.int nn), .unset] [(.int (oZ nn)), (.int (oemp s255.2.2.2.2))])
  have c202_272 : (oemp s255.2.2.2.2) = (oZ nn) := hA.1
  refine gicN B X271 at_202 (teq c202_272).2 (pc' := 205) rfl ?_
  refine giconst B X271 at_205 (v := (1 : Int32)) rfl (pc' := 206) rfl ?_
  refine ggoto B X271 (pc' := 210) at_206 (by decide) ?_
  refine gistore B X271 at_210 (Ls' := #[.val (.int p0), .val (.int p1), .val (.int p2), .val (.int p3), .val (.int p4), .val (.int qx0), .val (.int qx1), .val (.int qx2), .val (.int qu0), .val (.int qu1), .val (.int qu2), .val (.ref a129), .val (.ref a136), .val (.int (1 : Int32)), .val (.int nn), .unset]) rfl (pc' := 212) rfl ?_
  refine giloadN B X271 at_212 rfl (pc' := 213) rfl ?_
  refine giconst B X271 at_213 (v := (3 : Int32)) rfl (pc' := 214) rfl ?_
  refine giand B X271 at_214 rfl (pc' := 215) rfl ?_
  rcases own_and3 p3 with e3 | e3 | e3 | e3
  · rw [e3]
    refine gistore B X271 at_215 (Ls' := #[.val (.int p0), .val (.int p1), .val (.int p2), .val (.int p3), .val (.int p4), .val (.int qx0), .val (.int qx1), .val (.int qx2), .val (.int qu0), .val (.int qu1), .val (.int qu2), .val (.ref a129), .val (.ref a136), .val (.int (1 : Int32)), .val (.int nn), .val (.int (0 : Int32))]) rfl (pc' := 217) rfl ?_
    refine giload B X271 at_217 rfl (pc' := 219) rfl ?_
    refine giconst B X271 at_219 (v := (1 : Int32)) rfl (pc' := 220) rfl ?_
    have c220_273 : (0 : Int32) < (1 : Int32) := (by decide)
    refine gicY B X271 (pc' := 237) at_220 (tlt c220_273).1 (by decide) ?_
    refine giload B X271 at_237 rfl (pc' := 239) rfl ?_
    refine giconst B X271 at_239 (v := (2 : Int32)) rfl (pc' := 240) rfl ?_
    have c240_274 : (0 : Int32) < (2 : Int32) := (by decide)
    refine gicY B X271 (pc' := 257) at_240 (tlt c240_274).1 (by decide) ?_
    refine giload B X271 at_257 rfl (pc' := 259) rfl ?_
    refine giconst B X271 at_259 (v := (3 : Int32)) rfl (pc' := 260) rfl ?_
    have c260_275 : (0 : Int32) < (3 : Int32) := (by decide)
    refine gicY B X271 (pc' := 277) at_260 (tlt c260_275).1 (by decide) ?_
    refine giload B X271 at_277 rfl (pc' := 279) rfl ?_
    have c279_276 : ¬ ((1 : Int32) = (0 : Int32)) := (by decide)
    refine gifN B X271 at_279 ((if0 _ _).trans (feq c279_276).1) (pc' := 282) rfl ?_
    refine gaload B X271 at_282 rfl rfl (pc' := 284) rfl ?_
    refine gcallV B X271 O251.1 (hw _ (List.mem_of_getElem? (i := 16) rfl)) (hw _ (List.mem_of_getElem? (i := 17) rfl)) (hw _ (List.mem_of_getElem? (i := 19) rfl)) (hw _ (List.mem_of_getElem? (i := 18) rfl)) (hw _ (List.mem_of_getElem? (i := 4) rfl)) (hw _ (List.mem_of_getElem? (i := 20) rfl)) rfl (by decide) (mtemp l Z a0 hw a136 (.ref r152) (.ref t153) (.int s255.2.2.1) (.int s255.2.2.2.1) s255.2.2.2.2 h248 O251) pd___Z rfl (argsL := []) (st := []) rfl rfl (W := 0) (Nat.le_of_eq rfl) (by decide) (by decide) (by decide) (by decide) (fun x q => nomatch q) at_284 (pc' := 287) rfl (pureG rfl rfl fun T277 X278 => ?_)
    refine giload B X278 at_287 rfl (pc' := 289) rfl ?_
    refine joinG B X278 (F := fun z => (mkF m 297 #[.val (.int p0), .val (.int p1), .val (.int p2), .val (.int p3), .val (.int p4), .val (.int qx0), .val (.int qx1), .val (.int qx2), .val (.int qu0), .val (.int qu1), .val (.int qu2), .val (.ref a129), .val (.ref a136), .val (.int (1 : Int32)), .val (.int nn), .val (.int (0 : Int32))] [(.int z), (.int (oemp s255.2.2.2.2))])) (r := (oZ nn)) (fun J => ?_) ?_
    · by_cases c289_279 : nn = (0 : Int32)
      · refine gifN B X278 at_289 ((if0 _ _).trans (teq c289_279).2) (pc' := 292) rfl ?_
        refine giconst B X278 at_292 (v := (1 : Int32)) rfl (pc' := 293) rfl ?_
        refine ggoto B X278 (pc' := 297) at_293 (by decide) ?_
        have e_J : (oZ nn) = (1 : Int32) := by rw [oZ, if_pos c289_279]
        rw [e_J] at J
        exact J _ X278
      · refine gifY B X278 (pc' := 296) at_289 ((if0 _ _).trans (feq c289_279).2) (by decide) ?_
        refine giconst B X278 at_296 (v := (0 : Int32)) rfl (pc' := 297) rfl ?_
        have e_J : (oZ nn) = (0 : Int32) := by rw [oZ, if_neg c289_279]
        rw [e_J] at J
        exact J _ X278
    intro T280 X281
    show Go p e below s _ _ _ _ _ T280 (mkF m 297 #[.val (.int p0), .val (.int p1), .val (.int p2), .val (.int p3), .val (.int p4), .val (.int qx0), .val (.int qx1), .val (.int qx2), .val (.int qu0), .val (.int qu1), .val (.int qu2), .val (.ref a129), .val (.ref a136), .val (.int (1 : Int32)), .val (.int nn), .val (.int (0 : Int32))] [(.int (oZ nn)), (.int (oemp s255.2.2.2.2))])
    have c297_282 : (oemp s255.2.2.2.2) = (oZ nn) := hA.1
    refine gicN B X281 at_297 (teq c297_282).2 (pc' := 300) rfl ?_
    refine giconst B X281 at_300 (v := (1 : Int32)) rfl (pc' := 301) rfl ?_
    refine ggoto B X281 (pc' := 305) at_301 (by decide) ?_
    refine gistore B X281 at_305 (Ls' := #[.val (.int p0), .val (.int p1), .val (.int p2), .val (.int p3), .val (.int p4), .val (.int qx0), .val (.int qx1), .val (.int qx2), .val (.int qu0), .val (.int qu1), .val (.int qu2), .val (.ref a129), .val (.ref a136), .val (.int (1 : Int32)), .val (.int nn), .val (.int (0 : Int32))]) rfl (pc' := 307) rfl ?_
    refine giload B X281 at_307 rfl (pc' := 309) rfl ?_
    exact gretN B X281 (z' := (1 : Int32)) (by simp) (rfl) at_309 (by decide) (by decide) (rfl)
  · rw [e3]
    refine gistore B X271 at_215 (Ls' := #[.val (.int p0), .val (.int p1), .val (.int p2), .val (.int p3), .val (.int p4), .val (.int qx0), .val (.int qx1), .val (.int qx2), .val (.int qu0), .val (.int qu1), .val (.int qu2), .val (.ref a129), .val (.ref a136), .val (.int (1 : Int32)), .val (.int nn), .val (.int (1 : Int32))]) rfl (pc' := 217) rfl ?_
    refine giload B X271 at_217 rfl (pc' := 219) rfl ?_
    refine giconst B X271 at_219 (v := (1 : Int32)) rfl (pc' := 220) rfl ?_
    have c220_283 : ¬ ((1 : Int32) < (1 : Int32)) := (by decide)
    refine gicN B X271 at_220 (flt c220_283).1 (pc' := 223) rfl ?_
    refine joinH X271 (cells' := 4) (slots' := 14) (F := (mkF m 237 #[.val (.int p0), .val (.int p1), .val (.int p2), .val (.int p3), .val (.int p4), .val (.int qx0), .val (.int qx1), .val (.int qx2), .val (.int qu0), .val (.int qu1), .val (.int qu2), .val (.ref a129), .val (.ref a136), .val (.int (1 : Int32)), .val (.int (oD nn)), .val (.int (1 : Int32))] [])) (P := fun hh => Dq Z hh a136 (.ref r152) (.ref t153) (.int ((oPl nn s255)).2.2.1) (.int ((oPl nn s255)).2.2.2.1) (.int ((oPl nn s255)).2.2.2.2) ∧ VA Z hh r152 .int (((oPl nn s255)).1.map Value.int) ∧ VA Z hh t153 .boolean (((oPl nn s255)).2.1.map Value.int)) (fun J => ?_) ?_
    · refine giload B X271 at_223 rfl (pc' := 225) rfl ?_
      by_cases c225_284 : (0 : Int32) < nn
      · refine gifN B X271 at_225 ((if0 _ _).trans (tlt c225_284).2.2.2) (pc' := 228) rfl ?_
        refine gaload B X271 at_228 rfl rfl (pc' := 230) rfl ?_
        refine gcallV B X271 O251.1 (hw _ (List.mem_of_getElem? (i := 34) rfl)) (hw _ (List.mem_of_getElem? (i := 35) rfl)) (hw _ (List.mem_of_getElem? (i := 37) rfl)) (hw _ (List.mem_of_getElem? (i := 36) rfl)) (hw _ (List.mem_of_getElem? (i := 4) rfl)) (hw _ (List.mem_of_getElem? (i := 38) rfl)) rfl (by decide) (mt6 l Z a0 hw a136 r152 t153 (3 : Int32) s255 h248 O251 A252 A253 n161 n163 n156 ok_s255) pd___I rfl (argsL := []) (st := []) rfl rfl (W := 0) (Nat.le_of_eq rfl) (by decide) (by decide) (by decide) (by decide) (allS (Or.inr z_a136) (allS (Or.inr z_r152) (allS (Or.inr z_t153) all0))) at_230 (pc' := 233) rfl fun T285 h286 v287 X288 K289 Q290 => ?_
        have F291 := A254.keep K289 (ninS n143 (ninS n160 (ninS n162 nin0)))
        obtain ⟨rfl, O292, A293, A294⟩ := Q290
        generalize e_s295 : oPoll (3 : Int32) s255 = s295 at O292 A293 A294
        have ok_s295 := ok_s255.poll; rw [e_s295] at ok_s295
        show Go p e below s _ _ _ _ _ T285 (mkF m 233 #[.val (.int p0), .val (.int p1), .val (.int p2), .val (.int p3), .val (.int p4), .val (.int qx0), .val (.int qx1), .val (.int qx2), .val (.int qu0), .val (.int qu1), .val (.int qu2), .val (.ref a129), .val (.ref a136), .val (.int (1 : Int32)), .val (.int nn), .val (.int (1 : Int32))] [(.int (oVal s255))])
        refine gpop B X288 at_233 rfl (pc' := 234) rfl ?_
        refine giinc B X288 at_234 rfl (v := (nn + (-1 : Int32))) rfl (Ls' := #[.val (.int p0), .val (.int p1), .val (.int p2), .val (.int p3), .val (.int p4), .val (.int qx0), .val (.int qx1), .val (.int qx2), .val (.int qu0), .val (.int qu1), .val (.int qu2), .val (.ref a129), .val (.ref a136), .val (.int (1 : Int32)), .val (.int (nn + (-1 : Int32))), .val (.int (1 : Int32))]) rfl (pc' := 237) rfl ?_
        rw [show oD nn = (nn + (-1 : Int32)) from by rw [oD, if_pos c225_284]] at J
        exact J _ _ (X288.more (by decide) (by decide)) (by rw [oPl, if_pos c225_284, e_s295]; exact ⟨O292, A293, A294⟩)
      · refine gifY B X271 (pc' := 237) at_225 ((if0 _ _).trans (flt c225_284).2.2.2) (by decide) ?_
        rw [show oD nn = nn from by rw [oD, if_neg c225_284]] at J
        exact J _ _ (X271.more (by decide) (by decide)) (by rw [oPl, if_neg c225_284]; exact ⟨O251, A252, A253⟩)
    intro T296 h297 X298 P299
    obtain ⟨O300, A301, A302⟩ := P299
    have ok_s303 := ok_s255.stepP (n := nn)
    generalize e_s303 : (oPl nn s255) = s303 at O300 A301 A302 ok_s303
    show Go p e below s _ _ _ _ _ T296 (mkF m 237 #[.val (.int p0), .val (.int p1), .val (.int p2), .val (.int p3), .val (.int p4), .val (.int qx0), .val (.int qx1), .val (.int qx2), .val (.int qu0), .val (.int qu1), .val (.int qu2), .val (.ref a129), .val (.ref a136), .val (.int (1 : Int32)), .val (.int (oD nn)), .val (.int (1 : Int32))] [])
    refine giload B X298 at_237 rfl (pc' := 239) rfl ?_
    refine giconst B X298 at_239 (v := (2 : Int32)) rfl (pc' := 240) rfl ?_
    have c240_304 : (1 : Int32) < (2 : Int32) := (by decide)
    refine gicY B X298 (pc' := 257) at_240 (tlt c240_304).1 (by decide) ?_
    refine giload B X298 at_257 rfl (pc' := 259) rfl ?_
    refine giconst B X298 at_259 (v := (3 : Int32)) rfl (pc' := 260) rfl ?_
    have c260_305 : (1 : Int32) < (3 : Int32) := (by decide)
    refine gicY B X298 (pc' := 277) at_260 (tlt c260_305).1 (by decide) ?_
    refine giload B X298 at_277 rfl (pc' := 279) rfl ?_
    have c279_306 : ¬ ((1 : Int32) = (0 : Int32)) := (by decide)
    refine gifN B X298 at_279 ((if0 _ _).trans (feq c279_306).1) (pc' := 282) rfl ?_
    refine gaload B X298 at_282 rfl rfl (pc' := 284) rfl ?_
    refine gcallV B X298 O300.1 (hw _ (List.mem_of_getElem? (i := 16) rfl)) (hw _ (List.mem_of_getElem? (i := 17) rfl)) (hw _ (List.mem_of_getElem? (i := 19) rfl)) (hw _ (List.mem_of_getElem? (i := 18) rfl)) (hw _ (List.mem_of_getElem? (i := 4) rfl)) (hw _ (List.mem_of_getElem? (i := 20) rfl)) rfl (by decide) (mtemp l Z a0 hw a136 (.ref r152) (.ref t153) (.int s303.2.2.1) (.int s303.2.2.2.1) s303.2.2.2.2 h297 O300) pd___Z rfl (argsL := []) (st := []) rfl rfl (W := 0) (Nat.le_of_eq rfl) (by decide) (by decide) (by decide) (by decide) (fun x q => nomatch q) at_284 (pc' := 287) rfl (pureG rfl rfl fun T307 X308 => ?_)
    refine giload B X308 at_287 rfl (pc' := 289) rfl ?_
    refine joinG B X308 (F := fun z => (mkF m 297 #[.val (.int p0), .val (.int p1), .val (.int p2), .val (.int p3), .val (.int p4), .val (.int qx0), .val (.int qx1), .val (.int qx2), .val (.int qu0), .val (.int qu1), .val (.int qu2), .val (.ref a129), .val (.ref a136), .val (.int (1 : Int32)), .val (.int (oD nn)), .val (.int (1 : Int32))] [(.int z), (.int (oemp s303.2.2.2.2))])) (r := (oZ (oD nn))) (fun J => ?_) ?_
    · by_cases c289_309 : (oD nn) = (0 : Int32)
      · refine gifN B X308 at_289 ((if0 _ _).trans (teq c289_309).2) (pc' := 292) rfl ?_
        refine giconst B X308 at_292 (v := (1 : Int32)) rfl (pc' := 293) rfl ?_
        refine ggoto B X308 (pc' := 297) at_293 (by decide) ?_
        have e_J : (oZ (oD nn)) = (1 : Int32) := by rw [oZ, if_pos c289_309]
        rw [e_J] at J
        exact J _ X308
      · refine gifY B X308 (pc' := 296) at_289 ((if0 _ _).trans (feq c289_309).2) (by decide) ?_
        refine giconst B X308 at_296 (v := (0 : Int32)) rfl (pc' := 297) rfl ?_
        have e_J : (oZ (oD nn)) = (0 : Int32) := by rw [oZ, if_neg c289_309]
        rw [e_J] at J
        exact J _ X308
    intro T310 X311
    show Go p e below s _ _ _ _ _ T310 (mkF m 297 #[.val (.int p0), .val (.int p1), .val (.int p2), .val (.int p3), .val (.int p4), .val (.int qx0), .val (.int qx1), .val (.int qx2), .val (.int qu0), .val (.int qu1), .val (.int qu2), .val (.ref a129), .val (.ref a136), .val (.int (1 : Int32)), .val (.int (oD nn)), .val (.int (1 : Int32))] [(.int (oZ (oD nn))), (.int (oemp s303.2.2.2.2))])
    have c297_312 : (oemp s303.2.2.2.2) = (oZ (oD nn)) := by have z := hA.2.1; rw [e_s303] at z; exact z
    refine gicN B X311 at_297 (teq c297_312).2 (pc' := 300) rfl ?_
    refine giconst B X311 at_300 (v := (1 : Int32)) rfl (pc' := 301) rfl ?_
    refine ggoto B X311 (pc' := 305) at_301 (by decide) ?_
    refine gistore B X311 at_305 (Ls' := #[.val (.int p0), .val (.int p1), .val (.int p2), .val (.int p3), .val (.int p4), .val (.int qx0), .val (.int qx1), .val (.int qx2), .val (.int qu0), .val (.int qu1), .val (.int qu2), .val (.ref a129), .val (.ref a136), .val (.int (1 : Int32)), .val (.int (oD nn)), .val (.int (1 : Int32))]) rfl (pc' := 307) rfl ?_
    refine giload B X311 at_307 rfl (pc' := 309) rfl ?_
    exact gretN B X311 (z' := (1 : Int32)) (by simp) (rfl) at_309 (by decide) (by decide) (rfl)
  · rw [e3]
    refine gistore B X271 at_215 (Ls' := #[.val (.int p0), .val (.int p1), .val (.int p2), .val (.int p3), .val (.int p4), .val (.int qx0), .val (.int qx1), .val (.int qx2), .val (.int qu0), .val (.int qu1), .val (.int qu2), .val (.ref a129), .val (.ref a136), .val (.int (1 : Int32)), .val (.int nn), .val (.int (2 : Int32))]) rfl (pc' := 217) rfl ?_
    refine giload B X271 at_217 rfl (pc' := 219) rfl ?_
    refine giconst B X271 at_219 (v := (1 : Int32)) rfl (pc' := 220) rfl ?_
    have c220_313 : ¬ ((2 : Int32) < (1 : Int32)) := (by decide)
    refine gicN B X271 at_220 (flt c220_313).1 (pc' := 223) rfl ?_
    refine joinH X271 (cells' := 4) (slots' := 14) (F := (mkF m 237 #[.val (.int p0), .val (.int p1), .val (.int p2), .val (.int p3), .val (.int p4), .val (.int qx0), .val (.int qx1), .val (.int qx2), .val (.int qu0), .val (.int qu1), .val (.int qu2), .val (.ref a129), .val (.ref a136), .val (.int (1 : Int32)), .val (.int (oD nn)), .val (.int (2 : Int32))] [])) (P := fun hh => Dq Z hh a136 (.ref r152) (.ref t153) (.int ((oPl nn s255)).2.2.1) (.int ((oPl nn s255)).2.2.2.1) (.int ((oPl nn s255)).2.2.2.2) ∧ VA Z hh r152 .int (((oPl nn s255)).1.map Value.int) ∧ VA Z hh t153 .boolean (((oPl nn s255)).2.1.map Value.int)) (fun J => ?_) ?_
    · refine giload B X271 at_223 rfl (pc' := 225) rfl ?_
      by_cases c225_314 : (0 : Int32) < nn
      · refine gifN B X271 at_225 ((if0 _ _).trans (tlt c225_314).2.2.2) (pc' := 228) rfl ?_
        refine gaload B X271 at_228 rfl rfl (pc' := 230) rfl ?_
        refine gcallV B X271 O251.1 (hw _ (List.mem_of_getElem? (i := 34) rfl)) (hw _ (List.mem_of_getElem? (i := 35) rfl)) (hw _ (List.mem_of_getElem? (i := 37) rfl)) (hw _ (List.mem_of_getElem? (i := 36) rfl)) (hw _ (List.mem_of_getElem? (i := 4) rfl)) (hw _ (List.mem_of_getElem? (i := 38) rfl)) rfl (by decide) (mt6 l Z a0 hw a136 r152 t153 (3 : Int32) s255 h248 O251 A252 A253 n161 n163 n156 ok_s255) pd___I rfl (argsL := []) (st := []) rfl rfl (W := 0) (Nat.le_of_eq rfl) (by decide) (by decide) (by decide) (by decide) (allS (Or.inr z_a136) (allS (Or.inr z_r152) (allS (Or.inr z_t153) all0))) at_230 (pc' := 233) rfl fun T315 h316 v317 X318 K319 Q320 => ?_
        have F321 := A254.keep K319 (ninS n143 (ninS n160 (ninS n162 nin0)))
        obtain ⟨rfl, O322, A323, A324⟩ := Q320
        generalize e_s325 : oPoll (3 : Int32) s255 = s325 at O322 A323 A324
        have ok_s325 := ok_s255.poll; rw [e_s325] at ok_s325
        show Go p e below s _ _ _ _ _ T315 (mkF m 233 #[.val (.int p0), .val (.int p1), .val (.int p2), .val (.int p3), .val (.int p4), .val (.int qx0), .val (.int qx1), .val (.int qx2), .val (.int qu0), .val (.int qu1), .val (.int qu2), .val (.ref a129), .val (.ref a136), .val (.int (1 : Int32)), .val (.int nn), .val (.int (2 : Int32))] [(.int (oVal s255))])
        refine gpop B X318 at_233 rfl (pc' := 234) rfl ?_
        refine giinc B X318 at_234 rfl (v := (nn + (-1 : Int32))) rfl (Ls' := #[.val (.int p0), .val (.int p1), .val (.int p2), .val (.int p3), .val (.int p4), .val (.int qx0), .val (.int qx1), .val (.int qx2), .val (.int qu0), .val (.int qu1), .val (.int qu2), .val (.ref a129), .val (.ref a136), .val (.int (1 : Int32)), .val (.int (nn + (-1 : Int32))), .val (.int (2 : Int32))]) rfl (pc' := 237) rfl ?_
        rw [show oD nn = (nn + (-1 : Int32)) from by rw [oD, if_pos c225_314]] at J
        exact J _ _ (X318.more (by decide) (by decide)) (by rw [oPl, if_pos c225_314, e_s325]; exact ⟨O322, A323, A324⟩)
      · refine gifY B X271 (pc' := 237) at_225 ((if0 _ _).trans (flt c225_314).2.2.2) (by decide) ?_
        rw [show oD nn = nn from by rw [oD, if_neg c225_314]] at J
        exact J _ _ (X271.more (by decide) (by decide)) (by rw [oPl, if_neg c225_314]; exact ⟨O251, A252, A253⟩)
    intro T326 h327 X328 P329
    obtain ⟨O330, A331, A332⟩ := P329
    have ok_s333 := ok_s255.stepP (n := nn)
    generalize e_s333 : (oPl nn s255) = s333 at O330 A331 A332 ok_s333
    show Go p e below s _ _ _ _ _ T326 (mkF m 237 #[.val (.int p0), .val (.int p1), .val (.int p2), .val (.int p3), .val (.int p4), .val (.int qx0), .val (.int qx1), .val (.int qx2), .val (.int qu0), .val (.int qu1), .val (.int qu2), .val (.ref a129), .val (.ref a136), .val (.int (1 : Int32)), .val (.int (oD nn)), .val (.int (2 : Int32))] [])
    refine giload B X328 at_237 rfl (pc' := 239) rfl ?_
    refine giconst B X328 at_239 (v := (2 : Int32)) rfl (pc' := 240) rfl ?_
    have c240_334 : ¬ ((2 : Int32) < (2 : Int32)) := (by decide)
    refine gicN B X328 at_240 (flt c240_334).1 (pc' := 243) rfl ?_
    refine joinH X328 (cells' := 4) (slots' := 14) (F := (mkF m 257 #[.val (.int p0), .val (.int p1), .val (.int p2), .val (.int p3), .val (.int p4), .val (.int qx0), .val (.int qx1), .val (.int qx2), .val (.int qu0), .val (.int qu1), .val (.int qu2), .val (.ref a129), .val (.ref a136), .val (.int (1 : Int32)), .val (.int (oD (oD nn))), .val (.int (2 : Int32))] [])) (P := fun hh => Dq Z hh a136 (.ref r152) (.ref t153) (.int ((oPl (oD nn) s333)).2.2.1) (.int ((oPl (oD nn) s333)).2.2.2.1) (.int ((oPl (oD nn) s333)).2.2.2.2) ∧ VA Z hh r152 .int (((oPl (oD nn) s333)).1.map Value.int) ∧ VA Z hh t153 .boolean (((oPl (oD nn) s333)).2.1.map Value.int)) (fun J => ?_) ?_
    · refine giload B X328 at_243 rfl (pc' := 245) rfl ?_
      by_cases c245_335 : (0 : Int32) < (oD nn)
      · refine gifN B X328 at_245 ((if0 _ _).trans (tlt c245_335).2.2.2) (pc' := 248) rfl ?_
        refine gaload B X328 at_248 rfl rfl (pc' := 250) rfl ?_
        refine gcallV B X328 O330.1 (hw _ (List.mem_of_getElem? (i := 34) rfl)) (hw _ (List.mem_of_getElem? (i := 35) rfl)) (hw _ (List.mem_of_getElem? (i := 37) rfl)) (hw _ (List.mem_of_getElem? (i := 36) rfl)) (hw _ (List.mem_of_getElem? (i := 4) rfl)) (hw _ (List.mem_of_getElem? (i := 38) rfl)) rfl (by decide) (mt6 l Z a0 hw a136 r152 t153 (3 : Int32) s333 h327 O330 A331 A332 n161 n163 n156 ok_s333) pd___I rfl (argsL := []) (st := []) rfl rfl (W := 0) (Nat.le_of_eq rfl) (by decide) (by decide) (by decide) (by decide) (allS (Or.inr z_a136) (allS (Or.inr z_r152) (allS (Or.inr z_t153) all0))) at_250 (pc' := 253) rfl fun T336 h337 v338 X339 K340 Q341 => ?_
        obtain ⟨rfl, O342, A343, A344⟩ := Q341
        generalize e_s345 : oPoll (3 : Int32) s333 = s345 at O342 A343 A344
        have ok_s345 := ok_s333.poll; rw [e_s345] at ok_s345
        show Go p e below s _ _ _ _ _ T336 (mkF m 253 #[.val (.int p0), .val (.int p1), .val (.int p2), .val (.int p3), .val (.int p4), .val (.int qx0), .val (.int qx1), .val (.int qx2), .val (.int qu0), .val (.int qu1), .val (.int qu2), .val (.ref a129), .val (.ref a136), .val (.int (1 : Int32)), .val (.int (oD nn)), .val (.int (2 : Int32))] [(.int (oVal s333))])
        refine gpop B X339 at_253 rfl (pc' := 254) rfl ?_
        refine giinc B X339 at_254 rfl (v := ((oD nn) + (-1 : Int32))) rfl (Ls' := #[.val (.int p0), .val (.int p1), .val (.int p2), .val (.int p3), .val (.int p4), .val (.int qx0), .val (.int qx1), .val (.int qx2), .val (.int qu0), .val (.int qu1), .val (.int qu2), .val (.ref a129), .val (.ref a136), .val (.int (1 : Int32)), .val (.int ((oD nn) + (-1 : Int32))), .val (.int (2 : Int32))]) rfl (pc' := 257) rfl ?_
        rw [show oD (oD nn) = ((oD nn) + (-1 : Int32)) from by rw [oD, if_pos c245_335]] at J
        exact J _ _ (X339.more (by decide) (by decide)) (by rw [oPl, if_pos c245_335, e_s345]; exact ⟨O342, A343, A344⟩)
      · refine gifY B X328 (pc' := 257) at_245 ((if0 _ _).trans (flt c245_335).2.2.2) (by decide) ?_
        rw [show oD (oD nn) = (oD nn) from by rw [oD, if_neg c245_335]] at J
        exact J _ _ (X328.more (by decide) (by decide)) (by rw [oPl, if_neg c245_335]; exact ⟨O330, A331, A332⟩)
    intro T346 h347 X348 P349
    obtain ⟨O350, A351, A352⟩ := P349
    have ok_s353 := ok_s333.stepP (n := (oD nn))
    generalize e_s353 : (oPl (oD nn) s333) = s353 at O350 A351 A352 ok_s353
    show Go p e below s _ _ _ _ _ T346 (mkF m 257 #[.val (.int p0), .val (.int p1), .val (.int p2), .val (.int p3), .val (.int p4), .val (.int qx0), .val (.int qx1), .val (.int qx2), .val (.int qu0), .val (.int qu1), .val (.int qu2), .val (.ref a129), .val (.ref a136), .val (.int (1 : Int32)), .val (.int (oD (oD nn))), .val (.int (2 : Int32))] [])
    refine giload B X348 at_257 rfl (pc' := 259) rfl ?_
    refine giconst B X348 at_259 (v := (3 : Int32)) rfl (pc' := 260) rfl ?_
    have c260_354 : (2 : Int32) < (3 : Int32) := (by decide)
    refine gicY B X348 (pc' := 277) at_260 (tlt c260_354).1 (by decide) ?_
    refine giload B X348 at_277 rfl (pc' := 279) rfl ?_
    have c279_355 : ¬ ((1 : Int32) = (0 : Int32)) := (by decide)
    refine gifN B X348 at_279 ((if0 _ _).trans (feq c279_355).1) (pc' := 282) rfl ?_
    refine gaload B X348 at_282 rfl rfl (pc' := 284) rfl ?_
    refine gcallV B X348 O350.1 (hw _ (List.mem_of_getElem? (i := 16) rfl)) (hw _ (List.mem_of_getElem? (i := 17) rfl)) (hw _ (List.mem_of_getElem? (i := 19) rfl)) (hw _ (List.mem_of_getElem? (i := 18) rfl)) (hw _ (List.mem_of_getElem? (i := 4) rfl)) (hw _ (List.mem_of_getElem? (i := 20) rfl)) rfl (by decide) (mtemp l Z a0 hw a136 (.ref r152) (.ref t153) (.int s353.2.2.1) (.int s353.2.2.2.1) s353.2.2.2.2 h347 O350) pd___Z rfl (argsL := []) (st := []) rfl rfl (W := 0) (Nat.le_of_eq rfl) (by decide) (by decide) (by decide) (by decide) (fun x q => nomatch q) at_284 (pc' := 287) rfl (pureG rfl rfl fun T356 X357 => ?_)
    refine giload B X357 at_287 rfl (pc' := 289) rfl ?_
    refine joinG B X357 (F := fun z => (mkF m 297 #[.val (.int p0), .val (.int p1), .val (.int p2), .val (.int p3), .val (.int p4), .val (.int qx0), .val (.int qx1), .val (.int qx2), .val (.int qu0), .val (.int qu1), .val (.int qu2), .val (.ref a129), .val (.ref a136), .val (.int (1 : Int32)), .val (.int (oD (oD nn))), .val (.int (2 : Int32))] [(.int z), (.int (oemp s353.2.2.2.2))])) (r := (oZ (oD (oD nn)))) (fun J => ?_) ?_
    · by_cases c289_358 : (oD (oD nn)) = (0 : Int32)
      · refine gifN B X357 at_289 ((if0 _ _).trans (teq c289_358).2) (pc' := 292) rfl ?_
        refine giconst B X357 at_292 (v := (1 : Int32)) rfl (pc' := 293) rfl ?_
        refine ggoto B X357 (pc' := 297) at_293 (by decide) ?_
        have e_J : (oZ (oD (oD nn))) = (1 : Int32) := by rw [oZ, if_pos c289_358]
        rw [e_J] at J
        exact J _ X357
      · refine gifY B X357 (pc' := 296) at_289 ((if0 _ _).trans (feq c289_358).2) (by decide) ?_
        refine giconst B X357 at_296 (v := (0 : Int32)) rfl (pc' := 297) rfl ?_
        have e_J : (oZ (oD (oD nn))) = (0 : Int32) := by rw [oZ, if_neg c289_358]
        rw [e_J] at J
        exact J _ X357
    intro T359 X360
    show Go p e below s _ _ _ _ _ T359 (mkF m 297 #[.val (.int p0), .val (.int p1), .val (.int p2), .val (.int p3), .val (.int p4), .val (.int qx0), .val (.int qx1), .val (.int qx2), .val (.int qu0), .val (.int qu1), .val (.int qu2), .val (.ref a129), .val (.ref a136), .val (.int (1 : Int32)), .val (.int (oD (oD nn))), .val (.int (2 : Int32))] [(.int (oZ (oD (oD nn)))), (.int (oemp s353.2.2.2.2))])
    have c297_361 : (oemp s353.2.2.2.2) = (oZ (oD (oD nn))) := by have z := hA.2.2.1; rw [e_s333, e_s353] at z; exact z
    refine gicN B X360 at_297 (teq c297_361).2 (pc' := 300) rfl ?_
    refine giconst B X360 at_300 (v := (1 : Int32)) rfl (pc' := 301) rfl ?_
    refine ggoto B X360 (pc' := 305) at_301 (by decide) ?_
    refine gistore B X360 at_305 (Ls' := #[.val (.int p0), .val (.int p1), .val (.int p2), .val (.int p3), .val (.int p4), .val (.int qx0), .val (.int qx1), .val (.int qx2), .val (.int qu0), .val (.int qu1), .val (.int qu2), .val (.ref a129), .val (.ref a136), .val (.int (1 : Int32)), .val (.int (oD (oD nn))), .val (.int (2 : Int32))]) rfl (pc' := 307) rfl ?_
    refine giload B X360 at_307 rfl (pc' := 309) rfl ?_
    exact gretN B X360 (z' := (1 : Int32)) (by simp) (rfl) at_309 (by decide) (by decide) (rfl)
  · rw [e3]
    refine gistore B X271 at_215 (Ls' := #[.val (.int p0), .val (.int p1), .val (.int p2), .val (.int p3), .val (.int p4), .val (.int qx0), .val (.int qx1), .val (.int qx2), .val (.int qu0), .val (.int qu1), .val (.int qu2), .val (.ref a129), .val (.ref a136), .val (.int (1 : Int32)), .val (.int nn), .val (.int (3 : Int32))]) rfl (pc' := 217) rfl ?_
    refine giload B X271 at_217 rfl (pc' := 219) rfl ?_
    refine giconst B X271 at_219 (v := (1 : Int32)) rfl (pc' := 220) rfl ?_
    have c220_362 : ¬ ((3 : Int32) < (1 : Int32)) := (by decide)
    refine gicN B X271 at_220 (flt c220_362).1 (pc' := 223) rfl ?_
    refine joinH X271 (cells' := 4) (slots' := 14) (F := (mkF m 237 #[.val (.int p0), .val (.int p1), .val (.int p2), .val (.int p3), .val (.int p4), .val (.int qx0), .val (.int qx1), .val (.int qx2), .val (.int qu0), .val (.int qu1), .val (.int qu2), .val (.ref a129), .val (.ref a136), .val (.int (1 : Int32)), .val (.int (oD nn)), .val (.int (3 : Int32))] [])) (P := fun hh => Dq Z hh a136 (.ref r152) (.ref t153) (.int ((oPl nn s255)).2.2.1) (.int ((oPl nn s255)).2.2.2.1) (.int ((oPl nn s255)).2.2.2.2) ∧ VA Z hh r152 .int (((oPl nn s255)).1.map Value.int) ∧ VA Z hh t153 .boolean (((oPl nn s255)).2.1.map Value.int)) (fun J => ?_) ?_
    · refine giload B X271 at_223 rfl (pc' := 225) rfl ?_
      by_cases c225_363 : (0 : Int32) < nn
      · refine gifN B X271 at_225 ((if0 _ _).trans (tlt c225_363).2.2.2) (pc' := 228) rfl ?_
        refine gaload B X271 at_228 rfl rfl (pc' := 230) rfl ?_
        refine gcallV B X271 O251.1 (hw _ (List.mem_of_getElem? (i := 34) rfl)) (hw _ (List.mem_of_getElem? (i := 35) rfl)) (hw _ (List.mem_of_getElem? (i := 37) rfl)) (hw _ (List.mem_of_getElem? (i := 36) rfl)) (hw _ (List.mem_of_getElem? (i := 4) rfl)) (hw _ (List.mem_of_getElem? (i := 38) rfl)) rfl (by decide) (mt6 l Z a0 hw a136 r152 t153 (3 : Int32) s255 h248 O251 A252 A253 n161 n163 n156 ok_s255) pd___I rfl (argsL := []) (st := []) rfl rfl (W := 0) (Nat.le_of_eq rfl) (by decide) (by decide) (by decide) (by decide) (allS (Or.inr z_a136) (allS (Or.inr z_r152) (allS (Or.inr z_t153) all0))) at_230 (pc' := 233) rfl fun T364 h365 v366 X367 K368 Q369 => ?_
        have F370 := A254.keep K368 (ninS n143 (ninS n160 (ninS n162 nin0)))
        obtain ⟨rfl, O371, A372, A373⟩ := Q369
        generalize e_s374 : oPoll (3 : Int32) s255 = s374 at O371 A372 A373
        have ok_s374 := ok_s255.poll; rw [e_s374] at ok_s374
        show Go p e below s _ _ _ _ _ T364 (mkF m 233 #[.val (.int p0), .val (.int p1), .val (.int p2), .val (.int p3), .val (.int p4), .val (.int qx0), .val (.int qx1), .val (.int qx2), .val (.int qu0), .val (.int qu1), .val (.int qu2), .val (.ref a129), .val (.ref a136), .val (.int (1 : Int32)), .val (.int nn), .val (.int (3 : Int32))] [(.int (oVal s255))])
        refine gpop B X367 at_233 rfl (pc' := 234) rfl ?_
        refine giinc B X367 at_234 rfl (v := (nn + (-1 : Int32))) rfl (Ls' := #[.val (.int p0), .val (.int p1), .val (.int p2), .val (.int p3), .val (.int p4), .val (.int qx0), .val (.int qx1), .val (.int qx2), .val (.int qu0), .val (.int qu1), .val (.int qu2), .val (.ref a129), .val (.ref a136), .val (.int (1 : Int32)), .val (.int (nn + (-1 : Int32))), .val (.int (3 : Int32))]) rfl (pc' := 237) rfl ?_
        rw [show oD nn = (nn + (-1 : Int32)) from by rw [oD, if_pos c225_363]] at J
        exact J _ _ (X367.more (by decide) (by decide)) (by rw [oPl, if_pos c225_363, e_s374]; exact ⟨O371, A372, A373⟩)
      · refine gifY B X271 (pc' := 237) at_225 ((if0 _ _).trans (flt c225_363).2.2.2) (by decide) ?_
        rw [show oD nn = nn from by rw [oD, if_neg c225_363]] at J
        exact J _ _ (X271.more (by decide) (by decide)) (by rw [oPl, if_neg c225_363]; exact ⟨O251, A252, A253⟩)
    intro T375 h376 X377 P378
    obtain ⟨O379, A380, A381⟩ := P378
    have ok_s382 := ok_s255.stepP (n := nn)
    generalize e_s382 : (oPl nn s255) = s382 at O379 A380 A381 ok_s382
    show Go p e below s _ _ _ _ _ T375 (mkF m 237 #[.val (.int p0), .val (.int p1), .val (.int p2), .val (.int p3), .val (.int p4), .val (.int qx0), .val (.int qx1), .val (.int qx2), .val (.int qu0), .val (.int qu1), .val (.int qu2), .val (.ref a129), .val (.ref a136), .val (.int (1 : Int32)), .val (.int (oD nn)), .val (.int (3 : Int32))] [])
    refine giload B X377 at_237 rfl (pc' := 239) rfl ?_
    refine giconst B X377 at_239 (v := (2 : Int32)) rfl (pc' := 240) rfl ?_
    have c240_383 : ¬ ((3 : Int32) < (2 : Int32)) := (by decide)
    refine gicN B X377 at_240 (flt c240_383).1 (pc' := 243) rfl ?_
    refine joinH X377 (cells' := 4) (slots' := 14) (F := (mkF m 257 #[.val (.int p0), .val (.int p1), .val (.int p2), .val (.int p3), .val (.int p4), .val (.int qx0), .val (.int qx1), .val (.int qx2), .val (.int qu0), .val (.int qu1), .val (.int qu2), .val (.ref a129), .val (.ref a136), .val (.int (1 : Int32)), .val (.int (oD (oD nn))), .val (.int (3 : Int32))] [])) (P := fun hh => Dq Z hh a136 (.ref r152) (.ref t153) (.int ((oPl (oD nn) s382)).2.2.1) (.int ((oPl (oD nn) s382)).2.2.2.1) (.int ((oPl (oD nn) s382)).2.2.2.2) ∧ VA Z hh r152 .int (((oPl (oD nn) s382)).1.map Value.int) ∧ VA Z hh t153 .boolean (((oPl (oD nn) s382)).2.1.map Value.int)) (fun J => ?_) ?_
    · refine giload B X377 at_243 rfl (pc' := 245) rfl ?_
      by_cases c245_384 : (0 : Int32) < (oD nn)
      · refine gifN B X377 at_245 ((if0 _ _).trans (tlt c245_384).2.2.2) (pc' := 248) rfl ?_
        refine gaload B X377 at_248 rfl rfl (pc' := 250) rfl ?_
        refine gcallV B X377 O379.1 (hw _ (List.mem_of_getElem? (i := 34) rfl)) (hw _ (List.mem_of_getElem? (i := 35) rfl)) (hw _ (List.mem_of_getElem? (i := 37) rfl)) (hw _ (List.mem_of_getElem? (i := 36) rfl)) (hw _ (List.mem_of_getElem? (i := 4) rfl)) (hw _ (List.mem_of_getElem? (i := 38) rfl)) rfl (by decide) (mt6 l Z a0 hw a136 r152 t153 (3 : Int32) s382 h376 O379 A380 A381 n161 n163 n156 ok_s382) pd___I rfl (argsL := []) (st := []) rfl rfl (W := 0) (Nat.le_of_eq rfl) (by decide) (by decide) (by decide) (by decide) (allS (Or.inr z_a136) (allS (Or.inr z_r152) (allS (Or.inr z_t153) all0))) at_250 (pc' := 253) rfl fun T385 h386 v387 X388 K389 Q390 => ?_
        obtain ⟨rfl, O391, A392, A393⟩ := Q390
        generalize e_s394 : oPoll (3 : Int32) s382 = s394 at O391 A392 A393
        have ok_s394 := ok_s382.poll; rw [e_s394] at ok_s394
        show Go p e below s _ _ _ _ _ T385 (mkF m 253 #[.val (.int p0), .val (.int p1), .val (.int p2), .val (.int p3), .val (.int p4), .val (.int qx0), .val (.int qx1), .val (.int qx2), .val (.int qu0), .val (.int qu1), .val (.int qu2), .val (.ref a129), .val (.ref a136), .val (.int (1 : Int32)), .val (.int (oD nn)), .val (.int (3 : Int32))] [(.int (oVal s382))])
        refine gpop B X388 at_253 rfl (pc' := 254) rfl ?_
        refine giinc B X388 at_254 rfl (v := ((oD nn) + (-1 : Int32))) rfl (Ls' := #[.val (.int p0), .val (.int p1), .val (.int p2), .val (.int p3), .val (.int p4), .val (.int qx0), .val (.int qx1), .val (.int qx2), .val (.int qu0), .val (.int qu1), .val (.int qu2), .val (.ref a129), .val (.ref a136), .val (.int (1 : Int32)), .val (.int ((oD nn) + (-1 : Int32))), .val (.int (3 : Int32))]) rfl (pc' := 257) rfl ?_
        rw [show oD (oD nn) = ((oD nn) + (-1 : Int32)) from by rw [oD, if_pos c245_384]] at J
        exact J _ _ (X388.more (by decide) (by decide)) (by rw [oPl, if_pos c245_384, e_s394]; exact ⟨O391, A392, A393⟩)
      · refine gifY B X377 (pc' := 257) at_245 ((if0 _ _).trans (flt c245_384).2.2.2) (by decide) ?_
        rw [show oD (oD nn) = (oD nn) from by rw [oD, if_neg c245_384]] at J
        exact J _ _ (X377.more (by decide) (by decide)) (by rw [oPl, if_neg c245_384]; exact ⟨O379, A380, A381⟩)
    intro T395 h396 X397 P398
    obtain ⟨O399, A400, A401⟩ := P398
    have ok_s402 := ok_s382.stepP (n := (oD nn))
    generalize e_s402 : (oPl (oD nn) s382) = s402 at O399 A400 A401 ok_s402
    show Go p e below s _ _ _ _ _ T395 (mkF m 257 #[.val (.int p0), .val (.int p1), .val (.int p2), .val (.int p3), .val (.int p4), .val (.int qx0), .val (.int qx1), .val (.int qx2), .val (.int qu0), .val (.int qu1), .val (.int qu2), .val (.ref a129), .val (.ref a136), .val (.int (1 : Int32)), .val (.int (oD (oD nn))), .val (.int (3 : Int32))] [])
    refine giload B X397 at_257 rfl (pc' := 259) rfl ?_
    refine giconst B X397 at_259 (v := (3 : Int32)) rfl (pc' := 260) rfl ?_
    have c260_403 : ¬ ((3 : Int32) < (3 : Int32)) := (by decide)
    refine gicN B X397 at_260 (flt c260_403).1 (pc' := 263) rfl ?_
    refine joinH X397 (cells' := 4) (slots' := 14) (F := (mkF m 277 #[.val (.int p0), .val (.int p1), .val (.int p2), .val (.int p3), .val (.int p4), .val (.int qx0), .val (.int qx1), .val (.int qx2), .val (.int qu0), .val (.int qu1), .val (.int qu2), .val (.ref a129), .val (.ref a136), .val (.int (1 : Int32)), .val (.int (oD (oD (oD nn)))), .val (.int (3 : Int32))] [])) (P := fun hh => Dq Z hh a136 (.ref r152) (.ref t153) (.int ((oPl (oD (oD nn)) s402)).2.2.1) (.int ((oPl (oD (oD nn)) s402)).2.2.2.1) (.int ((oPl (oD (oD nn)) s402)).2.2.2.2) ∧ VA Z hh r152 .int (((oPl (oD (oD nn)) s402)).1.map Value.int) ∧ VA Z hh t153 .boolean (((oPl (oD (oD nn)) s402)).2.1.map Value.int)) (fun J => ?_) ?_
    · refine giload B X397 at_263 rfl (pc' := 265) rfl ?_
      by_cases c265_404 : (0 : Int32) < (oD (oD nn))
      · refine gifN B X397 at_265 ((if0 _ _).trans (tlt c265_404).2.2.2) (pc' := 268) rfl ?_
        refine gaload B X397 at_268 rfl rfl (pc' := 270) rfl ?_
        refine gcallV B X397 O399.1 (hw _ (List.mem_of_getElem? (i := 34) rfl)) (hw _ (List.mem_of_getElem? (i := 35) rfl)) (hw _ (List.mem_of_getElem? (i := 37) rfl)) (hw _ (List.mem_of_getElem? (i := 36) rfl)) (hw _ (List.mem_of_getElem? (i := 4) rfl)) (hw _ (List.mem_of_getElem? (i := 38) rfl)) rfl (by decide) (mt6 l Z a0 hw a136 r152 t153 (3 : Int32) s402 h396 O399 A400 A401 n161 n163 n156 ok_s402) pd___I rfl (argsL := []) (st := []) rfl rfl (W := 0) (Nat.le_of_eq rfl) (by decide) (by decide) (by decide) (by decide) (allS (Or.inr z_a136) (allS (Or.inr z_r152) (allS (Or.inr z_t153) all0))) at_270 (pc' := 273) rfl fun T405 h406 v407 X408 K409 Q410 => ?_
        obtain ⟨rfl, O411, A412, A413⟩ := Q410
        generalize e_s414 : oPoll (3 : Int32) s402 = s414 at O411 A412 A413
        have ok_s414 := ok_s402.poll; rw [e_s414] at ok_s414
        show Go p e below s _ _ _ _ _ T405 (mkF m 273 #[.val (.int p0), .val (.int p1), .val (.int p2), .val (.int p3), .val (.int p4), .val (.int qx0), .val (.int qx1), .val (.int qx2), .val (.int qu0), .val (.int qu1), .val (.int qu2), .val (.ref a129), .val (.ref a136), .val (.int (1 : Int32)), .val (.int (oD (oD nn))), .val (.int (3 : Int32))] [(.int (oVal s402))])
        refine gpop B X408 at_273 rfl (pc' := 274) rfl ?_
        refine giinc B X408 at_274 rfl (v := ((oD (oD nn)) + (-1 : Int32))) rfl (Ls' := #[.val (.int p0), .val (.int p1), .val (.int p2), .val (.int p3), .val (.int p4), .val (.int qx0), .val (.int qx1), .val (.int qx2), .val (.int qu0), .val (.int qu1), .val (.int qu2), .val (.ref a129), .val (.ref a136), .val (.int (1 : Int32)), .val (.int ((oD (oD nn)) + (-1 : Int32))), .val (.int (3 : Int32))]) rfl (pc' := 277) rfl ?_
        rw [show oD (oD (oD nn)) = ((oD (oD nn)) + (-1 : Int32)) from by rw [oD, if_pos c265_404]] at J
        exact J _ _ (X408.more (by decide) (by decide)) (by rw [oPl, if_pos c265_404, e_s414]; exact ⟨O411, A412, A413⟩)
      · refine gifY B X397 (pc' := 277) at_265 ((if0 _ _).trans (flt c265_404).2.2.2) (by decide) ?_
        rw [show oD (oD (oD nn)) = (oD (oD nn)) from by rw [oD, if_neg c265_404]] at J
        exact J _ _ (X397.more (by decide) (by decide)) (by rw [oPl, if_neg c265_404]; exact ⟨O399, A400, A401⟩)
    intro T415 h416 X417 P418
    obtain ⟨O419, A420, A421⟩ := P418
    have ok_s422 := ok_s402.stepP (n := (oD (oD nn)))
    generalize e_s422 : (oPl (oD (oD nn)) s402) = s422 at O419 A420 A421 ok_s422
    show Go p e below s _ _ _ _ _ T415 (mkF m 277 #[.val (.int p0), .val (.int p1), .val (.int p2), .val (.int p3), .val (.int p4), .val (.int qx0), .val (.int qx1), .val (.int qx2), .val (.int qu0), .val (.int qu1), .val (.int qu2), .val (.ref a129), .val (.ref a136), .val (.int (1 : Int32)), .val (.int (oD (oD (oD nn)))), .val (.int (3 : Int32))] [])
    refine giload B X417 at_277 rfl (pc' := 279) rfl ?_
    have c279_423 : ¬ ((1 : Int32) = (0 : Int32)) := (by decide)
    refine gifN B X417 at_279 ((if0 _ _).trans (feq c279_423).1) (pc' := 282) rfl ?_
    refine gaload B X417 at_282 rfl rfl (pc' := 284) rfl ?_
    refine gcallV B X417 O419.1 (hw _ (List.mem_of_getElem? (i := 16) rfl)) (hw _ (List.mem_of_getElem? (i := 17) rfl)) (hw _ (List.mem_of_getElem? (i := 19) rfl)) (hw _ (List.mem_of_getElem? (i := 18) rfl)) (hw _ (List.mem_of_getElem? (i := 4) rfl)) (hw _ (List.mem_of_getElem? (i := 20) rfl)) rfl (by decide) (mtemp l Z a0 hw a136 (.ref r152) (.ref t153) (.int s422.2.2.1) (.int s422.2.2.2.1) s422.2.2.2.2 h416 O419) pd___Z rfl (argsL := []) (st := []) rfl rfl (W := 0) (Nat.le_of_eq rfl) (by decide) (by decide) (by decide) (by decide) (fun x q => nomatch q) at_284 (pc' := 287) rfl (pureG rfl rfl fun T424 X425 => ?_)
    refine giload B X425 at_287 rfl (pc' := 289) rfl ?_
    refine joinG B X425 (F := fun z => (mkF m 297 #[.val (.int p0), .val (.int p1), .val (.int p2), .val (.int p3), .val (.int p4), .val (.int qx0), .val (.int qx1), .val (.int qx2), .val (.int qu0), .val (.int qu1), .val (.int qu2), .val (.ref a129), .val (.ref a136), .val (.int (1 : Int32)), .val (.int (oD (oD (oD nn)))), .val (.int (3 : Int32))] [(.int z), (.int (oemp s422.2.2.2.2))])) (r := (oZ (oD (oD (oD nn))))) (fun J => ?_) ?_
    · by_cases c289_426 : (oD (oD (oD nn))) = (0 : Int32)
      · refine gifN B X425 at_289 ((if0 _ _).trans (teq c289_426).2) (pc' := 292) rfl ?_
        refine giconst B X425 at_292 (v := (1 : Int32)) rfl (pc' := 293) rfl ?_
        refine ggoto B X425 (pc' := 297) at_293 (by decide) ?_
        have e_J : (oZ (oD (oD (oD nn)))) = (1 : Int32) := by rw [oZ, if_pos c289_426]
        rw [e_J] at J
        exact J _ X425
      · refine gifY B X425 (pc' := 296) at_289 ((if0 _ _).trans (feq c289_426).2) (by decide) ?_
        refine giconst B X425 at_296 (v := (0 : Int32)) rfl (pc' := 297) rfl ?_
        have e_J : (oZ (oD (oD (oD nn)))) = (0 : Int32) := by rw [oZ, if_neg c289_426]
        rw [e_J] at J
        exact J _ X425
    intro T427 X428
    show Go p e below s _ _ _ _ _ T427 (mkF m 297 #[.val (.int p0), .val (.int p1), .val (.int p2), .val (.int p3), .val (.int p4), .val (.int qx0), .val (.int qx1), .val (.int qx2), .val (.int qu0), .val (.int qu1), .val (.int qu2), .val (.ref a129), .val (.ref a136), .val (.int (1 : Int32)), .val (.int (oD (oD (oD nn)))), .val (.int (3 : Int32))] [(.int (oZ (oD (oD (oD nn))))), (.int (oemp s422.2.2.2.2))])
    have c297_429 : (oemp s422.2.2.2.2) = (oZ (oD (oD (oD nn)))) := by have z := hA.2.2.2; rw [e_s382, e_s402, e_s422] at z; exact z
    refine gicN B X428 at_297 (teq c297_429).2 (pc' := 300) rfl ?_
    refine giconst B X428 at_300 (v := (1 : Int32)) rfl (pc' := 301) rfl ?_
    refine ggoto B X428 (pc' := 305) at_301 (by decide) ?_
    refine gistore B X428 at_305 (Ls' := #[.val (.int p0), .val (.int p1), .val (.int p2), .val (.int p3), .val (.int p4), .val (.int qx0), .val (.int qx1), .val (.int qx2), .val (.int qu0), .val (.int qu1), .val (.int qu2), .val (.ref a129), .val (.ref a136), .val (.int (1 : Int32)), .val (.int (oD (oD (oD nn)))), .val (.int (3 : Int32))]) rfl (pc' := 307) rfl ?_
    refine giload B X428 at_307 rfl (pc' := 309) rfl ?_
    exact gretN B X428 (z' := (1 : Int32)) (by simp) (rfl) at_309 (by decide) (by decide) (rfl)
set_option maxRecDepth 65536 in
set_option maxHeartbeats 4000000 in
theorem comes_1 {Post : Tables → Env → Array Value → State → Outcome → State → Prop} (hpost : ∀ tb e args s v u, (limb_1_1.after args s (.returned v) u = true ∧ limb_1_2.after args s (.returned v) u = true ∧ True) → FrameEnd s (.returned v) u (Jvm.fieldLocs frame_1_writes args s ++ Jvm.arrayLocs frame_1_arrays args s ++ Jvm.staticLocs frame_1_statics s) 16 128 → Post tb e args s (.returned v) u) :
    ArmFor flags0 classFile x code maxLocals ret World_1 tables_1 room_1 Calls_1 rest_1 Pre_1 Post := by
  intro l hfl _ _ p e ha hc hk s m args below hf hA hF happ hP
  obtain ⟨hcalls, hrest, hpre⟩ := hP
  obtain ⟨-, -, -, hnamed, -, -, -, hat⟩ := (Spec.applies_iff hf).mp happ
  obtain ⟨hg, hn⟩ := and_e (Cond.before_iff.mp (show (Jvm.Cond.and given_1 narrow_1).before args s = true from hpre))
  obtain ⟨g2, g3⟩ := and_e hg
  obtain ⟨g4, g5⟩ := and_e g3
  obtain ⟨g6, g7⟩ := and_e g5
  obtain ⟨g8, g9⟩ := and_e g7
  obtain ⟨g10, g11⟩ := and_e g9
  obtain ⟨w0, w1, w2, w3, w4, rfl⟩ : ∃ w0 w1 w2 w3 w4 : Value, args = #[w0, w1, w2, w3, w4] := by
    have hs : args.size = 5 := by simpa [Cond.value, given_1] using g2
    obtain ⟨L⟩ := args
    match L, hs with
    | [w0, w1, w2, w3, w4], _ => exact ⟨w0, w1, w2, w3, w4, rfl⟩
  have hw := fun d (hd : d ∈ tables_1) => atoms_spec (ws := Jvm.Cond.code x code maxLocals ret :: tables_1) hat d (List.mem_cons_of_mem _ hd)
  obtain ⟨i0, ei0⟩ := is_v g4
  obtain rfl : w0 = (.int i0) := Option.some.inj ei0
  obtain ⟨i1, ei1⟩ := is_v g6
  obtain rfl : w1 = (.int i1) := Option.some.inj ei1
  obtain ⟨i2, ei2⟩ := is_v g8
  obtain rfl : w2 = (.int i2) := Option.some.inj ei2
  obtain ⟨i3, ei3⟩ := is_v g10
  obtain rfl : w3 = (.int i3) := Option.some.inj ei3
  obtain ⟨i4, ei4⟩ := is_v g11
  obtain rfl : w4 = (.int i4) := Option.some.inj ei4
  obtain ⟨n, o, h1, h2, h3, _, L, rfl, ⟨rfl, N, N2⟩, hq⟩ := mt0 l s _ hw i0 i1 i2 i3 i4 s.heap tables_1 p e ha hc hk s m _ below hf ((Spec.applies_iff_loose hf).mp happ).1 ⟨rfl, State.Warmed39.refl s, rfl⟩ trivial
  refine ⟨n, _, h1, h2, h3, hpost _ _ _ _ _ _ ⟨Cond.after_iff.mpr rfl, Cond.after_iff.mpr (eq_i res_at (Term.int_eval (1)) rfl), trivial⟩ ⟨hq.1, hq.2.1, (hq.2.2.sift fun y hy => Or.inr ((N2 y hy).elim (fun z => nomatch z) id)).mono (by decide) (by decide)⟩⟩
theorem main_1_1 : Claimed_1_1 := comes_1 fun _ _ _ _ _ _ h hF => ⟨h.1, hF⟩
theorem main_1_2 : Claimed_1_2 := comes_1 fun _ _ _ _ _ _ h hF => ⟨h.2.1, hF⟩
end Jvm.Pilot.@@N@@
namespace Jvm.Pilot.@@N@@
open Jvm Jvm.ClassFile Sem Op Lib Jvm.Free Jvm.Stand Jvm.Pilot.@@N@@.Jvm.D
/-! MADE BY PROGRAM (witnessworld.py) out of the Statement's table words and the real class files: 11 classes; the members and pool entries that the words name. The judged class is class 1, her method 1. -/
namespace start1
open Jvm.ClassFile
def u (s : String) : CpInfo := .utf8 (stringToUtf16 s)
/-- a pool by its gaps: so many unusable entries, then the entry; so many at the end -/
def gap : Nat → List CpInfo → List CpInfo
  | 0, r => r
  | n + 1, r => .unusable :: gap n r
def poolList (es : List (Nat × CpInfo)) (last : Nat) : List CpInfo := es.foldr (fun e r => gap e.1 (e.2 :: r)) (gap last [])
def pool (es : List (Nat × CpInfo)) (last : Nat) : Array CpInfo := ⟨poolList es last⟩
def fileOf (pool : Array CpInfo) (this : Nat) (attrs : Array Attribute := #[]) (ms : Array MethodInfo := #[]) (fl : Nat := 33) (sup : Nat := 0) (ifs : Array Nat := #[]) (fds : Array FieldInfo := #[]) : ClassFile where
  minorVersion := 0
  majorVersion := 65
  constantPool := pool
  accessFlags := fl
  thisClass := this
  superClass := sup
  interfaces := ifs
  fields := fds
  methods := ms
  attributes := attrs
def plain (name : String) (sup : Option ClassId) : Class where
  name := name
  kind := .ordinary
  loader := none
  accessFlags := 33
  super := sup
  interfaces := #[]
  cf := none
  fields := #[]
  methods := #[]
  instanceTypes := #[]
  staticTypes := #[]
  resolved := #[]
  callSites := []
  init := .initialized
  statics := none
  mirror := none

def pool0 : Array CpInfo := pool [(5, u "<init>"), (0, u "()V"), (1, .class_ 10), (1, u "java/lang/Object")] 113

def k0c0 : Code := { maxStack := 0, maxLocals := 1, code := object_method_1_code, exceptionTable := #[], attributes := #[] }
def k0m0 : Method := { name := "<init>", desc := "()V", sig := { parameters := [], returnType := none }, accessFlags := 1, code := some k0c0 }
/-- java/lang/Object -/
def k0 : Class := { plain "java/lang/Object" none with
  accessFlags := 33
  interfaces := #[]
  cf := some (fileOf pool0 8 #[] #[{ accessFlags := 1, nameIndex := 5, descriptorIndex := 6, attributes := #[] }] 33 0 #[] #[])
  fields := #[]
  methods := #[k0m0]
  instanceTypes := #[]
  staticTypes := #[]
  resolved := Array.replicate 124 none
  statics := none }

def pool1 : Array CpInfo := pool [(2, .class_ 4), (1, u "java/lang/Object"), (0, u "<init>"), (0, u "()V"), (0, .integer 2147483647), (0, .class_ 9), (0, u "com/example/glouton/glouton/consistency/DistinctQueue"), (0, .methodref 8 11), (0, .nameAndType 5 12), (0, u "(I)V"), (0, .methodref 8 14), (0, .nameAndType 15 16), (0, u "isEmpty"), (0, u "()Z"), (0, .methodref 8 18), (0, .nameAndType 19 12), (0, u "add"), (0, .methodref 8 21), (0, .nameAndType 22 23), (0, u "poll"), (0, u "()I"), (0, .class_ 25), (0, u "com/example/glouton/glouton/consistency/DistinctQueueIsEmptyPinLaw"), (2, u "law"), (0, u "(IIIII)Z")] 5

def k1m0 : Method := { name := "<init>", desc := "()V", sig := { parameters := [], returnType := none }, accessFlags := 1, code := none }
def k1c1 : Code := { maxStack := 3, maxLocals := 16, code := code, exceptionTable := #[], attributes := #[] }
def k1m1 : Method := { name := "law", desc := "(IIIII)Z", sig := { parameters := [.int, .int, .int, .int, .int], returnType := some .boolean }, accessFlags := 9, code := some k1c1 }
/-- com/example/glouton/glouton/consistency/DistinctQueueIsEmptyPinLaw -/
def k1 : Class := { plain "com/example/glouton/glouton/consistency/DistinctQueueIsEmptyPinLaw" (some 0) with
  accessFlags := 49
  interfaces := #[]
  cf := some (fileOf pool1 24 #[] #[{ accessFlags := 1, nameIndex := 5, descriptorIndex := 6, attributes := #[] }, { accessFlags := 9, nameIndex := 28, descriptorIndex := 29, attributes := #[] }] 49 2 #[] #[])
  fields := #[]
  methods := #[k1m0, k1m1]
  instanceTypes := #[]
  staticTypes := #[]
  resolved := Array.replicate 35 none
  statics := none }

def pool2 : Array CpInfo := pool [(1, .methodref 2 3), (0, .class_ 4), (0, .nameAndType 5 6), (0, u "java/lang/Object"), (0, u "<init>"), (0, u "()V"), (0, .fieldref 8 9), (0, .class_ 10), (0, .nameAndType 11 12), (0, u "com/example/glouton/glouton/consistency/DistinctQueue"), (0, u "ring"), (0, u "[I"), (0, .fieldref 8 14), (0, .nameAndType 15 16), (0, u "held"), (0, u "[Z"), (0, .fieldref 8 18), (0, .nameAndType 19 20), (0, u "tail"), (0, u "I"), (0, .methodref 8 22), (0, .nameAndType 23 24), (0, u "following"), (0, u "(I)I"), (0, .fieldref 8 26), (0, .nameAndType 27 20), (0, u "size"), (0, .fieldref 8 29), (0, .nameAndType 30 20), (0, u "head"), (2, u "poll"), (0, u "()I"), (0, u "(I)V"), (2, u "add"), (1, u "isEmpty"), (0, u "()Z")] 3

def k2c0 : Code := { maxStack := 2, maxLocals := 2, code := prog_6_method_1_code, exceptionTable := #[], attributes := #[] }
def k2m0 : Method := { name := "<init>", desc := "(I)V", sig := { parameters := [.int], returnType := none }, accessFlags := 0, code := some k2c0 }
def k2c1 : Code := { maxStack := 3, maxLocals := 2, code := prog_6_method_2_code, exceptionTable := #[], attributes := #[] }
def k2m1 : Method := { name := "add", desc := "(I)V", sig := { parameters := [.int], returnType := none }, accessFlags := 0, code := some k2c1 }
def k2c2 : Code := { maxStack := 3, maxLocals := 2, code := prog_6_method_3_code, exceptionTable := #[], attributes := #[] }
def k2m2 : Method := { name := "poll", desc := "()I", sig := { parameters := [], returnType := some .int }, accessFlags := 0, code := some k2c2 }
def k2c3 : Code := { maxStack := 1, maxLocals := 1, code := prog_6_method_4_code, exceptionTable := #[], attributes := #[] }
def k2m3 : Method := { name := "isEmpty", desc := "()Z", sig := { parameters := [], returnType := some .boolean }, accessFlags := 0, code := some k2c3 }
def k2c4 : Code := { maxStack := 2, maxLocals := 2, code := prog_6_method_6_code, exceptionTable := #[], attributes := #[] }
def k2m4 : Method := { name := "following", desc := "(I)I", sig := { parameters := [.int], returnType := some .int }, accessFlags := 2, code := some k2c4 }
/-- com/example/glouton/glouton/consistency/DistinctQueue -/
def k2 : Class := { plain "com/example/glouton/glouton/consistency/DistinctQueue" (some 0) with
  accessFlags := 48
  interfaces := #[]
  cf := some (fileOf pool2 8 #[] #[{ accessFlags := 0, nameIndex := 5, descriptorIndex := 35, attributes := #[] }, { accessFlags := 0, nameIndex := 38, descriptorIndex := 35, attributes := #[] }, { accessFlags := 0, nameIndex := 33, descriptorIndex := 34, attributes := #[] }, { accessFlags := 0, nameIndex := 40, descriptorIndex := 41, attributes := #[] }, { accessFlags := 2, nameIndex := 23, descriptorIndex := 24, attributes := #[] }] 48 2 #[] #[{ accessFlags := 18, nameIndex := 11, descriptorIndex := 12, attributes := #[] }, { accessFlags := 18, nameIndex := 15, descriptorIndex := 16, attributes := #[] }, { accessFlags := 2, nameIndex := 30, descriptorIndex := 20, attributes := #[] }, { accessFlags := 2, nameIndex := 19, descriptorIndex := 20, attributes := #[] }, { accessFlags := 2, nameIndex := 27, descriptorIndex := 20, attributes := #[] }])
  fields := #[{ name := "ring", type := (.array .int), accessFlags := 18, slot := 0, constantValue := 0 }, { name := "held", type := (.array .boolean), accessFlags := 18, slot := 1, constantValue := 0 }, { name := "head", type := .int, accessFlags := 2, slot := 2, constantValue := 0 }, { name := "tail", type := .int, accessFlags := 2, slot := 3, constantValue := 0 }, { name := "size", type := .int, accessFlags := 2, slot := 4, constantValue := 0 }]
  methods := #[k2m0, k2m1, k2m2, k2m3, k2m4]
  instanceTypes := #[(.array .int), (.array .boolean), .int, .int, .int]
  staticTypes := #[]
  resolved := Array.replicate 45 none
  statics := none }

def pool3 : Array CpInfo := pool [(1, u "java/lang/Cloneable"), (0, .class_ 1), (0, u "java/lang/Object"), (0, .class_ 3)] 3

/-- java/lang/Cloneable -/
def k3 : Class := { plain "java/lang/Cloneable" (some 0) with
  accessFlags := 1537
  interfaces := #[]
  cf := some (fileOf pool3 2 #[] #[] 1537 4 #[] #[])
  fields := #[]
  methods := #[]
  instanceTypes := #[]
  staticTypes := #[]
  resolved := Array.replicate 8 none
  statics := none }

def pool4 : Array CpInfo := pool [(1, u "java/io/Serializable"), (0, .class_ 1), (0, u "java/lang/Object"), (0, .class_ 3)] 3

/-- java/io/Serializable -/
def k4 : Class := { plain "java/io/Serializable" (some 0) with
  accessFlags := 1537
  interfaces := #[]
  cf := some (fileOf pool4 2 #[] #[] 1537 4 #[] #[])
  fields := #[]
  methods := #[]
  instanceTypes := #[]
  staticTypes := #[]
  resolved := Array.replicate 8 none
  statics := none }

/-- the primitive boolean -/
def k5 : Class := { plain "boolean" none with kind := .primitive 'Z', accessFlags := 0x411 }
/-- [Z -/
def k6 : Class := { plain "[Z" (some 0) with kind := .array 5 .boolean, interfaces := #[3, 4], accessFlags := 1041 }

/-- the primitive byte -/
def k7 : Class := { plain "byte" none with kind := .primitive 'B', accessFlags := 0x411 }
/-- [B -/
def k8 : Class := { plain "[B" (some 0) with kind := .array 7 .byte, interfaces := #[3, 4], accessFlags := 1041 }

/-- the primitive int -/
def k9 : Class := { plain "int" none with kind := .primitive 'I', accessFlags := 0x411 }
/-- [I -/
def k10 : Class := { plain "[I" (some 0) with kind := .array 9 .int, interfaces := #[3, 4], accessFlags := 1041 }

def heap : Heap := #[]
def classes : Array Class := #[k0, k1, k2, k3, k4, k5, k6, k7, k8, k9, k10]
def interned : List (Array UInt16 × Addr) := []
def slotsUsed : Nat := 0
def theMethod : MethodId := ⟨1, 1⟩
def args0 : Array Value := #[.int 5, .int 6, .int 7, .int 8, .int 3]
def aboutOver (below : List Frame) : State where
  vm := { classes := classes, interned := interned.toArray }
  heap := heap
  slotsUsed := slotsUsed
  threads := #[{ frames := .invoking theMethod args0 :: below }]
def below0 : List Frame := [.native { method := ⟨0, 0⟩, args := #[] }]
def about1 : State := aboutOver below0
def p0 : Program := .bare "" "" ""
def e0 : Env := launch0.env 0 0 0
theorem w_frames : about1.frames = Frame.invoking theMethod args0 :: below0 := rfl
set_option maxRecDepth 65536 in
theorem w_args : argsFit about1.vm theMethod args0 = true := by decide +kernel
set_option maxRecDepth 65536 in
theorem w_heap : heapFits about1 = true := by decide +kernel
set_option maxRecDepth 65536 in
theorem w_runnable : about1.curStatus? = some .runnable := by decide +kernel
set_option maxRecDepth 65536 in
theorem w_alone : about1.alone = true := by decide +kernel
set_option maxRecDepth 65536 in
theorem w_named : about1.methodNamed? x = some theMethod := by decide +kernel
set_option maxRecDepth 65536 in
theorem w_hears : about1.hears theMethod below0 = true := by decide +kernel
set_option maxRecDepth 65536 in
theorem w_ripe : about1.ripe theMethod args0 below0 = true := by decide +kernel
theorem w_running : about1.status = .running := rfl
set_option maxRecDepth 65536 in
theorem w_room : about1.hasRoom e0.platform room_1 = true :=
  launch0.hasRoom_least _ room_1 (by decide +kernel) (by decide +kernel) (by decide +kernel) (by decide +kernel) (by decide +kernel) (by decide +kernel)
theorem allAtoms_all (ts : List Jvm.Cond) (a : Array Jvm.Value) (st : Jvm.State) : (allAtoms ts).before a st = ts.all (fun c => c.before a st) := by
  induction ts with
  | nil => rfl
  | cons c t ih =>
    show (Jvm.Cond.and c (allAtoms t)).before a st = _
    rw [Jvm.Cond.before_and, ih, List.all_cons]
def words1 : List Jvm.Cond := Jvm.Cond.code x code maxLocals ret :: tables_1
/-- a 'code' word, met by the world's own term for the bytes: nothing is compared byte by byte -/
theorem code_word {y : MethodName} {bytes : ByteArray} {mx : Nat} {rt : Option FieldType} {a : Array Value} {s : State} {m : MethodId} {meth : Method} {c : Code} (h1 : s.methodNamed? y = some m) (h2 : s.vm.method? m = some meth) (h3 : meth.code = some c) (h4 : c.code = bytes)
    (h5 : (c.maxLocals == mx && c.exceptionTable.isEmpty && decide (c.maxStack ≤ mostOperands) && decide (meth.sig.returnType = rt) && !meth.locks && decide (parseMethodDescriptor y.desc = some meth.sig)) = true) : (Jvm.Cond.code y bytes mx rt).before a s = true := by
  simp only [Bool.and_eq_true, beq_iff_eq, Bool.not_eq_true', decide_eq_true_eq] at h5
  obtain ⟨⟨⟨⟨⟨g1, g2⟩, g3⟩, g4⟩, g5⟩, g6⟩ := h5
  simp [Cond.before, Cond.holds, Cond.value, h1, h2, h3, h4, g1, g2, g3, g4, g5, g6]
def isCode : Jvm.Cond → Bool
  | .code _ _ _ _ => true
  | _ => false
theorem all_split {L : List Jvm.Cond} {P : Jvm.Cond → Bool} (h1 : L.all (fun c => isCode c || P c) = true) (h2 : ∀ c ∈ L.filter isCode, P c = true) : L.all P = true := by
  refine List.all_eq_true.mpr fun c hc => ?_
  have h := List.all_eq_true.mp h1 c hc
  rcases Bool.eq_false_or_eq_true (isCode c) with hi | hi
  · exact h2 c (List.mem_filter.mpr ⟨hc, hi⟩)
  · simpa [hi] using h
set_option maxRecDepth 65536 in
theorem w_c0 : (Jvm.Cond.code x code maxLocals ret).before args0 about1 = true := code_word (m := ⟨1, 1⟩) (meth := k1m1) (c := k1c1) (by decide +kernel) rfl rfl rfl (by decide +kernel)
set_option maxRecDepth 65536 in
theorem w_c1 : (Jvm.Cond.code ({ cls := "com/example/glouton/glouton/consistency/DistinctQueue", name := "<init>", desc := "(I)V" } : Jvm.MethodName) prog_6_method_1_code (2 : Nat) (Option.none : Option Jvm.ClassFile.FieldType)).before args0 about1 = true := code_word (m := ⟨2, 0⟩) (meth := k2m0) (c := k2c0) (by decide +kernel) rfl rfl rfl (by decide +kernel)
set_option maxRecDepth 65536 in
theorem w_c2 : (Jvm.Cond.code ({ cls := "java/lang/Object", name := "<init>", desc := "()V" } : Jvm.MethodName) object_method_1_code (1 : Nat) (Option.none : Option Jvm.ClassFile.FieldType)).before args0 about1 = true := code_word (m := ⟨0, 0⟩) (meth := k0m0) (c := k0c0) (by decide +kernel) rfl rfl rfl (by decide +kernel)
set_option maxRecDepth 65536 in
theorem w_c3 : (Jvm.Cond.code ({ cls := "com/example/glouton/glouton/consistency/DistinctQueue", name := "isEmpty", desc := "()Z" } : Jvm.MethodName) prog_6_method_4_code (1 : Nat) (Option.some Jvm.ClassFile.FieldType.boolean)).before args0 about1 = true := code_word (m := ⟨2, 3⟩) (meth := k2m3) (c := k2c3) (by decide +kernel) rfl rfl rfl (by decide +kernel)
set_option maxRecDepth 65536 in
theorem w_c4 : (Jvm.Cond.code ({ cls := "com/example/glouton/glouton/consistency/DistinctQueue", name := "add", desc := "(I)V" } : Jvm.MethodName) prog_6_method_2_code (2 : Nat) (Option.none : Option Jvm.ClassFile.FieldType)).before args0 about1 = true := code_word (m := ⟨2, 1⟩) (meth := k2m1) (c := k2c1) (by decide +kernel) rfl rfl rfl (by decide +kernel)
set_option maxRecDepth 65536 in
theorem w_c5 : (Jvm.Cond.code ({ cls := "com/example/glouton/glouton/consistency/DistinctQueue", name := "following", desc := "(I)I" } : Jvm.MethodName) prog_6_method_6_code (2 : Nat) (Option.some Jvm.ClassFile.FieldType.int)).before args0 about1 = true := code_word (m := ⟨2, 4⟩) (meth := k2m4) (c := k2c4) (by decide +kernel) rfl rfl rfl (by decide +kernel)
set_option maxRecDepth 65536 in
theorem w_c6 : (Jvm.Cond.code ({ cls := "com/example/glouton/glouton/consistency/DistinctQueue", name := "poll", desc := "()I" } : Jvm.MethodName) prog_6_method_3_code (2 : Nat) (Option.some Jvm.ClassFile.FieldType.int)).before args0 about1 = true := code_word (m := ⟨2, 2⟩) (meth := k2m2) (c := k2c2) (by decide +kernel) rfl rfl rfl (by decide +kernel)
def codes1 : List Jvm.Cond := [Jvm.Cond.code x code maxLocals ret, Jvm.Cond.code ({ cls := "com/example/glouton/glouton/consistency/DistinctQueue", name := "<init>", desc := "(I)V" } : Jvm.MethodName) prog_6_method_1_code (2 : Nat) (Option.none : Option Jvm.ClassFile.FieldType), Jvm.Cond.code ({ cls := "java/lang/Object", name := "<init>", desc := "()V" } : Jvm.MethodName) object_method_1_code (1 : Nat) (Option.none : Option Jvm.ClassFile.FieldType), Jvm.Cond.code ({ cls := "com/example/glouton/glouton/consistency/DistinctQueue", name := "isEmpty", desc := "()Z" } : Jvm.MethodName) prog_6_method_4_code (1 : Nat) (Option.some Jvm.ClassFile.FieldType.boolean), Jvm.Cond.code ({ cls := "com/example/glouton/glouton/consistency/DistinctQueue", name := "add", desc := "(I)V" } : Jvm.MethodName) prog_6_method_2_code (2 : Nat) (Option.none : Option Jvm.ClassFile.FieldType), Jvm.Cond.code ({ cls := "com/example/glouton/glouton/consistency/DistinctQueue", name := "following", desc := "(I)I" } : Jvm.MethodName) prog_6_method_6_code (2 : Nat) (Option.some Jvm.ClassFile.FieldType.int), Jvm.Cond.code ({ cls := "com/example/glouton/glouton/consistency/DistinctQueue", name := "poll", desc := "()I" } : Jvm.MethodName) prog_6_method_3_code (2 : Nat) (Option.some Jvm.ClassFile.FieldType.int)]
set_option maxRecDepth 65536 in
theorem codes_eq : words1.filter isCode = codes1 := rfl
theorem w_codes : ∀ c ∈ words1.filter isCode, c.before args0 about1 = true := by
  rw [codes_eq]
  intro c hc
  simp only [codes1, List.mem_cons, List.not_mem_nil, or_false] at hc
  rcases hc with rfl | rfl | rfl | rfl | rfl | rfl | rfl
  · exact w_c0
  · exact w_c1
  · exact w_c2
  · exact w_c3
  · exact w_c4
  · exact w_c5
  · exact w_c6
set_option maxRecDepth 65536 in
theorem w_t1 : (words1.take 24).all (fun c => isCode c || c.before args0 about1) = true := by decide +kernel
set_option maxRecDepth 65536 in
theorem w_t2 : (words1.drop 24).all (fun c => isCode c || c.before args0 about1) = true := by decide +kernel
theorem w_tables : (allAtoms (Jvm.Cond.code x code maxLocals ret :: tables_1)).before args0 about1 = true := by
  rw [allAtoms_all]
  show words1.all (fun c => c.before args0 about1) = true
  refine all_split ?_ w_codes
  rw [← List.take_append_drop 24 words1, List.all_append, w_t1, w_t2]
  rfl
set_option maxRecDepth 65536 in
theorem w_case : (Jvm.Cond.and given_1 narrow_1).before args0 about1 = true := by decide +kernel
theorem w_applies : (headSpec (Jvm.Cond.code x code maxLocals ret :: tables_1) room_1).applies x e0.platform about1 = true :=
  (Spec.applies_iff w_frames).mpr ⟨w_running, w_runnable, w_alone, w_named, w_hears, w_ripe, w_room, w_tables⟩
theorem atStart : AtStart classFile x code maxLocals ret World_1 tables_1 room_1 Calls_1 rest_1 Pre_1 launch0 p0 e0 about1 theMethod args0 below0 :=
  ⟨lists_1, trivial, launch0.admits_env _ _ _, launch0.least_env, fairChoices_fair.cas, fairChoices_fair.clock, w_frames, w_args, w_heap, w_applies, trivial, trivial, w_case⟩
end start1
theorem witness_1 : WitnessClaimed_1 := ⟨start1.p0, start1.e0, start1.about1, start1.theMethod, start1.args0, start1.below0, start1.atStart⟩
end Jvm.Pilot.@@N@@
