import JvmDerived
import JvmDerived.Pilot.@@N@@Statement
import JvmDerived.Pilot.@@N@@Code
set_option linter.unusedVariables false
set_option linter.unusedSimpArgs false
namespace Jvm.OwnKit
open Sem ClassFile Op Lib Jvm.Stand Jvm.Free Jvm.LawKit Jvm.RoadKit
/-- every written place is one of ws or new -/
def FrW (h0 : Heap) (ws : List Addr) (L : List Loc) : Prop := ∀ y ∈ L, y.base ∈ ws ∨ h0.size ≤ y.base
/-- what stays fixed while a body runs -/
def Fix (p : Program) (Z s : State) (m : MethodId) (meth : Method) (c : Code) (bytes : ByteArray) (maxL : Nat) (own nm : String) (ret : Option FieldType) : Prop :=
  p.tables.exec = Jvm.exec ∧ Z.Warmed39 s.vm ∧ c.code = bytes ∧ c.maxLocals = maxL ∧ s.vm.findClass own = some m.cls ∧ meth.name = nm ∧ meth.sig.returnType = ret ∧ meth.locks = false
/-- where the run stands: its heap h, what was kept since h0 -/
def St (p : Program) (l : Launch) (e : Env) (R : Room) (s : State) (m : MethodId) (args : Array Value) (below : List Frame) (meth : Method) (c : Code) (h0 : Heap) (ws : List Addr) (T : State) (h : Heap) (cells slots : Nat) : Prop :=
  ∃ locs, Stand p l e R s m args below meth c T locs cells slots ∧ T.heap = h ∧ Keep h0 h ws ∧ FrW h0 ws locs
/-- from T with the top frame f the body comes to its end, and Q holds there -/
def Go (p : Program) (e : Env) (below : List Frame) (s : State) (K N : Nat) (h0 : Heap) (ws : List Addr) (Q : Option Value → Heap → Prop) (T : State) (f : JFrame) : Prop :=
  ∃ t o, Steps p.tables e below (T.setTop f) t ∧ t.status = .running ∧ Ended t below o ∧ ∃ v L, o = .returned v ∧ (Q v t.heap ∧ Keep h0 t.heap ws ∧ FrW h0 ws L) ∧ FrameEnd s o t L K N
/-- a method's contract: called with as' at the heap h0 it returns, writes ws and new cells alone, and Q holds -/
def Meth (l : Launch) (Z : State) (y : MethodName) (bytes : ByteArray) (maxL : Nat) (ret : Option FieldType) (rm : Room) (as' : Array Value) (h0 : Heap) (ws : List Addr) (Q : Option Value → Heap → Prop) : Prop :=
  ∀ wl, MetFree l y (head1 (Cond.code y bytes maxL ret :: wl) rm) (fun a U => a = as' ∧ Z.Warmed39 U.vm ∧ U.heap = h0) (fun _ _ _ _ _ => True) (fun _ U o U' => ∃ v L, o = .returned v ∧ (Q v U'.heap ∧ Keep h0 U'.heap ws ∧ FrW h0 ws L) ∧ FrameEnd U o U' L rm.cells rm.slots)
/-- an array of the kind ty that holds vs -/
def VA (Z : State) (h : Heap) (a : Addr) (ty : FieldType) (vs : List Value) : Prop := ∃ c : Cell, Arr Z h a c ty ∧ c.slots = vs.toArray ∧ vs.length < 2 ^ 31
section Arrays
variable {Z : State} {h h' : Heap} {a b : Addr} {ty : FieldType} {vs : List Value} {sl : Nat} {v : Value} {ws : List Addr}
theorem VA.lt (F : VA Z h a ty vs) : a < h.size := by obtain ⟨c, A, -⟩ := F; exact A.lt
theorem VA.ext (F : VA Z h a ty vs) (E : Ext h h') : VA Z h' a ty vs := by obtain ⟨c, A, r⟩ := F; exact ⟨c, A.ext E, r⟩
theorem VA.other (F : VA Z h b ty vs) (W : Wr h h' a sl v) (q : b ≠ a) : VA Z h' b ty vs := by obtain ⟨c, A, r⟩ := F; exact ⟨c, A.other W q, r⟩
theorem VA.keep (F : VA Z h a ty vs) (K : Keep h h' ws) (q : a ∉ ws) : VA Z h' a ty vs := by obtain ⟨c, A, r⟩ := F; exact ⟨c, ⟨K.2.1 a c A.1 q, A.2⟩, r⟩
theorem VA.set (F : VA Z h a ty vs) (W : Wr h h' a sl v) : VA Z h' a ty (vs.set sl v) := by
  obtain ⟨c, A, r, n⟩ := F
  refine ⟨_, A.same W, ?_, by simpa using n⟩
  show c.slots.setIfInBounds sl v = _
  rw [r]; simp
theorem VA.new {k : ClassId} {n : Int32} (A : Arr Z h a (newA k ty n) ty) (q : ¬ n < 0) : VA Z h a ty (List.replicate n.toNatClampNeg (defaultValue ty)) :=
  ⟨_, A, by simp [newA], by rw [List.length_replicate]; exact (back32 q).2⟩
theorem VA.len31 (F : VA Z h a ty vs) : vs.length < 2 ^ 31 := by obtain ⟨c, A, r, n⟩ := F; exact n
theorem inb {n : Nat} {j : Int32} (hj : 0 ≤ j.toInt ∧ j.toInt < n) : ¬ (j < 0 ∨ n ≤ j.toNatClampNeg) := by
  simp only [Int32.lt_iff_toInt_lt, Int32.toNatClampNeg, Int32.reduceToInt]; omega
theorem own_at {xs : List Int32} {j : Nat} (hj : j < xs.length) : (xs.map Value.int)[j]? = some (.int (xs.getD j 0)) := by
  simp [List.getElem?_eq_getElem hj]
theorem own_atL {xs : List Int64} {j : Nat} (hj : j < xs.length) : (xs.map Value.long)[j]? = some (.long (xs.getD j 0)) := by
  simp [List.getElem?_eq_getElem hj]
theorem own_set (xs : List Int32) (i : Nat) (v : Int32) : (xs.map Value.int).set i (.int v) = (xs.set i v).map Value.int := by simp [List.map_set]
theorem own_setL (xs : List Int64) (i : Nat) (v : Int64) : (xs.map Value.long).set i (.long v) = (xs.set i v).map Value.long := by simp [List.map_set]
theorem own_nat {j : Int32} {n : Nat} (h : 0 ≤ j.toInt ∧ j.toInt < n) : j.toNatClampNeg < n := by simp only [Int32.toNatClampNeg]; omega
end Arrays
section Go
variable {p : Program} {l : Launch} {e : Env} {R : Room} {s : State} {m : MethodId} {args : Array Value} {below : List Frame} {meth : Method} {c : Code} {Z : State} {bytes : ByteArray} {maxL : Nat} {own nm : String} {ret : Option FieldType} {h0 : Heap} {ws : List Addr} {T T' : State} {locs : List Loc} {h : Heap} {cells slots K N : Nat} {Q : Option Value → Heap → Prop} {pc pc' : Nat} {Ls Ls' : Array Slot} {st : List Value} {a0 : Array Value}
theorem Go.to {f f' : JFrame} (k : ∀ t, Steps p.tables e below (T'.setTop f') t → Steps p.tables e below (T.setTop f) t) (g : Go p e below s K N h0 ws Q T' f') : Go p e below s K N h0 ws Q T f := by
  obtain ⟨t, o, a, r⟩ := g; exact ⟨t, o, k t a, r⟩
theorem Go.mono {Q' : Option Value → Heap → Prop} {f : JFrame} (g : Go p e below s K N h0 ws Q T f) (hq : ∀ v h, Q v h → Q' v h) : Go p e below s K N h0 ws Q' T f := by
  obtain ⟨t, o, a, b, d, v, L, e1, ⟨q, r⟩, z⟩ := g; exact ⟨t, o, a, b, d, v, L, e1, ⟨hq _ _ q, r⟩, z⟩
theorem Go.entry {f f' : JFrame} (q : f = f') (g : Go p e below s K N h0 ws Q T f') : Go p e below s K N h0 ws Q T f := q ▸ g
theorem St.more (X : St p l e R s m args below meth c h0 ws T h cells slots) {cells' slots' : Nat} (h1 : cells ≤ cells') (h2 : slots ≤ slots') : St p l e R s m args below meth c h0 ws T h cells' slots' := by
  obtain ⟨L, X, r⟩ := X; exact ⟨L, X.more h1 h2, r⟩
theorem St.kept (X : St p l e R s m args below meth c h0 ws T h cells slots) : Keep h0 h ws := by obtain ⟨L, X, e1, k, f⟩ := X; exact k
theorem St.here (X : St p l e R s m args below meth c h0 ws T h cells slots) : At T m c below := by obtain ⟨L, X, r⟩ := X; exact X.here
theorem Meth.mono {y : MethodName} {rm : Room} {as' : Array Value} {Q' : Option Value → Heap → Prop} (M : Meth l Z y bytes maxL ret rm as' h0 ws Q) (hq : ∀ v h, Q v h → Q' v h) : Meth l Z y bytes maxL ret rm as' h0 ws Q' := by
  intro wl p e ha hc hk s m args below hf happ hP hK
  obtain ⟨n, o, a, b, d, v, L, e1, ⟨q, r⟩, z⟩ := M wl p e ha hc hk s m args below hf happ hP hK
  exact ⟨n, o, a, b, d, v, L, e1, ⟨hq _ _ q, r⟩, z⟩
theorem Meth.of {y : MethodName} {rm : Room} {as' : Array Value} (hpl : plainFor y = true)
    (body : ∀ (p : Program) (e : Env) (s : State) (m : MethodId) (below : List Frame) (meth : Method) (c : Code) (T : State), Fix p Z s m meth c bytes maxL y.cls y.name ret → St p l e rm s m as' below meth c h0 ws T h0 0 0 → Go p e below s rm.cells rm.slots h0 ws Q T (entryFrame m as' maxL)) :
    Meth l Z y bytes maxL ret rm as' h0 ws Q := by
  intro wl
  refine MetFree.of_bodySF hpl hisR ?_
  intro p e s m args below meth c s₁ Bd hml0 hP hK
  obtain ⟨rfl, hZ, hh⟩ := hP
  have X0 : Stand p l e rm s m _ below meth c s₁ [] 0 0 := Stand.of_body Bd
  have e0 : s₁.heap = h0 := by rw [← hh, Bd.state]; rfl
  exact body p e s m below meth c s₁ ⟨Bd.exec, hZ, Bd.bytes, hml0, findClass_of_methodNamed Bd.named, (name_of_methodNamed Bd.named Bd.method).1, Bd.returns, Bd.notSynchronized⟩ ⟨[], X0, e0, Keep.refl _ _, fun y hy => nomatch hy⟩

theorem giload (B : Fix p Z s m meth c bytes maxL own nm ret) (X : St p l e R s m args below meth c h0 ws T h cells slots) {k : Nat} {v : Int32} (hd : decode bytes pc = .ok (.iload k, 2)) (hl : Ls[k]? = some (.val (.int v))) (hp : pc' = pc + 2) (g : Go p e below s K N h0 ws Q T (mkF m pc' Ls (.int v :: st))) : Go p e below s K N h0 ws Q T (mkF m pc Ls st) := by
  subst hp; obtain ⟨L, X, -⟩ := X; exact Go.to (fun t k => XS.iload X.here B.1 rfl (hb B.2.2.1 hd) hl k) g
theorem giloadN (B : Fix p Z s m meth c bytes maxL own nm ret) (X : St p l e R s m args below meth c h0 ws T h cells slots) {k : Fin 4} {v : Int32} (hd : decode bytes pc = .ok (.iload_n k, 1)) (hl : Ls[k.val]? = some (.val (.int v))) (hp : pc' = pc + 1) (g : Go p e below s K N h0 ws Q T (mkF m pc' Ls (.int v :: st))) : Go p e below s K N h0 ws Q T (mkF m pc Ls st) := by
  subst hp; obtain ⟨L, X, -⟩ := X; exact Go.to (fun t k => XS.iloadN X.here B.1 rfl (hb B.2.2.1 hd) hl k) g
theorem gistore (B : Fix p Z s m meth c bytes maxL own nm ret) (X : St p l e R s m args below meth c h0 ws T h cells slots) {k : Nat} {v : Int32} (hd : decode bytes pc = .ok (.istore k, 2)) (hl : storeLocals Ls k (.int v) = some Ls') (hp : pc' = pc + 2) (g : Go p e below s K N h0 ws Q T (mkF m pc' Ls' st)) : Go p e below s K N h0 ws Q T (mkF m pc Ls (.int v :: st)) := by
  subst hp; obtain ⟨L, X, -⟩ := X; exact Go.to (fun t k => XS.istore X.here B.1 rfl (hb B.2.2.1 hd) rfl hl k) g
theorem gistoreN (B : Fix p Z s m meth c bytes maxL own nm ret) (X : St p l e R s m args below meth c h0 ws T h cells slots) {k : Fin 4} {v : Int32} (hd : decode bytes pc = .ok (.istore_n k, 1)) (hl : storeLocals Ls k.val (.int v) = some Ls') (hp : pc' = pc + 1) (g : Go p e below s K N h0 ws Q T (mkF m pc' Ls' st)) : Go p e below s K N h0 ws Q T (mkF m pc Ls (.int v :: st)) := by
  subst hp; obtain ⟨L, X, -⟩ := X; exact Go.to (fun t k => XS.istoreN X.here B.1 rfl (hb B.2.2.1 hd) rfl hl k) g
theorem glload (B : Fix p Z s m meth c bytes maxL own nm ret) (X : St p l e R s m args below meth c h0 ws T h cells slots) {k : Nat} {v : Int64} (hd : decode bytes pc = .ok (.lload k, 2)) (hl : Ls[k]? = some (.val (.long v))) (hp : pc' = pc + 2) (g : Go p e below s K N h0 ws Q T (mkF m pc' Ls (.long v :: st))) : Go p e below s K N h0 ws Q T (mkF m pc Ls st) := by
  subst hp; obtain ⟨L, X, -⟩ := X; exact Go.to (fun t k => XS.lload X.here B.1 rfl (hb B.2.2.1 hd) hl k) g
theorem glloadN (B : Fix p Z s m meth c bytes maxL own nm ret) (X : St p l e R s m args below meth c h0 ws T h cells slots) {k : Fin 4} {v : Int64} (hd : decode bytes pc = .ok (.lload_n k, 1)) (hl : Ls[k.val]? = some (.val (.long v))) (hp : pc' = pc + 1) (g : Go p e below s K N h0 ws Q T (mkF m pc' Ls (.long v :: st))) : Go p e below s K N h0 ws Q T (mkF m pc Ls st) := by
  subst hp; obtain ⟨L, X, -⟩ := X; exact Go.to (fun t k => XS.lloadN X.here B.1 rfl (hb B.2.2.1 hd) hl k) g
theorem glstore (B : Fix p Z s m meth c bytes maxL own nm ret) (X : St p l e R s m args below meth c h0 ws T h cells slots) {k : Nat} {v : Int64} (hd : decode bytes pc = .ok (.lstore k, 2)) (hl : storeLocals Ls k (.long v) = some Ls') (hp : pc' = pc + 2) (g : Go p e below s K N h0 ws Q T (mkF m pc' Ls' st)) : Go p e below s K N h0 ws Q T (mkF m pc Ls (.long v :: st)) := by
  subst hp; obtain ⟨L, X, -⟩ := X; exact Go.to (fun t k => XS.lstore X.here B.1 rfl (hb B.2.2.1 hd) rfl hl k) g
theorem glstoreN (B : Fix p Z s m meth c bytes maxL own nm ret) (X : St p l e R s m args below meth c h0 ws T h cells slots) {k : Fin 4} {v : Int64} (hd : decode bytes pc = .ok (.lstore_n k, 1)) (hl : storeLocals Ls k.val (.long v) = some Ls') (hp : pc' = pc + 1) (g : Go p e below s K N h0 ws Q T (mkF m pc' Ls' st)) : Go p e below s K N h0 ws Q T (mkF m pc Ls (.long v :: st)) := by
  subst hp; obtain ⟨L, X, -⟩ := X; exact Go.to (fun t k => XS.lstoreN X.here B.1 rfl (hb B.2.2.1 hd) rfl hl k) g
theorem gaload (B : Fix p Z s m meth c bytes maxL own nm ret) (X : St p l e R s m args below meth c h0 ws T h cells slots) {k : Nat} {v : Value} (hd : decode bytes pc = .ok (.aload k, 2)) (hl : Ls[k]? = some (.val v)) (hv : v.isRef = true) (hp : pc' = pc + 2) (g : Go p e below s K N h0 ws Q T (mkF m pc' Ls (v :: st))) : Go p e below s K N h0 ws Q T (mkF m pc Ls st) := by
  subst hp; obtain ⟨L, X, -⟩ := X; exact Go.to (fun t k => XS.aload X.here B.1 rfl (hb B.2.2.1 hd) hl hv k) g
theorem galoadN (B : Fix p Z s m meth c bytes maxL own nm ret) (X : St p l e R s m args below meth c h0 ws T h cells slots) {k : Fin 4} {v : Value} (hd : decode bytes pc = .ok (.aload_n k, 1)) (hl : Ls[k.val]? = some (.val v)) (hv : v.isRef = true) (hp : pc' = pc + 1) (g : Go p e below s K N h0 ws Q T (mkF m pc' Ls (v :: st))) : Go p e below s K N h0 ws Q T (mkF m pc Ls st) := by
  subst hp; obtain ⟨L, X, -⟩ := X; exact Go.to (fun t k => XS.aloadN X.here B.1 rfl (hb B.2.2.1 hd) hl hv k) g
theorem gastore (B : Fix p Z s m meth c bytes maxL own nm ret) (X : St p l e R s m args below meth c h0 ws T h cells slots) {k : Nat} {v : Value} (hd : decode bytes pc = .ok (.astore k, 2)) (hv : v.isRef = true) (hl : storeLocals Ls k v = some Ls') (hp : pc' = pc + 2) (g : Go p e below s K N h0 ws Q T (mkF m pc' Ls' st)) : Go p e below s K N h0 ws Q T (mkF m pc Ls (v :: st)) := by
  subst hp; obtain ⟨L, X, -⟩ := X; exact Go.to (fun t k => XS.astore X.here B.1 rfl (hb B.2.2.1 hd) rfl hv hl k) g
theorem gastoreN (B : Fix p Z s m meth c bytes maxL own nm ret) (X : St p l e R s m args below meth c h0 ws T h cells slots) {k : Fin 4} {v : Value} (hd : decode bytes pc = .ok (.astore_n k, 1)) (hv : v.isRef = true) (hl : storeLocals Ls k.val v = some Ls') (hp : pc' = pc + 1) (g : Go p e below s K N h0 ws Q T (mkF m pc' Ls' st)) : Go p e below s K N h0 ws Q T (mkF m pc Ls (v :: st)) := by
  subst hp; obtain ⟨L, X, -⟩ := X; exact Go.to (fun t k => XS.astoreN X.here B.1 rfl (hb B.2.2.1 hd) rfl hv hl k) g
theorem giconst (B : Fix p Z s m meth c bytes maxL own nm ret) (X : St p l e R s m args below meth c h0 ws T h cells slots) {i : Int} {v : Int32} (hd : decode bytes pc = .ok (.iconst i, 1)) (hv : Int32.ofInt i = v) (hp : pc' = pc + 1) (g : Go p e below s K N h0 ws Q T (mkF m pc' Ls (.int v :: st))) : Go p e below s K N h0 ws Q T (mkF m pc Ls st) := by
  subst hp; subst hv; obtain ⟨L, X, -⟩ := X; exact Go.to (fun t k => XS.iconst X.here B.1 rfl (hb B.2.2.1 hd) k) g
theorem gbipush (B : Fix p Z s m meth c bytes maxL own nm ret) (X : St p l e R s m args below meth c h0 ws T h cells slots) {i : Int} {v : Int32} (hd : decode bytes pc = .ok (.bipush i, 2)) (hv : (Int8.ofInt i).toInt32 = v) (hp : pc' = pc + 2) (g : Go p e below s K N h0 ws Q T (mkF m pc' Ls (.int v :: st))) : Go p e below s K N h0 ws Q T (mkF m pc Ls st) := by
  subst hp; subst hv; obtain ⟨L, X, -⟩ := X; exact Go.to (fun t k => XS.bipush X.here B.1 rfl (hb B.2.2.1 hd) k) g
theorem gsipush (B : Fix p Z s m meth c bytes maxL own nm ret) (X : St p l e R s m args below meth c h0 ws T h cells slots) {i : Int} {v : Int32} (hd : decode bytes pc = .ok (.sipush i, 3)) (hv : (Int16.ofInt i).toInt32 = v) (hp : pc' = pc + 3) (g : Go p e below s K N h0 ws Q T (mkF m pc' Ls (.int v :: st))) : Go p e below s K N h0 ws Q T (mkF m pc Ls st) := by
  subst hp; subst hv; obtain ⟨L, X, -⟩ := X; exact Go.to (fun t k => XS.sipush X.here B.1 rfl (hb B.2.2.1 hd) k) g
theorem glconst (B : Fix p Z s m meth c bytes maxL own nm ret) (X : St p l e R s m args below meth c h0 ws T h cells slots) {k : Fin 2} {v : Int64} (hd : decode bytes pc = .ok (.lconst k, 1)) (hv : Int64.ofNat k = v) (hp : pc' = pc + 1) (g : Go p e below s K N h0 ws Q T (mkF m pc' Ls (.long v :: st))) : Go p e below s K N h0 ws Q T (mkF m pc Ls st) := by
  subst hp; subst hv; obtain ⟨L, X, -⟩ := X; exact Go.to (fun t k => XS.lconst X.here B.1 rfl (hb B.2.2.1 hd) k) g
theorem gnull (B : Fix p Z s m meth c bytes maxL own nm ret) (X : St p l e R s m args below meth c h0 ws T h cells slots)  (hd : decode bytes pc = .ok (.aconst_null, 1))  (hp : pc' = pc + 1) (g : Go p e below s K N h0 ws Q T (mkF m pc' Ls (.null :: st))) : Go p e below s K N h0 ws Q T (mkF m pc Ls st) := by
  subst hp; obtain ⟨L, X, -⟩ := X; exact Go.to (fun t k => XS.aconstNull X.here B.1 rfl (hb B.2.2.1 hd)  k) g
theorem giadd (B : Fix p Z s m meth c bytes maxL own nm ret) (X : St p l e R s m args below meth c h0 ws T h cells slots) {x y : Int32} {v : Int32} (hd : decode bytes pc = .ok (.iadd, 1))  (hv : x + y = v) (hp : pc' = pc + 1) (g : Go p e below s K N h0 ws Q T (mkF m pc' Ls (.int v :: st))) : Go p e below s K N h0 ws Q T (mkF m pc Ls (.int y :: .int x :: st)) := by
  subst hp; subst hv; obtain ⟨L, X, -⟩ := X; exact Go.to (fun t k => XS.iadd X.here B.1 rfl (hb B.2.2.1 hd) rfl k) g
theorem gladd (B : Fix p Z s m meth c bytes maxL own nm ret) (X : St p l e R s m args below meth c h0 ws T h cells slots) {x y : Int64} {v : Int64} (hd : decode bytes pc = .ok (.ladd, 1))  (hv : x + y = v) (hp : pc' = pc + 1) (g : Go p e below s K N h0 ws Q T (mkF m pc' Ls (.long v :: st))) : Go p e below s K N h0 ws Q T (mkF m pc Ls (.long y :: .long x :: st)) := by
  subst hp; subst hv; obtain ⟨L, X, -⟩ := X; exact Go.to (fun t k => XS.ladd X.here B.1 rfl (hb B.2.2.1 hd) rfl k) g
theorem gisub (B : Fix p Z s m meth c bytes maxL own nm ret) (X : St p l e R s m args below meth c h0 ws T h cells slots) {x y : Int32} {v : Int32} (hd : decode bytes pc = .ok (.isub, 1))  (hv : x - y = v) (hp : pc' = pc + 1) (g : Go p e below s K N h0 ws Q T (mkF m pc' Ls (.int v :: st))) : Go p e below s K N h0 ws Q T (mkF m pc Ls (.int y :: .int x :: st)) := by
  subst hp; subst hv; obtain ⟨L, X, -⟩ := X; exact Go.to (fun t k => XS.isub X.here B.1 rfl (hb B.2.2.1 hd) rfl k) g
theorem glsub (B : Fix p Z s m meth c bytes maxL own nm ret) (X : St p l e R s m args below meth c h0 ws T h cells slots) {x y : Int64} {v : Int64} (hd : decode bytes pc = .ok (.lsub, 1))  (hv : x - y = v) (hp : pc' = pc + 1) (g : Go p e below s K N h0 ws Q T (mkF m pc' Ls (.long v :: st))) : Go p e below s K N h0 ws Q T (mkF m pc Ls (.long y :: .long x :: st)) := by
  subst hp; subst hv; obtain ⟨L, X, -⟩ := X; exact Go.to (fun t k => XS.lsub X.here B.1 rfl (hb B.2.2.1 hd) rfl k) g
theorem gimul (B : Fix p Z s m meth c bytes maxL own nm ret) (X : St p l e R s m args below meth c h0 ws T h cells slots) {x y : Int32} {v : Int32} (hd : decode bytes pc = .ok (.imul, 1))  (hv : x * y = v) (hp : pc' = pc + 1) (g : Go p e below s K N h0 ws Q T (mkF m pc' Ls (.int v :: st))) : Go p e below s K N h0 ws Q T (mkF m pc Ls (.int y :: .int x :: st)) := by
  subst hp; subst hv; obtain ⟨L, X, -⟩ := X; exact Go.to (fun t k => XS.imul X.here B.1 rfl (hb B.2.2.1 hd) rfl k) g
theorem glmul (B : Fix p Z s m meth c bytes maxL own nm ret) (X : St p l e R s m args below meth c h0 ws T h cells slots) {x y : Int64} {v : Int64} (hd : decode bytes pc = .ok (.lmul, 1))  (hv : x * y = v) (hp : pc' = pc + 1) (g : Go p e below s K N h0 ws Q T (mkF m pc' Ls (.long v :: st))) : Go p e below s K N h0 ws Q T (mkF m pc Ls (.long y :: .long x :: st)) := by
  subst hp; subst hv; obtain ⟨L, X, -⟩ := X; exact Go.to (fun t k => XS.lmul X.here B.1 rfl (hb B.2.2.1 hd) rfl k) g
theorem giand (B : Fix p Z s m meth c bytes maxL own nm ret) (X : St p l e R s m args below meth c h0 ws T h cells slots) {x y : Int32} {v : Int32} (hd : decode bytes pc = .ok (.iand, 1))  (hv : x &&& y = v) (hp : pc' = pc + 1) (g : Go p e below s K N h0 ws Q T (mkF m pc' Ls (.int v :: st))) : Go p e below s K N h0 ws Q T (mkF m pc Ls (.int y :: .int x :: st)) := by
  subst hp; subst hv; obtain ⟨L, X, -⟩ := X; exact Go.to (fun t k => XS.iand X.here B.1 rfl (hb B.2.2.1 hd) rfl k) g
theorem gland (B : Fix p Z s m meth c bytes maxL own nm ret) (X : St p l e R s m args below meth c h0 ws T h cells slots) {x y : Int64} {v : Int64} (hd : decode bytes pc = .ok (.land, 1))  (hv : x &&& y = v) (hp : pc' = pc + 1) (g : Go p e below s K N h0 ws Q T (mkF m pc' Ls (.long v :: st))) : Go p e below s K N h0 ws Q T (mkF m pc Ls (.long y :: .long x :: st)) := by
  subst hp; subst hv; obtain ⟨L, X, -⟩ := X; exact Go.to (fun t k => XS.land X.here B.1 rfl (hb B.2.2.1 hd) rfl k) g
theorem gior (B : Fix p Z s m meth c bytes maxL own nm ret) (X : St p l e R s m args below meth c h0 ws T h cells slots) {x y : Int32} {v : Int32} (hd : decode bytes pc = .ok (.ior, 1))  (hv : x ||| y = v) (hp : pc' = pc + 1) (g : Go p e below s K N h0 ws Q T (mkF m pc' Ls (.int v :: st))) : Go p e below s K N h0 ws Q T (mkF m pc Ls (.int y :: .int x :: st)) := by
  subst hp; subst hv; obtain ⟨L, X, -⟩ := X; exact Go.to (fun t k => XS.ior X.here B.1 rfl (hb B.2.2.1 hd) rfl k) g
theorem glor (B : Fix p Z s m meth c bytes maxL own nm ret) (X : St p l e R s m args below meth c h0 ws T h cells slots) {x y : Int64} {v : Int64} (hd : decode bytes pc = .ok (.lor, 1))  (hv : x ||| y = v) (hp : pc' = pc + 1) (g : Go p e below s K N h0 ws Q T (mkF m pc' Ls (.long v :: st))) : Go p e below s K N h0 ws Q T (mkF m pc Ls (.long y :: .long x :: st)) := by
  subst hp; subst hv; obtain ⟨L, X, -⟩ := X; exact Go.to (fun t k => XS.lor X.here B.1 rfl (hb B.2.2.1 hd) rfl k) g
theorem gixor (B : Fix p Z s m meth c bytes maxL own nm ret) (X : St p l e R s m args below meth c h0 ws T h cells slots) {x y : Int32} {v : Int32} (hd : decode bytes pc = .ok (.ixor, 1))  (hv : x ^^^ y = v) (hp : pc' = pc + 1) (g : Go p e below s K N h0 ws Q T (mkF m pc' Ls (.int v :: st))) : Go p e below s K N h0 ws Q T (mkF m pc Ls (.int y :: .int x :: st)) := by
  subst hp; subst hv; obtain ⟨L, X, -⟩ := X; exact Go.to (fun t k => XS.ixor X.here B.1 rfl (hb B.2.2.1 hd) rfl k) g
theorem glxor (B : Fix p Z s m meth c bytes maxL own nm ret) (X : St p l e R s m args below meth c h0 ws T h cells slots) {x y : Int64} {v : Int64} (hd : decode bytes pc = .ok (.lxor, 1))  (hv : x ^^^ y = v) (hp : pc' = pc + 1) (g : Go p e below s K N h0 ws Q T (mkF m pc' Ls (.long v :: st))) : Go p e below s K N h0 ws Q T (mkF m pc Ls (.long y :: .long x :: st)) := by
  subst hp; subst hv; obtain ⟨L, X, -⟩ := X; exact Go.to (fun t k => XS.lxor X.here B.1 rfl (hb B.2.2.1 hd) rfl k) g
theorem gidiv (B : Fix p Z s m meth c bytes maxL own nm ret) (X : St p l e R s m args below meth c h0 ws T h cells slots) {x y : Int32} {v : Int32} (hd : decode bytes pc = .ok (.idiv, 1)) (hy : y ≠ 0) (hv : x / y = v) (hp : pc' = pc + 1) (g : Go p e below s K N h0 ws Q T (mkF m pc' Ls (.int v :: st))) : Go p e below s K N h0 ws Q T (mkF m pc Ls (.int y :: .int x :: st)) := by
  subst hp; subst hv; obtain ⟨L, X, -⟩ := X; exact Go.to (fun t k => XS.idiv X.here B.1 rfl (hb B.2.2.1 hd) rfl hy k) g
theorem gldiv (B : Fix p Z s m meth c bytes maxL own nm ret) (X : St p l e R s m args below meth c h0 ws T h cells slots) {x y : Int64} {v : Int64} (hd : decode bytes pc = .ok (.ldiv, 1)) (hy : y ≠ 0) (hv : x / y = v) (hp : pc' = pc + 1) (g : Go p e below s K N h0 ws Q T (mkF m pc' Ls (.long v :: st))) : Go p e below s K N h0 ws Q T (mkF m pc Ls (.long y :: .long x :: st)) := by
  subst hp; subst hv; obtain ⟨L, X, -⟩ := X; exact Go.to (fun t k => XS.ldiv X.here B.1 rfl (hb B.2.2.1 hd) rfl hy k) g
theorem girem (B : Fix p Z s m meth c bytes maxL own nm ret) (X : St p l e R s m args below meth c h0 ws T h cells slots) {x y v : Int32} (hd : decode bytes pc = .ok (.irem, 1)) (hy : y ≠ 0) (hv : x % y = v) (hp : pc' = pc + 1) (g : Go p e below s K N h0 ws Q T (mkF m pc' Ls (.int v :: st))) : Go p e below s K N h0 ws Q T (mkF m pc Ls (.int y :: .int x :: st)) := by
  subst hp; subst hv; obtain ⟨L, X, -⟩ := X; exact Go.to (fun t k => iremM X B.1 rfl (hb B.2.2.1 hd) rfl hy k) g
theorem glrem (B : Fix p Z s m meth c bytes maxL own nm ret) (X : St p l e R s m args below meth c h0 ws T h cells slots) {x y v : Int64} (hd : decode bytes pc = .ok (.lrem, 1)) (hy : y ≠ 0) (hv : x % y = v) (hp : pc' = pc + 1) (g : Go p e below s K N h0 ws Q T (mkF m pc' Ls (.long v :: st))) : Go p e below s K N h0 ws Q T (mkF m pc Ls (.long y :: .long x :: st)) := by
  subst hp; subst hv; obtain ⟨L, X, -⟩ := X; exact Go.to (fun t k => XS.lrem X.here B.1 rfl (hb B.2.2.1 hd) rfl hy (by rw [lrem_mod]; exact k)) g
theorem gishl (B : Fix p Z s m meth c bytes maxL own nm ret) (X : St p l e R s m args below meth c h0 ws T h cells slots) {x y : Int32} {v : Int32} (hd : decode bytes pc = .ok (.ishl, 1))  (hv : x <<< (y &&& 31) = v) (hp : pc' = pc + 1) (g : Go p e below s K N h0 ws Q T (mkF m pc' Ls (.int v :: st))) : Go p e below s K N h0 ws Q T (mkF m pc Ls (.int y :: .int x :: st)) := by
  subst hp; subst hv; obtain ⟨L, X, -⟩ := X; exact Go.to (fun t k => XS.ishl X.here B.1 rfl (hb B.2.2.1 hd) rfl k) g
theorem gishr (B : Fix p Z s m meth c bytes maxL own nm ret) (X : St p l e R s m args below meth c h0 ws T h cells slots) {x y : Int32} {v : Int32} (hd : decode bytes pc = .ok (.ishr, 1))  (hv : x >>> (y &&& 31) = v) (hp : pc' = pc + 1) (g : Go p e below s K N h0 ws Q T (mkF m pc' Ls (.int v :: st))) : Go p e below s K N h0 ws Q T (mkF m pc Ls (.int y :: .int x :: st)) := by
  subst hp; subst hv; obtain ⟨L, X, -⟩ := X; exact Go.to (fun t k => XS.ishr X.here B.1 rfl (hb B.2.2.1 hd) rfl k) g
theorem giushr (B : Fix p Z s m meth c bytes maxL own nm ret) (X : St p l e R s m args below meth c h0 ws T h cells slots) {x y : Int32} {v : Int32} (hd : decode bytes pc = .ok (.iushr, 1))  (hv : (x.toUInt32 >>> (y &&& 31).toUInt32).toInt32 = v) (hp : pc' = pc + 1) (g : Go p e below s K N h0 ws Q T (mkF m pc' Ls (.int v :: st))) : Go p e below s K N h0 ws Q T (mkF m pc Ls (.int y :: .int x :: st)) := by
  subst hp; subst hv; obtain ⟨L, X, -⟩ := X; exact Go.to (fun t k => XS.iushr X.here B.1 rfl (hb B.2.2.1 hd) rfl k) g
theorem glshl (B : Fix p Z s m meth c bytes maxL own nm ret) (X : St p l e R s m args below meth c h0 ws T h cells slots) {x : Int64} {y : Int32} {v : Int64} (hd : decode bytes pc = .ok (.lshl, 1))  (hv : x <<< (y &&& 0x3f).toInt64 = v) (hp : pc' = pc + 1) (g : Go p e below s K N h0 ws Q T (mkF m pc' Ls (.long v :: st))) : Go p e below s K N h0 ws Q T (mkF m pc Ls (.int y :: .long x :: st)) := by
  subst hp; subst hv; obtain ⟨L, X, -⟩ := X; exact Go.to (fun t k => XS.lshl X.here B.1 rfl (hb B.2.2.1 hd) rfl k) g
theorem glshr (B : Fix p Z s m meth c bytes maxL own nm ret) (X : St p l e R s m args below meth c h0 ws T h cells slots) {x : Int64} {y : Int32} {v : Int64} (hd : decode bytes pc = .ok (.lshr, 1))  (hv : x >>> (y &&& 0x3f).toInt64 = v) (hp : pc' = pc + 1) (g : Go p e below s K N h0 ws Q T (mkF m pc' Ls (.long v :: st))) : Go p e below s K N h0 ws Q T (mkF m pc Ls (.int y :: .long x :: st)) := by
  subst hp; subst hv; obtain ⟨L, X, -⟩ := X; exact Go.to (fun t k => XS.lshr X.here B.1 rfl (hb B.2.2.1 hd) rfl k) g
theorem glushr (B : Fix p Z s m meth c bytes maxL own nm ret) (X : St p l e R s m args below meth c h0 ws T h cells slots) {x : Int64} {y : Int32} {v : Int64} (hd : decode bytes pc = .ok (.lushr, 1))  (hv : (x.toUInt64 >>> (y &&& 0x3f).toInt64.toUInt64).toInt64 = v) (hp : pc' = pc + 1) (g : Go p e below s K N h0 ws Q T (mkF m pc' Ls (.long v :: st))) : Go p e below s K N h0 ws Q T (mkF m pc Ls (.int y :: .long x :: st)) := by
  subst hp; subst hv; obtain ⟨L, X, -⟩ := X; exact Go.to (fun t k => XS.lushr X.here B.1 rfl (hb B.2.2.1 hd) rfl k) g
theorem gineg (B : Fix p Z s m meth c bytes maxL own nm ret) (X : St p l e R s m args below meth c h0 ws T h cells slots) {x : Int32} {v : Int32} (hd : decode bytes pc = .ok (.ineg, 1))  (hv : -x = v) (hp : pc' = pc + 1) (g : Go p e below s K N h0 ws Q T (mkF m pc' Ls (.int v :: st))) : Go p e below s K N h0 ws Q T (mkF m pc Ls (.int x :: st)) := by
  subst hp; subst hv; obtain ⟨L, X, -⟩ := X; exact Go.to (fun t k => XS.ineg X.here B.1 rfl (hb B.2.2.1 hd) rfl k) g
theorem glneg (B : Fix p Z s m meth c bytes maxL own nm ret) (X : St p l e R s m args below meth c h0 ws T h cells slots) {x : Int64} {v : Int64} (hd : decode bytes pc = .ok (.lneg, 1))  (hv : -x = v) (hp : pc' = pc + 1) (g : Go p e below s K N h0 ws Q T (mkF m pc' Ls (.long v :: st))) : Go p e below s K N h0 ws Q T (mkF m pc Ls (.long x :: st)) := by
  subst hp; subst hv; obtain ⟨L, X, -⟩ := X; exact Go.to (fun t k => XS.lneg X.here B.1 rfl (hb B.2.2.1 hd) rfl k) g
theorem gi2l (B : Fix p Z s m meth c bytes maxL own nm ret) (X : St p l e R s m args below meth c h0 ws T h cells slots) {x : Int32} {v : Int64} (hd : decode bytes pc = .ok (.i2l, 1))  (hv : x.toInt64 = v) (hp : pc' = pc + 1) (g : Go p e below s K N h0 ws Q T (mkF m pc' Ls (.long v :: st))) : Go p e below s K N h0 ws Q T (mkF m pc Ls (.int x :: st)) := by
  subst hp; subst hv; obtain ⟨L, X, -⟩ := X; exact Go.to (fun t k => XS.i2l X.here B.1 rfl (hb B.2.2.1 hd) rfl k) g
theorem gl2i (B : Fix p Z s m meth c bytes maxL own nm ret) (X : St p l e R s m args below meth c h0 ws T h cells slots) {x : Int64} {v : Int32} (hd : decode bytes pc = .ok (.l2i, 1))  (hv : x.toInt32 = v) (hp : pc' = pc + 1) (g : Go p e below s K N h0 ws Q T (mkF m pc' Ls (.int v :: st))) : Go p e below s K N h0 ws Q T (mkF m pc Ls (.long x :: st)) := by
  subst hp; subst hv; obtain ⟨L, X, -⟩ := X; exact Go.to (fun t k => XS.l2i X.here B.1 rfl (hb B.2.2.1 hd) rfl k) g
theorem gi2b (B : Fix p Z s m meth c bytes maxL own nm ret) (X : St p l e R s m args below meth c h0 ws T h cells slots) {x : Int32} {v : Int32} (hd : decode bytes pc = .ok (.i2b, 1))  (hv : x.toInt8.toInt32 = v) (hp : pc' = pc + 1) (g : Go p e below s K N h0 ws Q T (mkF m pc' Ls (.int v :: st))) : Go p e below s K N h0 ws Q T (mkF m pc Ls (.int x :: st)) := by
  subst hp; subst hv; obtain ⟨L, X, -⟩ := X; exact Go.to (fun t k => XS.i2b X.here B.1 rfl (hb B.2.2.1 hd) rfl k) g
theorem gi2s (B : Fix p Z s m meth c bytes maxL own nm ret) (X : St p l e R s m args below meth c h0 ws T h cells slots) {x : Int32} {v : Int32} (hd : decode bytes pc = .ok (.i2s, 1))  (hv : x.toInt16.toInt32 = v) (hp : pc' = pc + 1) (g : Go p e below s K N h0 ws Q T (mkF m pc' Ls (.int v :: st))) : Go p e below s K N h0 ws Q T (mkF m pc Ls (.int x :: st)) := by
  subst hp; subst hv; obtain ⟨L, X, -⟩ := X; exact Go.to (fun t k => XS.i2s X.here B.1 rfl (hb B.2.2.1 hd) rfl k) g
theorem gi2c (B : Fix p Z s m meth c bytes maxL own nm ret) (X : St p l e R s m args below meth c h0 ws T h cells slots) {x : Int32} {v : Int32} (hd : decode bytes pc = .ok (.i2c, 1))  (hv : x.toUInt32.toUInt16.toUInt32.toInt32 = v) (hp : pc' = pc + 1) (g : Go p e below s K N h0 ws Q T (mkF m pc' Ls (.int v :: st))) : Go p e below s K N h0 ws Q T (mkF m pc Ls (.int x :: st)) := by
  subst hp; subst hv; obtain ⟨L, X, -⟩ := X; exact Go.to (fun t k => XS.i2c X.here B.1 rfl (hb B.2.2.1 hd) rfl k) g
theorem glcmp (B : Fix p Z s m meth c bytes maxL own nm ret) (X : St p l e R s m args below meth c h0 ws T h cells slots) {x y : Int64} (hd : decode bytes pc = .ok (.lcmp, 1))  (hp : pc' = pc + 1) (g : Go p e below s K N h0 ws Q T (mkF m pc' Ls (.int (lcmpW x y) :: st))) : Go p e below s K N h0 ws Q T (mkF m pc Ls (.long y :: .long x :: st)) := by
  subst hp; obtain ⟨L, X, -⟩ := X; exact Go.to (fun t k => XS.lcmp X.here B.1 rfl (hb B.2.2.1 hd) rfl k) g
theorem gdup (B : Fix p Z s m meth c bytes maxL own nm ret) (X : St p l e R s m args below meth c h0 ws T h cells slots) {x : Value} (hd : decode bytes pc = .ok (.dup, 1)) (hc : x.category = 1) (hp : pc' = pc + 1) (g : Go p e below s K N h0 ws Q T (mkF m pc' Ls (x :: x :: st))) : Go p e below s K N h0 ws Q T (mkF m pc Ls (x :: st)) := by
  subst hp; obtain ⟨L, X, -⟩ := X; exact Go.to (fun t k => XS.dup X.here B.1 rfl (hb B.2.2.1 hd) rfl hc k) g
theorem gpop (B : Fix p Z s m meth c bytes maxL own nm ret) (X : St p l e R s m args below meth c h0 ws T h cells slots) {x : Value} (hd : decode bytes pc = .ok (.pop, 1)) (hc : x.category = 1) (hp : pc' = pc + 1) (g : Go p e below s K N h0 ws Q T (mkF m pc' Ls st)) : Go p e below s K N h0 ws Q T (mkF m pc Ls (x :: st)) := by
  subst hp; obtain ⟨L, X, -⟩ := X; exact Go.to (fun t k => XS.pop X.here B.1 rfl (hb B.2.2.1 hd) rfl hc k) g
theorem gdup_x1 (B : Fix p Z s m meth c bytes maxL own nm ret) (X : St p l e R s m args below meth c h0 ws T h cells slots) {x y : Value} (hd : decode bytes pc = .ok (.dup_x1, 1)) (hc : x.category = 1) (hc2 : y.category = 1) (hp : pc' = pc + 1) (g : Go p e below s K N h0 ws Q T (mkF m pc' Ls (x :: y :: x :: st))) : Go p e below s K N h0 ws Q T (mkF m pc Ls (x :: y :: st)) := by
  subst hp; obtain ⟨L, X, -⟩ := X; exact Go.to (fun t k => XS.dupX1 X.here B.1 rfl (hb B.2.2.1 hd) rfl hc hc2 k) g
theorem gdup2 (B : Fix p Z s m meth c bytes maxL own nm ret) (X : St p l e R s m args below meth c h0 ws T h cells slots) {x y : Value} (hd : decode bytes pc = .ok (.dup2, 1)) (hc : x.category = 1) (hc2 : y.category = 1) (hp : pc' = pc + 1) (g : Go p e below s K N h0 ws Q T (mkF m pc' Ls (x :: y :: x :: y :: st))) : Go p e below s K N h0 ws Q T (mkF m pc Ls (x :: y :: st)) := by
  subst hp; obtain ⟨L, X, -⟩ := X; exact Go.to (fun t k => Jvm.Free.XT.dup2 X.here B.1 rfl (hb B.2.2.1 hd) rfl hc hc2 k) g
theorem xdup_x2 {tb : Tables} [Ours tb] {target : State} {g : JFrame} (h : At T m c below) (hx : tb.exec = Jvm.exec) (hg : g.method = m) {x y z : Value} {rest : List Value} (hd : decode c.code g.pc = .ok (.dup_x2, 1)) (hs : g.stack = x :: y :: z :: rest) (hc : x.category = 1) (hc' : y.category = 1) (hc2 : z.category = 1)
    (hr : Steps tb e below (T.setTop { g with pc := g.pc + 1, stack := x :: y :: z :: x :: rest }) target) : Steps tb e below (T.setTop g) target := by
  subst hg
  jvm_step h [h.top, hx, hd, hs, hc, hc', hc2]
  exact hr
theorem gdup_x2 (B : Fix p Z s m meth c bytes maxL own nm ret) (X : St p l e R s m args below meth c h0 ws T h cells slots) {x y z : Value} (hd : decode bytes pc = .ok (.dup_x2, 1)) (hc : x.category = 1) (hc2 : y.category = 1) (hc3 : z.category = 1) (hp : pc' = pc + 1) (g : Go p e below s K N h0 ws Q T (mkF m pc' Ls (x :: y :: z :: x :: st))) : Go p e below s K N h0 ws Q T (mkF m pc Ls (x :: y :: z :: st)) := by
  subst hp; obtain ⟨L, X, -⟩ := X; exact Go.to (fun t k => xdup_x2 X.here B.1 rfl (hb B.2.2.1 hd) rfl hc hc2 hc3 k) g
theorem giinc (B : Fix p Z s m meth c bytes maxL own nm ret) (X : St p l e R s m args below meth c h0 ws T h cells slots) {k : Nat} {cst : Int} {x v : Int32} (hd : decode bytes pc = .ok (.iinc k cst, 3)) (hl : Ls[k]? = some (.val (.int x))) (hv : x + Int32.ofInt cst = v) (hl' : storeLocals Ls k (.int v) = some Ls') (hp : pc' = pc + 3) (g : Go p e below s K N h0 ws Q T (mkF m pc' Ls' st)) : Go p e below s K N h0 ws Q T (mkF m pc Ls st) := by
  subst hp; subst hv; obtain ⟨L, X, -⟩ := X; exact Go.to (fun t k => XS.iinc X.here B.1 rfl (hb B.2.2.1 hd) hl hl' k) g
theorem ggoto (B : Fix p Z s m meth c bytes maxL own nm ret) (X : St p l e R s m args below meth c h0 ws T h cells slots) {o : Int} (hd : decode bytes pc = .ok (.goto o, 3)) (ho : 0 ≤ (pc : Int) + o ∧ ((pc : Int) + o).toNat = pc') (g : Go p e below s K N h0 ws Q T (mkF m pc' Ls st)) : Go p e below s K N h0 ws Q T (mkF m pc Ls st) := by
  obtain ⟨L, X, -⟩ := X; exact Go.to (fun t k => XS.goto X.here B.1 rfl (pc0 := pc) rfl (hb B.2.2.1 hd) ho.1 ho.2 k) g
theorem gifY (B : Fix p Z s m meth c bytes maxL own nm ret) (X : St p l e R s m args below meth c h0 ws T h cells slots) {cd : ClassFile.Cond} {o : Int} {x : Int32} (hd : decode bytes pc = .ok (.ifCond cd o, 3)) (hc : ifCond.holds cd x = true) (ho : 0 ≤ (pc : Int) + o ∧ ((pc : Int) + o).toNat = pc') (g : Go p e below s K N h0 ws Q T (mkF m pc' Ls st)) : Go p e below s K N h0 ws Q T (mkF m pc Ls (.int x :: st)) := by
  obtain ⟨L, X, -⟩ := X; exact Go.to (fun t k => XS.ifYes X.here B.1 rfl (pc0 := pc) rfl (hb B.2.2.1 hd) rfl hc ho.1 ho.2 k) g
theorem gifN (B : Fix p Z s m meth c bytes maxL own nm ret) (X : St p l e R s m args below meth c h0 ws T h cells slots) {cd : ClassFile.Cond} {o : Int} {x : Int32} (hd : decode bytes pc = .ok (.ifCond cd o, 3)) (hc : ifCond.holds cd x = false) (hp : pc' = pc + 3) (g : Go p e below s K N h0 ws Q T (mkF m pc' Ls st)) : Go p e below s K N h0 ws Q T (mkF m pc Ls (.int x :: st)) := by
  subst hp; obtain ⟨L, X, -⟩ := X; exact Go.to (fun t k => XS.ifNo X.here B.1 rfl (hb B.2.2.1 hd) rfl hc k) g
theorem gicY (B : Fix p Z s m meth c bytes maxL own nm ret) (X : St p l e R s m args below meth c h0 ws T h cells slots) {cd : ClassFile.Cond} {o : Int} {x y : Int32} (hd : decode bytes pc = .ok (.if_icmp cd o, 3)) (hc : if_icmp.holds cd x y = true) (ho : 0 ≤ (pc : Int) + o ∧ ((pc : Int) + o).toNat = pc') (g : Go p e below s K N h0 ws Q T (mkF m pc' Ls st)) : Go p e below s K N h0 ws Q T (mkF m pc Ls (.int y :: .int x :: st)) := by
  obtain ⟨L, X, -⟩ := X; exact Go.to (fun t k => XS.icmpYes X.here B.1 rfl (pc0 := pc) rfl (hb B.2.2.1 hd) rfl hc ho.1 ho.2 k) g
theorem gicN (B : Fix p Z s m meth c bytes maxL own nm ret) (X : St p l e R s m args below meth c h0 ws T h cells slots) {cd : ClassFile.Cond} {o : Int} {x y : Int32} (hd : decode bytes pc = .ok (.if_icmp cd o, 3)) (hc : if_icmp.holds cd x y = false) (hp : pc' = pc + 3) (g : Go p e below s K N h0 ws Q T (mkF m pc' Ls st)) : Go p e below s K N h0 ws Q T (mkF m pc Ls (.int y :: .int x :: st)) := by
  subst hp; obtain ⟨L, X, -⟩ := X; exact Go.to (fun t k => XS.icmpNo X.here B.1 rfl (hb B.2.2.1 hd) rfl hc k) g
theorem gnullN (B : Fix p Z s m meth c bytes maxL own nm ret) (X : St p l e R s m args below meth c h0 ws T h cells slots) {a : Addr} {o : Int} (hd : decode bytes pc = .ok (.ifnull o, 3)) (hp : pc' = pc + 3) (g : Go p e below s K N h0 ws Q T (mkF m pc' Ls st)) : Go p e below s K N h0 ws Q T (mkF m pc Ls (.ref a :: st)) := by
  subst hp; obtain ⟨L, X, -⟩ := X; exact Go.to (fun t k => XS.ifnullNo X.here B.1 rfl (hb B.2.2.1 hd) rfl k) g
theorem gldc (B : Fix p Z s m meth c bytes maxL own nm ret) (X : St p l e R s m args below meth c h0 ws T h cells slots) {i : Nat} {v : Int32} (w : (Cond.constant own i v).before a0 Z = true) (hd : decode bytes pc = .ok (.ldc i, 2)) (hp : pc' = pc + 2) (g : Go p e below s K N h0 ws Q T (mkF m pc' Ls (.int v :: st))) : Go p e below s K N h0 ws Q T (mkF m pc Ls st) := by
  subst hp; obtain ⟨L, X, -⟩ := X; exact Go.to (fun t k => X.ldcInt B.1 B.2.2.2.2.1 (mvT B.2.1 w) (g := mkF m pc Ls st) rfl (hb B.2.2.1 hd) t k) g
theorem gldcw (B : Fix p Z s m meth c bytes maxL own nm ret) (X : St p l e R s m args below meth c h0 ws T h cells slots) {i : Nat} {v : Int32} (w : (Cond.constant own i v).before a0 Z = true) (hd : decode bytes pc = .ok (.ldc_w i, 3)) (hp : pc' = pc + 3) (g : Go p e below s K N h0 ws Q T (mkF m pc' Ls (.int v :: st))) : Go p e below s K N h0 ws Q T (mkF m pc Ls st) := by
  subst hp; obtain ⟨L, X, -⟩ := X; exact Go.to (fun t k => X.ldcwInt B.1 B.2.2.2.2.1 (mvT B.2.1 w) (g := mkF m pc Ls st) rfl (hb B.2.2.1 hd) t k) g
theorem gldc2 (B : Fix p Z s m meth c bytes maxL own nm ret) (X : St p l e R s m args below meth c h0 ws T h cells slots) {i : Nat} {v : Int64} (w : (Cond.constantLong own i v).before a0 Z = true) (hd : decode bytes pc = .ok (.ldc2_w i, 3)) (hp : pc' = pc + 3) (g : Go p e below s K N h0 ws Q T (mkF m pc' Ls (.long v :: st))) : Go p e below s K N h0 ws Q T (mkF m pc Ls st) := by
  subst hp; obtain ⟨L, X, -⟩ := X; exact Go.to (fun t k => X.ldc2Long B.1 B.2.2.2.2.1 (mvT B.2.1 w) (g := mkF m pc Ls st) rfl (hb B.2.2.1 hd) t k) g
theorem giaload (B : Fix p Z s m meth c bytes maxL own nm ret) (X : St p l e R s m args below meth c h0 ws T h cells slots) {a : Addr} {vs : List Value} {j : Int32} {v : Value} {n : Nat} (A : VA Z h a .int vs) (hn : vs.length = n) (hj : 0 ≤ j.toInt ∧ j.toInt < n) (hv : vs[j.toNatClampNeg]? = some v) (hd : decode bytes pc = .ok (.iaload, 1)) (hp : pc' = pc + 1) (g : Go p e below s K N h0 ws Q T (mkF m pc' Ls (v :: st))) : Go p e below s K N h0 ws Q T (mkF m pc Ls (.int j :: .ref a :: st)) := by
  subst hp; subst hn; obtain ⟨L, X, eT, -⟩ := X; obtain ⟨cl, A, r, n⟩ := A
  exact Go.to (fun t k => X.iaload B.1 (by rw [eT]; exact A.1) (State.isArrayOf_alike B.2.1.alike A.2.1) A.2.2 (by rw [r]; exact inb (by simpa using hj)) (by rw [r]; simpa using hv) (g := mkF m pc Ls (.int j :: .ref a :: st)) rfl rfl (hb B.2.2.1 hd) t k) g
theorem glaload (B : Fix p Z s m meth c bytes maxL own nm ret) (X : St p l e R s m args below meth c h0 ws T h cells slots) {a : Addr} {vs : List Value} {j : Int32} {v : Value} {n : Nat} (A : VA Z h a .long vs) (hn : vs.length = n) (hj : 0 ≤ j.toInt ∧ j.toInt < n) (hv : vs[j.toNatClampNeg]? = some v) (hd : decode bytes pc = .ok (.laload, 1)) (hp : pc' = pc + 1) (g : Go p e below s K N h0 ws Q T (mkF m pc' Ls (v :: st))) : Go p e below s K N h0 ws Q T (mkF m pc Ls (.int j :: .ref a :: st)) := by
  subst hp; subst hn; obtain ⟨L, X, eT, -⟩ := X; obtain ⟨cl, A, r, n⟩ := A
  exact Go.to (fun t k => X.laload B.1 (by rw [eT]; exact A.1) (State.isArrayOf_alike B.2.1.alike A.2.1) A.2.2 (by rw [r]; exact inb (by simpa using hj)) (by rw [r]; simpa using hv) (g := mkF m pc Ls (.int j :: .ref a :: st)) rfl rfl (hb B.2.2.1 hd) t k) g
theorem gbaload (B : Fix p Z s m meth c bytes maxL own nm ret) (X : St p l e R s m args below meth c h0 ws T h cells slots) {a : Addr} {vs : List Value} {j : Int32} {v : Value} {n : Nat} (A : VA Z h a .byte vs) (hn : vs.length = n) (hj : 0 ≤ j.toInt ∧ j.toInt < n) (hv : vs[j.toNatClampNeg]? = some v) (hd : decode bytes pc = .ok (.baload, 1)) (hp : pc' = pc + 1) (g : Go p e below s K N h0 ws Q T (mkF m pc' Ls (v :: st))) : Go p e below s K N h0 ws Q T (mkF m pc Ls (.int j :: .ref a :: st)) := by
  subst hp; subst hn; obtain ⟨L, X, eT, -⟩ := X; obtain ⟨cl, A, r, n⟩ := A
  exact Go.to (fun t k => X.baloadBytes B.1 (by rw [eT]; exact A.1) (State.isArrayOf_alike B.2.1.alike A.2.1) A.2.2 (by rw [r]; exact inb (by simpa using hj)) (by rw [r]; simpa using hv) (g := mkF m pc Ls (.int j :: .ref a :: st)) rfl rfl (hb B.2.2.1 hd) t k) g
theorem gzaload (B : Fix p Z s m meth c bytes maxL own nm ret) (X : St p l e R s m args below meth c h0 ws T h cells slots) {a : Addr} {vs : List Value} {j : Int32} {v : Value} {n : Nat} (A : VA Z h a .boolean vs) (hn : vs.length = n) (hj : 0 ≤ j.toInt ∧ j.toInt < n) (hv : vs[j.toNatClampNeg]? = some v) (hd : decode bytes pc = .ok (.baload, 1)) (hp : pc' = pc + 1) (g : Go p e below s K N h0 ws Q T (mkF m pc' Ls (v :: st))) : Go p e below s K N h0 ws Q T (mkF m pc Ls (.int j :: .ref a :: st)) := by
  subst hp; subst hn; obtain ⟨L, X, eT, -⟩ := X; obtain ⟨cl, A, r, n⟩ := A
  exact Go.to (fun t k => X.baloadBooleans B.1 (by rw [eT]; exact A.1) (State.isArrayOf_alike B.2.1.alike A.2.1) A.2.2 (by rw [r]; exact inb (by simpa using hj)) (by rw [r]; simpa using hv) (g := mkF m pc Ls (.int j :: .ref a :: st)) rfl rfl (hb B.2.2.1 hd) t k) g
theorem glength (B : Fix p Z s m meth c bytes maxL own nm ret) (X : St p l e R s m args below meth c h0 ws T h cells slots) {a : Addr} {ty : FieldType} {vs : List Value} {n : Int32} {k : Nat} (A : VA Z h a ty vs) (hk : vs.length = k) (hn : n.toInt = k) (hd : decode bytes pc = .ok (.arraylength, 1)) (hp : pc' = pc + 1) (g : Go p e below s K N h0 ws Q T (mkF m pc' Ls (.int n :: st))) : Go p e below s K N h0 ws Q T (mkF m pc Ls (.ref a :: st)) := by
  subst hp; subst hk; obtain ⟨L, X, eT, -⟩ := X; obtain ⟨cl, A, r, q⟩ := A
  have e1 : cl.slots.size.toInt32 = n := by rw [r]; apply Int32.toInt_inj.mp; rw [len_toInt (by simpa using q), hn]; simp
  exact Go.to (fun t k => X.arraylength B.1 (by rw [eT]; exact A.1) (State.isArrayOf_alike B.2.1.alike A.2.1) (g := mkF m pc Ls (.ref a :: st)) rfl rfl (hb B.2.2.1 hd) t (by rw [e1]; exact k)) g
theorem giastore (B : Fix p Z s m meth c bytes maxL own nm ret) (X : St p l e R s m args below meth c h0 ws T h cells slots) {a : Addr} {vs vs' : List Value} {j : Int32} {x : Int32} {i n : Nat} (A : VA Z h a .int vs) (hn : vs.length = n) (hj : 0 ≤ j.toInt ∧ j.toInt < n) (hi : j.toNatClampNeg = i) (hvs : vs.set i (.int x) = vs') (ha : a ∈ ws ∨ h0.size ≤ a) (hd : decode bytes pc = .ok (.iastore, 1)) (hp : pc' = pc + 1) (g : ∀ T' h', St p l e R s m args below meth c h0 ws T' h' cells slots → Wr h h' a i (.int x) → VA Z h' a .int vs' → Go p e below s K N h0 ws Q T' (mkF m pc' Ls st)) : Go p e below s K N h0 ws Q T (mkF m pc Ls (.int x :: .int j :: .ref a :: st)) := by
  subst hp; subst hi; subst hvs; subst hn; obtain ⟨L, X, eT, KK, FF⟩ := X; have A0 := A; obtain ⟨cl, A, r, n⟩ := A
  obtain ⟨T', h', X', e', W, k⟩ := stI X B.1 B.2.1 eT A (by rw [r]; exact inb (by simpa using hj)) (g := mkF m pc Ls (.int x :: .int j :: .ref a :: st)) rfl rfl (hb B.2.2.1 hd)
  exact Go.to k (g T' h' ⟨_, X', e', KK.wr W ha, fun y hy => (List.mem_append.mp hy).elim (FF y) fun q => by cases List.mem_singleton.mp q; exact ha⟩ W (A0.set W))
theorem glastore (B : Fix p Z s m meth c bytes maxL own nm ret) (X : St p l e R s m args below meth c h0 ws T h cells slots) {a : Addr} {vs vs' : List Value} {j : Int32} {x : Int64} {i n : Nat} (A : VA Z h a .long vs) (hn : vs.length = n) (hj : 0 ≤ j.toInt ∧ j.toInt < n) (hi : j.toNatClampNeg = i) (hvs : vs.set i (.long x) = vs') (ha : a ∈ ws ∨ h0.size ≤ a) (hd : decode bytes pc = .ok (.lastore, 1)) (hp : pc' = pc + 1) (g : ∀ T' h', St p l e R s m args below meth c h0 ws T' h' cells slots → Wr h h' a i (.long x) → VA Z h' a .long vs' → Go p e below s K N h0 ws Q T' (mkF m pc' Ls st)) : Go p e below s K N h0 ws Q T (mkF m pc Ls (.long x :: .int j :: .ref a :: st)) := by
  subst hp; subst hi; subst hvs; subst hn; obtain ⟨L, X, eT, KK, FF⟩ := X; have A0 := A; obtain ⟨cl, A, r, n⟩ := A
  obtain ⟨T', h', X', e', W, k⟩ := stJ X B.1 B.2.1 eT A (by rw [r]; exact inb (by simpa using hj)) (g := mkF m pc Ls (.long x :: .int j :: .ref a :: st)) rfl rfl (hb B.2.2.1 hd)
  exact Go.to k (g T' h' ⟨_, X', e', KK.wr W ha, fun y hy => (List.mem_append.mp hy).elim (FF y) fun q => by cases List.mem_singleton.mp q; exact ha⟩ W (A0.set W))
theorem gbastore (B : Fix p Z s m meth c bytes maxL own nm ret) (X : St p l e R s m args below meth c h0 ws T h cells slots) {a : Addr} {vs vs' : List Value} {j : Int32} {x : Int32} {i n : Nat} (A : VA Z h a .byte vs) (hn : vs.length = n) (hj : 0 ≤ j.toInt ∧ j.toInt < n) (hi : j.toNatClampNeg = i) (hvs : vs.set i (.int x.toInt8.toInt32) = vs') (ha : a ∈ ws ∨ h0.size ≤ a) (hd : decode bytes pc = .ok (.bastore, 1)) (hp : pc' = pc + 1) (g : ∀ T' h', St p l e R s m args below meth c h0 ws T' h' cells slots → Wr h h' a i (.int x.toInt8.toInt32) → VA Z h' a .byte vs' → Go p e below s K N h0 ws Q T' (mkF m pc' Ls st)) : Go p e below s K N h0 ws Q T (mkF m pc Ls (.int x :: .int j :: .ref a :: st)) := by
  subst hp; subst hi; subst hvs; subst hn; obtain ⟨L, X, eT, KK, FF⟩ := X; have A0 := A; obtain ⟨cl, A, r, n⟩ := A
  obtain ⟨T', h', X', e', W, k⟩ := stB X B.1 B.2.1 eT A (by rw [r]; exact inb (by simpa using hj)) (g := mkF m pc Ls (.int x :: .int j :: .ref a :: st)) rfl rfl (hb B.2.2.1 hd)
  exact Go.to k (g T' h' ⟨_, X', e', KK.wr W ha, fun y hy => (List.mem_append.mp hy).elim (FF y) fun q => by cases List.mem_singleton.mp q; exact ha⟩ W (A0.set W))
theorem gzastore (B : Fix p Z s m meth c bytes maxL own nm ret) (X : St p l e R s m args below meth c h0 ws T h cells slots) {a : Addr} {vs vs' : List Value} {j : Int32} {x : Int32} {i n : Nat} (A : VA Z h a .boolean vs) (hn : vs.length = n) (hj : 0 ≤ j.toInt ∧ j.toInt < n) (hi : j.toNatClampNeg = i) (hvs : vs.set i (.int (x &&& 1)) = vs') (ha : a ∈ ws ∨ h0.size ≤ a) (hd : decode bytes pc = .ok (.bastore, 1)) (hp : pc' = pc + 1) (g : ∀ T' h', St p l e R s m args below meth c h0 ws T' h' cells slots → Wr h h' a i (.int (x &&& 1)) → VA Z h' a .boolean vs' → Go p e below s K N h0 ws Q T' (mkF m pc' Ls st)) : Go p e below s K N h0 ws Q T (mkF m pc Ls (.int x :: .int j :: .ref a :: st)) := by
  subst hp; subst hi; subst hvs; subst hn; obtain ⟨L, X, eT, KK, FF⟩ := X; have A0 := A; obtain ⟨cl, A, r, n⟩ := A
  obtain ⟨T', h', X', e', W, k⟩ := stZ X B.1 B.2.1 eT A (by rw [r]; exact inb (by simpa using hj)) (g := mkF m pc Ls (.int x :: .int j :: .ref a :: st)) rfl rfl (hb B.2.2.1 hd)
  exact Go.to k (g T' h' ⟨_, X', e', KK.wr W ha, fun y hy => (List.mem_append.mp hy).elim (FF y) fun q => by cases List.mem_singleton.mp q; exact ha⟩ W (A0.set W))
theorem gnewarray (B : Fix p Z s m meth c bytes maxL own nm ret) (X : St p l e R s m args below meth c h0 ws T h cells slots) {aty : ArrayType} {n : Int32} {cap : Nat} {vs : List Value} {ty : FieldType} (hty : newarray.typeOf aty = ty) (hvs : List.replicate n.toNatClampNeg (defaultValue ty) = vs) (w : (Cond.arrayClass ty).before a0 Z = true) (hn : 0 ≤ n.toInt) (hcap : n.toInt ≤ cap) (hb8 : cap * 8 ≤ 536870912) (hc : cells + 1 ≤ R.cells) (hl : slots + cap ≤ R.slots) (hd : decode bytes pc = .ok (.newarray aty, 2)) (hp : pc' = pc + 2) (g : ∀ T' h' a, St p l e R s m args below meth c h0 ws T' h' (cells + 1) (slots + cap) → a = h.size → Ext h h' → h0.size ≤ a → VA Z h' a ty vs → Go p e below s K N h0 ws Q T' (mkF m pc' Ls (.ref a :: st))) : Go p e below s K N h0 ws Q T (mkF m pc Ls (.int n :: st)) := by
  subst hp; subst hty; subst hvs; obtain ⟨L, X, eT, KK, FF⟩ := X
  have hn' : ¬ n < 0 := by rw [Int32.lt_iff_toInt_lt, show (0 : Int32).toInt = 0 from rfl]; omega
  obtain ⟨T', h', cA, X', e', E, A, k⟩ := newP X B.1 B.2.1 w eT (g := mkF m pc Ls (.int n :: st)) rfl (hb B.2.2.1 hd) rfl hn' (cap := cap) (by simp only [Int32.toNatClampNeg]; omega) hb8 hc hl
  exact Go.to k (g T' h' _ ⟨_, X', e', KK.ext E, FF⟩ rfl E KK.1 (VA.new A hn'))
theorem gget (B : Fix p Z s m meth c bytes maxL own nm ret) (X : St p l e R s m args below meth c h0 ws T h cells slots) {a : Addr} {i : Nat} {C n d : String} {v : Value} (w : (Cond.fieldLink own i C n d).before a0 Z = true) (F : Fld Z h a C n d v) (hd : decode bytes pc = .ok (.getfield i, 3)) (hp : pc' = pc + 3) (g : ∀ T', St p l e R s m args below meth c h0 ws T' h cells slots → Go p e below s K N h0 ws Q T' (mkF m pc' Ls (v :: st))) : Go p e below s K N h0 ws Q T (mkF m pc Ls (.ref a :: st)) := by
  subst hp; obtain ⟨L, X, eT, r⟩ := X
  obtain ⟨T', X', e', k⟩ := getF X B.1 B.2.1 B.2.2.2.2.1 (host := "") (Or.inl w) Via.refl eT F (g := mkF m pc Ls (.ref a :: st)) rfl rfl (hb B.2.2.1 hd)
  exact Go.to k (g T' ⟨L, X', e', r⟩)
theorem gput (B : Fix p Z s m meth c bytes maxL own nm ret) (X : St p l e R s m args below meth c h0 ws T h cells slots) {a : Addr} {i kk : Nat} {C O n d : String} {ty : FieldType} {v old : Value} (w : (Cond.fieldLink own i O n d).before a0 Z = true) (F : Fld Z h a O n d old) (E : Exa Z h a C) (L : (Cond.lays C O n d).before a0 Z = true ∨ ((Cond.laysFinal C O n d).before a0 Z = true ∧ own = O ∧ nm = "<init>")) (wi : (Cond.instantiable C kk).before a0 Z = true) (hty : parseFieldDescriptor d = some ty) (hn : narrow ty v = v) (hf : fits ty v = true) (ha : a ∈ ws ∨ h0.size ≤ a) (hd : decode bytes pc = .ok (.putfield i, 3)) (hp : pc' = pc + 3) (g : ∀ T' h', St p l e R s m args below meth c h0 ws T' h' cells slots → Wr h h' a (Jvm.RoadKit.slotOf Z O n d) v → Go p e below s K N h0 ws Q T' (mkF m pc' Ls st)) : Go p e below s K N h0 ws Q T (mkF m pc Ls (v :: .ref a :: st)) := by
  subst hp; obtain ⟨L0, X, eT, KK, FF⟩ := X
  obtain ⟨T', h', X', e', W, k⟩ := putF X B.1 B.2.1 B.2.2.2.2.1 (host := "") (Or.inl w) Via.refl eT F E (L.imp id fun q => ⟨q.1, q.2.1, B.2.2.2.2.2.1.trans q.2.2⟩) wi hty hn hf (g := mkF m pc Ls (v :: .ref a :: st)) rfl rfl (hb B.2.2.1 hd)
  exact Go.to k (g T' h' ⟨_, X', e', KK.wr W ha, fun y hy => (List.mem_append.mp hy).elim (FF y) fun q => by cases List.mem_singleton.mp q; exact ha⟩ W)
theorem gnew (B : Fix p Z s m meth c bytes maxL own nm ret) (X : St p l e R s m args below meth c h0 ws T h cells slots) {i n : Nat} {C : String} (w : (Cond.classLink own i C).before a0 Z = true) (wi : (Cond.instantiable C n).before a0 Z = true) (wz : (Cond.initialized C).before a0 Z = true) (hc : cells + 1 ≤ R.cells) (hl : slots + n ≤ R.slots) (hd : decode bytes pc = .ok (.new i, 3)) (hp : pc' = pc + 3) (g : ∀ T' h' a, St p l e R s m args below meth c h0 ws T' h' (cells + 1) (slots + n) → a = h.size → Ext h h' → h0.size ≤ a → Exa Z h' a C → (∀ {O nm d : String} {ty : FieldType}, Laid Z a0 C O nm d → parseFieldDescriptor d = some ty → Fld Z h' a O nm d (defaultValue ty)) → Go p e below s K N h0 ws Q T' (mkF m pc' Ls (.ref a :: st))) : Go p e below s K N h0 ws Q T (mkF m pc Ls st) := by
  subst hp; obtain ⟨L0, X, eT, KK, FF⟩ := X
  obtain ⟨T', h', X', e', E, A, D, -, k⟩ := newO X B.1 B.2.1 B.2.2.2.2.1 w wi wz eT (g := mkF m pc Ls st) rfl (hb B.2.2.1 hd) hc hl
  exact Go.to k (g T' h' _ ⟨_, X', e', KK.ext E, FF⟩ rfl E KK.1 A D)
theorem ginitO (B : Fix p Z s m meth c bytes maxL own nm ret) (X : St p l e R s m args below meth c h0 ws T h cells slots) {a : Addr} {i W : Nat} (w1 : (Cond.methodLink own i Lib.objectInit).before a0 Z = true) (w2 : (Cond.instanceMethod Lib.objectInit).before a0 Z = true) (w3 : (Cond.code Lib.objectInit ⟨#[0xb1]⟩ 1 none).before a0 Z = true) (hsz : Ls.size = maxL) (hf : 1 ≤ R.frames) (hW : (st.map fun v => v.category).sum ≤ W) (hl : W + 12 ≤ R.locals) (hd : decode bytes pc = .ok (.invokespecial i, 3)) (hp : pc' = pc + 3) (g : ∀ T', St p l e R s m args below meth c h0 ws T' h cells slots → Go p e below s K N h0 ws Q T' (mkF m pc' Ls st)) : Go p e below s K N h0 ws Q T (mkF m pc Ls (.ref a :: st)) := by
  subst hp; obtain ⟨L0, X, eT, r⟩ := X
  obtain ⟨T', X', e', k⟩ := initO X B.1 B.2.1 B.2.2.2.2.1 w1 w2 w3 eT (g := mkF m pc Ls (.ref a :: st)) rfl (hsz.trans B.2.2.2.1.symm) rfl (hb B.2.2.1 hd) hf (W := W) (by show 2 * 0 + _ ≤ _; rw [Nat.mul_zero, Nat.zero_add]; exact hW) hl
  exact Go.to k (g T' ⟨L0, X', e', r⟩)
theorem gcallS (B : Fix p Z s m meth c bytes maxL own nm ret) (X : St p l e R s m args below meth c h0 ws T h cells slots) {y : MethodName} {bytes' : ByteArray} {maxL' : Nat} {ret' : Option FieldType} {rm : Room} {ws' : List Addr} {Q' : Option Value → Heap → Prop} {stk argsL : List Value} {i W : Nat} {ps : List FieldType} {rr : Option FieldType}  (w1 : (Cond.methodLink own i y).before a0 Z = true) (w2 : (Cond.static y).before a0 Z = true) (w3 : (Cond.initialized y.cls).before a0 Z = true) (w4 : (Cond.code y bytes' maxL' ret').before a0 Z = true) (hy : y.cls ≠ "java/lang/invoke/MethodHandle" ∧ y.cls ≠ "java/lang/invoke/VarHandle") (M : Meth l Z y bytes' maxL' ret' rm argsL.toArray h ws' Q') (hpd : parseMethodDescriptor y.desc = some ⟨ps, rr⟩) (hlen : argsL.length = ps.length) (hstk : stk = argsL.reverse ++ st) (hsz : Ls.size = maxL) (hW : (st.map fun v => v.category).sum ≤ W) (hfr : rm.frames + 1 ≤ R.frames) (hlo : W + (maxL' + 11) + rm.locals ≤ R.locals) (hcs : cells + rm.cells ≤ R.cells) (hss : slots + rm.slots ≤ R.slots) (hws : ∀ x ∈ ws', x ∈ ws ∨ h0.size ≤ x) (hd : decode bytes pc = .ok (.invokestatic i, 3)) (hp : pc' = pc + 3)
    (g : ∀ T' h' v, St p l e R s m args below meth c h0 ws T' h' (cells + rm.cells) (slots + rm.slots) → Keep h h' ws' → Q' v h' → Go p e below s K N h0 ws Q T' (mkF m pc' Ls (v.toList ++ st))) : Go p e below s K N h0 ws Q T (mkF m pc Ls stk) := by
  subst hp; subst hstk; obtain ⟨L0, X, eT, KK, FF⟩ := X
  obtain ⟨v2, _, ⟨T2, L2, c2, n2⟩, -, X2, ⟨Lc2, hq, l2, y2, z2⟩, k2⟩ := Jvm.LawKit.callS X B.1 (y := y) B.2.2.2.2.1 (mvT B.2.1 w1) (mvT B.2.1 w2) (mvT B.2.1 w3) (mvT B.2.1 w4) hy (backOf (W := W) (Q := fun v h' L => Q' v h' ∧ Keep h h' ws' ∧ FrW h ws' L) (M []) B.2.1 w4 w3 hfr hlo) (g := mkF m pc Ls (argsL.reverse ++ st)) rfl (hsz.trans B.2.2.2.1.symm) (argsL := argsL) (rest := st) (lenOf hpd hlen) rfl (by show 2 * 0 + _ ≤ _; rw [Nat.mul_zero, Nat.zero_add]; exact hW) (hb B.2.2.1 hd) (fun _ _ => ⟨rfl, eT, hcs, hss⟩)
  dsimp only [Pt.U, Pt.locs, Pt.cells, Pt.slots] at X2 l2 y2 z2 k2 hq
  subst l2 y2 z2
  refine Go.to k2 (g T2 T2.heap v2 ⟨_, X2, rfl, KK.trans hq.2.1 hws, fun y hy => (List.mem_append.mp hy).elim (FF y) fun q => ?_⟩ hq.2.1 hq.1)
  exact (hq.2.2 y q).elim (fun z => hws _ z) fun z => Or.inr (Nat.le_trans KK.1 z)
theorem gcallI (B : Fix p Z s m meth c bytes maxL own nm ret) (X : St p l e R s m args below meth c h0 ws T h cells slots) {y : MethodName} {bytes' : ByteArray} {maxL' : Nat} {ret' : Option FieldType} {rm : Room} {ws' : List Addr} {Q' : Option Value → Heap → Prop} {stk argsL : List Value} {i W : Nat} {ps : List FieldType} {rr : Option FieldType} {a : Addr} (hni : y.name = "<init>") (hret : ret' = none) (w1 : (Cond.methodLink own i y).before a0 Z = true) (w2 : (Cond.instanceMethod y).before a0 Z = true) (w3 : (Cond.initialized y.cls).before a0 Z = true) (w4 : (Cond.code y bytes' maxL' ret').before a0 Z = true) (hy : y.cls ≠ "java/lang/invoke/MethodHandle" ∧ y.cls ≠ "java/lang/invoke/VarHandle") (M : Meth l Z y bytes' maxL' ret' rm (.ref a :: argsL).toArray h ws' Q') (hpd : parseMethodDescriptor y.desc = some ⟨ps, rr⟩) (hlen : argsL.length = ps.length) (hstk : stk = argsL.reverse ++ .ref a :: st) (hsz : Ls.size = maxL) (hW : (st.map fun v => v.category).sum ≤ W) (hfr : rm.frames + 1 ≤ R.frames) (hlo : W + (maxL' + 11) + rm.locals ≤ R.locals) (hcs : cells + rm.cells ≤ R.cells) (hss : slots + rm.slots ≤ R.slots) (hws : ∀ x ∈ ws', x ∈ ws ∨ h0.size ≤ x) (hd : decode bytes pc = .ok (.invokespecial i, 3)) (hp : pc' = pc + 3)
    (g : ∀ T' h' v, St p l e R s m args below meth c h0 ws T' h' (cells + rm.cells) (slots + rm.slots) → Keep h h' ws' → Q' v h' → Go p e below s K N h0 ws Q T' (mkF m pc' Ls (v.toList ++ st))) : Go p e below s K N h0 ws Q T (mkF m pc Ls stk) := by
  subst hp; subst hstk; obtain ⟨L0, X, eT, KK, FF⟩ := X
  subst hret
  obtain ⟨v2, _, ⟨T2, L2, c2, n2⟩, -, X2, ⟨Lc2, hq, l2, y2, z2⟩, k2⟩ := X.specialBack B.1 (y := y) hni B.2.2.2.2.1 (mvT B.2.1 w1) (mvT B.2.1 w2) (mvT B.2.1 w4) hy (backOf (W := W) (Q := fun v h' L => Q' v h' ∧ Keep h h' ws' ∧ FrW h ws' L) (M []) B.2.1 w4 w3 hfr hlo) (g := mkF m pc Ls (argsL.reverse ++ .ref a :: st)) rfl (hsz.trans B.2.2.2.1.symm) (Steps.refl _) (a := a) (argsL := argsL) (rest := st) (lenOf hpd hlen) rfl (by show 2 * 0 + _ ≤ _; rw [Nat.mul_zero, Nat.zero_add]; exact hW) (hb B.2.2.1 hd) (fun _ _ => ⟨rfl, eT, hcs, hss⟩)
  dsimp only [Pt.U, Pt.locs, Pt.cells, Pt.slots] at X2 l2 y2 z2 k2 hq
  subst l2 y2 z2
  refine Go.to (fun t kt => k2.trans kt) (g T2 T2.heap v2 ⟨_, X2, rfl, KK.trans hq.2.1 hws, fun y hy => (List.mem_append.mp hy).elim (FF y) fun q => ?_⟩ hq.2.1 hq.1)
  exact (hq.2.2 y q).elim (fun z => hws _ z) fun z => Or.inr (Nat.le_trans KK.1 z)
theorem gcallV (B : Fix p Z s m meth c bytes maxL own nm ret) (X : St p l e R s m args below meth c h0 ws T h cells slots) {y : MethodName} {bytes' : ByteArray} {maxL' : Nat} {ret' : Option FieldType} {rm : Room} {ws' : List Addr} {Q' : Option Value → Heap → Prop} {stk argsL : List Value} {i W : Nat} {ps : List FieldType} {rr : Option FieldType} {a : Addr} {z : MethodName} {C : String} (E : Exa Z h a C) (w1 : (Cond.methodLink own i y).before a0 Z = true) (w2 : (Cond.declares y).before a0 Z = true) (w5 : (Cond.selects C y z).before a0 Z = true) (w6 : (Cond.instanceMethod z).before a0 Z = true) (w3 : (Cond.initialized z.cls).before a0 Z = true) (w4 : (Cond.code z bytes' maxL' ret').before a0 Z = true) (hyz : y = z) (hy : y.cls ≠ "java/lang/invoke/MethodHandle" ∧ y.cls ≠ "java/lang/invoke/VarHandle") (M : Meth l Z z bytes' maxL' ret' rm (.ref a :: argsL).toArray h ws' Q') (hpd : parseMethodDescriptor y.desc = some ⟨ps, rr⟩) (hlen : argsL.length = ps.length) (hstk : stk = argsL.reverse ++ .ref a :: st) (hsz : Ls.size = maxL) (hW : (st.map fun v => v.category).sum ≤ W) (hfr : rm.frames + 1 ≤ R.frames) (hlo : W + (maxL' + 11) + rm.locals ≤ R.locals) (hcs : cells + rm.cells ≤ R.cells) (hss : slots + rm.slots ≤ R.slots) (hws : ∀ x ∈ ws', x ∈ ws ∨ h0.size ≤ x) (hd : decode bytes pc = .ok (.invokevirtual i, 3)) (hp : pc' = pc + 3)
    (g : ∀ T' h' v, St p l e R s m args below meth c h0 ws T' h' (cells + rm.cells) (slots + rm.slots) → Keep h h' ws' → Q' v h' → Go p e below s K N h0 ws Q T' (mkF m pc' Ls (v.toList ++ st))) : Go p e below s K N h0 ws Q T (mkF m pc Ls stk) := by
  subst hp; subst hstk; obtain ⟨L0, X, eT, KK, FF⟩ := X
  subst hyz
  obtain ⟨cq, kq, qa, qb, qc⟩ := isOf B.2.1 eT E
  obtain ⟨v2, _, ⟨T2, L2, c2, n2⟩, -, X2, ⟨Lc2, hq, l2, y2, z2⟩, k2⟩ := X.virtualBack B.1 (y := y) (z := y) B.2.2.2.2.1 (mvT B.2.1 w1) (mvT B.2.1 w2) (notFace_of_selects (args := #[]) (mvT B.2.1 w5)) (mvT B.2.1 w5) (mvT B.2.1 w6) hy (backOf (W := W) (Q := fun v h' L => Q' v h' ∧ Keep h h' ws' ∧ FrW h ws' L) (M []) B.2.1 w4 w3 hfr hlo) qa qc (g := mkF m pc Ls (argsL.reverse ++ .ref a :: st)) rfl (hsz.trans B.2.2.2.1.symm) (Steps.refl _) (argsL := argsL) (rest := st) (lenOf hpd hlen) rfl (by show 2 * 0 + _ ≤ _; rw [Nat.mul_zero, Nat.zero_add]; exact hW) (hb B.2.2.1 hd) (fun _ _ => ⟨rfl, eT, hcs, hss⟩)
  dsimp only [Pt.U, Pt.locs, Pt.cells, Pt.slots] at X2 l2 y2 z2 k2 hq
  subst l2 y2 z2
  refine Go.to (fun t kt => k2.trans kt) (g T2 T2.heap v2 ⟨_, X2, rfl, KK.trans hq.2.1 hws, fun y hy => (List.mem_append.mp hy).elim (FF y) fun q => ?_⟩ hq.2.1 hq.1)
  exact (hq.2.2 y q).elim (fun z => hws _ z) fun z => Or.inr (Nat.le_trans KK.1 z)
theorem gcallP (B : Fix p Z s m meth c bytes maxL own nm ret) (X : St p l e R s m args below meth c h0 ws T h cells slots) {y : MethodName} {bytes' : ByteArray} {maxL' : Nat} {ret' : Option FieldType} {rm : Room} {ws' : List Addr} {Q' : Option Value → Heap → Prop} {stk argsL : List Value} {i W : Nat} {ps : List FieldType} {rr : Option FieldType} {a : Addr} {C : String} (E : Exa Z h a C) (w1 : (Cond.methodLink own i y).before a0 Z = true) (w2 : (Cond.instanceMethod y).before a0 Z = true) {nn : Nat} (w5 : (Cond.instantiable y.cls nn).before a0 Z = true) (w6 : (Cond.privateMethod y).before a0 Z = true) (w3 : (Cond.initialized y.cls).before a0 Z = true) (w4 : (Cond.code y bytes' maxL' ret').before a0 Z = true) (hy : y.cls ≠ "java/lang/invoke/MethodHandle" ∧ y.cls ≠ "java/lang/invoke/VarHandle") (M : Meth l Z y bytes' maxL' ret' rm (.ref a :: argsL).toArray h ws' Q') (hpd : parseMethodDescriptor y.desc = some ⟨ps, rr⟩) (hlen : argsL.length = ps.length) (hstk : stk = argsL.reverse ++ .ref a :: st) (hsz : Ls.size = maxL) (hW : (st.map fun v => v.category).sum ≤ W) (hfr : rm.frames + 1 ≤ R.frames) (hlo : W + (maxL' + 11) + rm.locals ≤ R.locals) (hcs : cells + rm.cells ≤ R.cells) (hss : slots + rm.slots ≤ R.slots) (hws : ∀ x ∈ ws', x ∈ ws ∨ h0.size ≤ x) (hd : decode bytes pc = .ok (.invokevirtual i, 3)) (hp : pc' = pc + 3)
    (g : ∀ T' h' v, St p l e R s m args below meth c h0 ws T' h' (cells + rm.cells) (slots + rm.slots) → Keep h h' ws' → Q' v h' → Go p e below s K N h0 ws Q T' (mkF m pc' Ls (v.toList ++ st))) : Go p e below s K N h0 ws Q T (mkF m pc Ls stk) := by
  subst hp; subst hstk; obtain ⟨L0, X, eT, KK, FF⟩ := X
  obtain ⟨cq, q, q'⟩ := E.cell
  obtain ⟨ci, ki, i1, i2, -, i4, -⟩ := Cond.instantiable_spec (mvT (args := args) B.2.1 w5)
  have w5' : (Cond.selects y.cls y y).before args s = true := selects_self_of_private i1 i2 (by simp only [Bool.or_eq_false_iff] at i4; exact i4.1) (Cond.privateMethod_at (mvP B.2.1 w6 (args := #[]))) (mvT B.2.1 w2) hy
  obtain ⟨v2, _, ⟨T2, L2, c2, n2⟩, -, X2, ⟨Lc2, hq, l2, y2, z2⟩, k2⟩ := X.privateBack B.1 (y := y) B.2.2.2.2.1 (mvT B.2.1 w1) (mvT B.2.1 w2) w5' (Cond.privateMethod_at (mvP B.2.1 w6 (args := #[]))) (mvT B.2.1 w4) hy (backOf (W := W) (Q := fun v h' L => Q' v h' ∧ Keep h h' ws' ∧ FrW h ws' L) (M []) B.2.1 w4 w3 hfr hlo) (g := mkF m pc Ls (argsL.reverse ++ .ref a :: st)) rfl (hsz.trans B.2.2.2.1.symm) (Steps.refl _) (a := a) (by rw [eT]; exact q) q' (argsL := argsL) (rest := st) (lenOf hpd hlen) rfl (by show 2 * 0 + _ ≤ _; rw [Nat.mul_zero, Nat.zero_add]; exact hW) (hb B.2.2.1 hd) (fun _ _ => ⟨rfl, eT, hcs, hss⟩)
  dsimp only [Pt.U, Pt.locs, Pt.cells, Pt.slots] at X2 l2 y2 z2 k2 hq
  subst l2 y2 z2
  refine Go.to (fun t kt => k2.trans kt) (g T2 T2.heap v2 ⟨_, X2, rfl, KK.trans hq.2.1 hws, fun y hy => (List.mem_append.mp hy).elim (FF y) fun q => ?_⟩ hq.2.1 hq.1)
  exact (hq.2.2 y q).elim (fun z => hws _ z) fun z => Or.inr (Nat.le_trans KK.1 z)
theorem pureG {rm : Room} {r : Value} {ws' : List Addr} (hc : rm.cells = 0) (hs : rm.slots = 0) (g : ∀ T', St p l e R s m args below meth c h0 ws T' h cells slots → Go p e below s K N h0 ws Q T' (mkF m pc' Ls (r :: st))) : ∀ T' h' v, St p l e R s m args below meth c h0 ws T' h' (cells + rm.cells) (slots + rm.slots) → Keep h h' ws' → (v = some r ∧ h' = h) → Go p e below s K N h0 ws Q T' (mkF m pc' Ls (v.toList ++ st)) := by
  rintro T' h' v X k ⟨rfl, rfl⟩
  rw [hc, hs] at X; exact g T' X
theorem pureV {rm : Room} {ws' : List Addr} (hc : rm.cells = 0) (hs : rm.slots = 0) (g : ∀ T', St p l e R s m args below meth c h0 ws T' h cells slots → Go p e below s K N h0 ws Q T' (mkF m pc' Ls st)) : ∀ T' h' v, St p l e R s m args below meth c h0 ws T' h' (cells + rm.cells) (slots + rm.slots) → Keep h h' ws' → (v = none ∧ h' = h) → Go p e below s K N h0 ws Q T' (mkF m pc' Ls (v.toList ++ st)) := by
  rintro T' h' v X k ⟨rfl, rfl⟩
  rw [hc, hs] at X; exact g T' X
theorem joinH {F : JFrame} {P : Heap → Prop} {cells' slots' : Nat} (b : (∀ T' h', St p l e R s m args below meth c h0 ws T' h' cells' slots' → P h' → Go p e below s K N h0 ws Q T' F) → Go p e below s K N h0 ws Q T (mkF m pc Ls st)) (k : ∀ T' h', St p l e R s m args below meth c h0 ws T' h' cells' slots' → P h' → Go p e below s K N h0 ws Q T' F) : Go p e below s K N h0 ws Q T (mkF m pc Ls st) := b k
theorem joinG {α : Type} (B : Fix p Z s m meth c bytes maxL own nm ret) (X : St p l e R s m args below meth c h0 ws T h cells slots) {F : α → JFrame} {r : α} {f : JFrame} (b : (∀ T', St p l e R s m args below meth c h0 ws T' h cells slots → Go p e below s K N h0 ws Q T' (F r)) → Go p e below s K N h0 ws Q T f) (k : ∀ T', St p l e R s m args below meth c h0 ws T' h cells slots → Go p e below s K N h0 ws Q T' (F r)) : Go p e below s K N h0 ws Q T f := b k
theorem nbb (x : Int32) : x.toInt8.toInt32.toInt8.toInt32 = x.toInt8.toInt32 := by simp
theorem nb (x : Int32) : nar .byte x.toInt8.toInt32 = x.toInt8.toInt32 := by simp [nar]
theorem retI (X : Stand p l e R s m args below meth c T locs cells slots) (hx : p.tables.exec = Jvm.exec) {z : Int32} {rest : List Value} (hret : meth.sig.returnType = some .int) (hd : decode c.code pc = .ok (.ireturn, 1)) {fs : List Frame}
    (hl : ∀ (f : JFrame) (acts : List Action), f.method = m → f.locked = none → f.entered = [] → (doReturn e (T.setTop f) acts (some (.int z))).1 = T.setFrames fs) : Steps p.tables e below (T.setTop (mkF m pc Ls (.int z :: rest))) (T.setFrames fs) := by
  have hm' : T.vm.method? m = some meth := X.method'
  have hn : narrow .int (.int z) = .int z := rfl
  show Steps p.tables e below (T.setTop { method := m, pc := pc, locals := Ls, stack := _ :: rest, locked := none }) _
  jvm_step X.here [X.here.top, hx, hd, hm', hret, hn]
  first | (intro acts; rw [hl _ acts rfl rfl rfl]) | rw [hl _ _ rfl rfl rfl]
  exact Steps.refl _
theorem gretI (B : Fix p Z s m meth c bytes maxL own nm (some .int)) (X : St p l e R s m args below meth c h0 ws T h cells slots) {z : Int32} (hd : decode bytes pc = .ok (.ireturn, 1)) (hk : cells ≤ K) (hn : slots ≤ N) (hQ : Q (some (.int z)) h) : Go p e below s K N h0 ws Q T (mkF m pc Ls (.int z :: st)) := by
  obtain ⟨L0, X, eT, KK, FF⟩ := X; have hlk := B.2.2.2.2.2.2.2; have hrt := B.2.2.2.2.2.2.1
  obtain ⟨fs, hr, hrun, hended, hW, hsame⟩ := X.leave (v := some (.int z)) (fun h => by rw [hrt] at h; cases h) hlk
  exact ⟨_, _, retI X B.1 hrt (hb B.2.2.1 hd) hr, hrun, hended, _, _, rfl, ⟨by show Q _ T.heap; rw [eT]; exact hQ, by show Keep h0 T.heap ws; rw [eT]; exact KK, FF⟩, ⟨_, rfl⟩, hW, hsame.mono hk hn⟩
theorem gretN {t : FieldType} (B : Fix p Z s m meth c bytes maxL own nm (some t)) (X : St p l e R s m args below meth c h0 ws T h cells slots) {z z' : Int32} (ht : t = .boolean ∨ t = .byte ∨ t = .char ∨ t = .short) (hz : nar t z = z') (hd : decode bytes pc = .ok (.ireturn, 1)) (hk : cells ≤ K) (hn : slots ≤ N) (hQ : Q (some (.int z')) h) : Go p e below s K N h0 ws Q T (mkF m pc Ls (.int z :: st)) := by
  subst hz; obtain ⟨L0, X, eT, KK, FF⟩ := X; have hlk := B.2.2.2.2.2.2.2; have hrt := B.2.2.2.2.2.2.1
  obtain ⟨fs, hr, hrun, hended, hW, hsame⟩ := X.leave (v := some (.int (nar t z))) (fun h => by rw [hrt] at h; cases h) hlk
  exact ⟨_, _, retN X B.1 hrt ht (hb B.2.2.1 hd) hr, hrun, hended, _, _, rfl, ⟨by show Q _ T.heap; rw [eT]; exact hQ, by show Keep h0 T.heap ws; rw [eT]; exact KK, FF⟩, ⟨_, rfl⟩, hW, hsame.mono hk hn⟩
theorem gretL (B : Fix p Z s m meth c bytes maxL own nm (some .long)) (X : St p l e R s m args below meth c h0 ws T h cells slots) {z : Int64} (hd : decode bytes pc = .ok (.lreturn, 1)) (hk : cells ≤ K) (hn : slots ≤ N) (hQ : Q (some (.long z)) h) : Go p e below s K N h0 ws Q T (mkF m pc Ls (.long z :: st)) := by
  obtain ⟨L0, X, eT, KK, FF⟩ := X; have hlk := B.2.2.2.2.2.2.2; have hrt := B.2.2.2.2.2.2.1
  obtain ⟨fs, hr, hrun, hended, hW, hsame⟩ := X.leave (v := some (.long z)) (fun h => by rw [hrt] at h; cases h) hlk
  exact ⟨_, _, retOut X B.1 hrt rfl (Or.inr (Or.inl ⟨rfl, rfl, _, rfl⟩)) (hb B.2.2.1 hd) hr, hrun, hended, _, _, rfl, ⟨by show Q _ T.heap; rw [eT]; exact hQ, by show Keep h0 T.heap ws; rw [eT]; exact KK, FF⟩, ⟨_, rfl⟩, hW, hsame.mono hk hn⟩
theorem gretA {t : FieldType} (B : Fix p Z s m meth c bytes maxL own nm (some t)) (X : St p l e R s m args below meth c h0 ws T h cells slots) {a : Addr} (ht : t.isReference = true) (hnn : narrow t (.ref a) = .ref a) (hd : decode bytes pc = .ok (.areturn, 1)) (hk : cells ≤ K) (hn : slots ≤ N) (hQ : Q (some (.ref a)) h) : Go p e below s K N h0 ws Q T (mkF m pc Ls (.ref a :: st)) := by
  obtain ⟨L0, X, eT, KK, FF⟩ := X; have hlk := B.2.2.2.2.2.2.2; have hrt := B.2.2.2.2.2.2.1
  obtain ⟨fs, hr, hrun, hended, hW, hsame⟩ := X.leave (v := some (.ref a)) (fun h => by rw [hrt] at h; cases h) hlk
  exact ⟨_, _, retOut X B.1 hrt hnn (Or.inr (Or.inr (Or.inr (Or.inr ⟨rfl, ht, rfl⟩)))) (hb B.2.2.1 hd) hr, hrun, hended, _, _, rfl, ⟨by show Q _ T.heap; rw [eT]; exact hQ, by show Keep h0 T.heap ws; rw [eT]; exact KK, FF⟩, ⟨_, rfl⟩, hW, hsame.mono hk hn⟩
theorem gretV (B : Fix p Z s m meth c bytes maxL own nm none) (X : St p l e R s m args below meth c h0 ws T h cells slots)  (hd : decode bytes pc = .ok (.return_, 1)) (hk : cells ≤ K) (hn : slots ≤ N) (hQ : Q (none) h) : Go p e below s K N h0 ws Q T (mkF m pc Ls []) := by
  obtain ⟨L0, X, eT, KK, FF⟩ := X; have hlk := B.2.2.2.2.2.2.2; have hrt := B.2.2.2.2.2.2.1
  obtain ⟨fs, hr, hrun, hended, hW, hsame⟩ := X.leave (v := none) (fun h => rfl) hlk
  exact ⟨_, _, X.returnOut B.1 hrt (hb B.2.2.1 hd) hr, hrun, hended, _, _, rfl, ⟨by show Q _ T.heap; rw [eT]; exact hQ, by show Keep h0 T.heap ws; rw [eT]; exact KK, FF⟩, ⟨_, rfl⟩, hW, hsame.mono hk hn⟩
end Go
end Jvm.OwnKit
namespace Jvm.Pilot.@@N@@
open Jvm Jvm.ClassFile Sem Op Lib Jvm.Free Jvm.Stand Jvm.LawKit Jvm.RoadKit Jvm.OwnKit Bundle Jvm.Pilot.@@N@@.Jvm.D
def Dq (Z : State) (h : Heap) (a : Addr) (v0 v1 v2 v3 v4 : Value) : Prop := Exa Z h a "com/example/glouton/glouton/consistency/DistinctQueue" ∧ Fld Z h a "com/example/glouton/glouton/consistency/DistinctQueue" "ring" "[I" v0 ∧ Fld Z h a "com/example/glouton/glouton/consistency/DistinctQueue" "held" "[Z" v1 ∧ Fld Z h a "com/example/glouton/glouton/consistency/DistinctQueue" "head" "I" v2 ∧ Fld Z h a "com/example/glouton/glouton/consistency/DistinctQueue" "tail" "I" v3 ∧ Fld Z h a "com/example/glouton/glouton/consistency/DistinctQueue" "size" "I" v4
theorem Dq.lt {Z : State} {h : Heap} {a : Addr} {v0 v1 v2 v3 v4 : Value} (F : Dq Z h a v0 v1 v2 v3 v4) : a < h.size := F.1.lt
theorem Dq.ext {Z : State} {h h' : Heap} {a : Addr} {v0 v1 v2 v3 v4 : Value} (F : Dq Z h a v0 v1 v2 v3 v4) (E0 : Ext h h') : Dq Z h' a v0 v1 v2 v3 v4 := by obtain ⟨E, f0, f1, f2, f3, f4⟩ := F; exact ⟨E.ext E0, f0.ext E0, f1.ext E0, f2.ext E0, f3.ext E0, f4.ext E0⟩
theorem Dq.keep {Z : State} {h h' : Heap} {a : Addr} {v0 v1 v2 v3 v4 : Value} {ws : List Addr} (F : Dq Z h a v0 v1 v2 v3 v4) (K : Keep h h' ws) (q : a ∉ ws) : Dq Z h' a v0 v1 v2 v3 v4 := by obtain ⟨E, f0, f1, f2, f3, f4⟩ := F; exact ⟨E.keep K, f0.keep K q, f1.keep K q, f2.keep K q, f3.keep K q, f4.keep K q⟩
theorem Dq.other {Z : State} {h h' : Heap} {a : Addr} {v0 v1 v2 v3 v4 : Value} {b : Addr} {v : Value} {sl : Nat} (F : Dq Z h b v0 v1 v2 v3 v4) (W : Wr h h' a sl v) (q : b ≠ a) : Dq Z h' b v0 v1 v2 v3 v4 := by obtain ⟨E, f0, f1, f2, f3, f4⟩ := F; exact ⟨E.wr W, f0.other W (Or.inl q), f1.other W (Or.inl q), f2.other W (Or.inl q), f3.other W (Or.inl q), f4.other W (Or.inl q)⟩
theorem Dq.set0 {Z : State} {h h' : Heap} {a : Addr} {v0 v1 v2 v3 v4 : Value} {v : Value} {a0 : Array Value} (hw : ∀ d ∈ tables_1, d.before a0 Z = true) (F : Dq Z h a v0 v1 v2 v3 v4) (W : Wr h h' a (Jvm.RoadKit.slotOf Z "com/example/glouton/glouton/consistency/DistinctQueue" "ring" "[I") v) : Dq Z h' a v v1 v2 v3 v4 := by obtain ⟨E, f0, f1, f2, f3, f4⟩ := F; exact ⟨E.wr W, f0.same W, f1.other W (Or.inr (slot_ne (Or.inr (hw _ (List.mem_of_getElem? (i := 15) rfl))) (Or.inr (hw _ (List.mem_of_getElem? (i := 12) rfl))) (by decide) (t := (.array .boolean)) (t' := (.array .int)) (by decide) (by decide))), f2.other W (Or.inr (slot_ne (Or.inl (hw _ (List.mem_of_getElem? (i := 39) rfl))) (Or.inr (hw _ (List.mem_of_getElem? (i := 12) rfl))) (by decide) (t := .int) (t' := (.array .int)) (by decide) (by decide))), f3.other W (Or.inr (slot_ne (Or.inl (hw _ (List.mem_of_getElem? (i := 22) rfl))) (Or.inr (hw _ (List.mem_of_getElem? (i := 12) rfl))) (by decide) (t := .int) (t' := (.array .int)) (by decide) (by decide))), f4.other W (Or.inr (slot_ne (Or.inl (hw _ (List.mem_of_getElem? (i := 28) rfl))) (Or.inr (hw _ (List.mem_of_getElem? (i := 12) rfl))) (by decide) (t := .int) (t' := (.array .int)) (by decide) (by decide)))⟩
theorem Dq.set1 {Z : State} {h h' : Heap} {a : Addr} {v0 v1 v2 v3 v4 : Value} {v : Value} {a0 : Array Value} (hw : ∀ d ∈ tables_1, d.before a0 Z = true) (F : Dq Z h a v0 v1 v2 v3 v4) (W : Wr h h' a (Jvm.RoadKit.slotOf Z "com/example/glouton/glouton/consistency/DistinctQueue" "held" "[Z") v) : Dq Z h' a v0 v v2 v3 v4 := by obtain ⟨E, f0, f1, f2, f3, f4⟩ := F; exact ⟨E.wr W, f0.other W (Or.inr (slot_ne (Or.inr (hw _ (List.mem_of_getElem? (i := 12) rfl))) (Or.inr (hw _ (List.mem_of_getElem? (i := 15) rfl))) (by decide) (t := (.array .int)) (t' := (.array .boolean)) (by decide) (by decide))), f1.same W, f2.other W (Or.inr (slot_ne (Or.inl (hw _ (List.mem_of_getElem? (i := 39) rfl))) (Or.inr (hw _ (List.mem_of_getElem? (i := 15) rfl))) (by decide) (t := .int) (t' := (.array .boolean)) (by decide) (by decide))), f3.other W (Or.inr (slot_ne (Or.inl (hw _ (List.mem_of_getElem? (i := 22) rfl))) (Or.inr (hw _ (List.mem_of_getElem? (i := 15) rfl))) (by decide) (t := .int) (t' := (.array .boolean)) (by decide) (by decide))), f4.other W (Or.inr (slot_ne (Or.inl (hw _ (List.mem_of_getElem? (i := 28) rfl))) (Or.inr (hw _ (List.mem_of_getElem? (i := 15) rfl))) (by decide) (t := .int) (t' := (.array .boolean)) (by decide) (by decide)))⟩
theorem Dq.set2 {Z : State} {h h' : Heap} {a : Addr} {v0 v1 v2 v3 v4 : Value} {v : Value} {a0 : Array Value} (hw : ∀ d ∈ tables_1, d.before a0 Z = true) (F : Dq Z h a v0 v1 v2 v3 v4) (W : Wr h h' a (Jvm.RoadKit.slotOf Z "com/example/glouton/glouton/consistency/DistinctQueue" "head" "I") v) : Dq Z h' a v0 v1 v v3 v4 := by obtain ⟨E, f0, f1, f2, f3, f4⟩ := F; exact ⟨E.wr W, f0.other W (Or.inr (slot_ne (Or.inr (hw _ (List.mem_of_getElem? (i := 12) rfl))) (Or.inl (hw _ (List.mem_of_getElem? (i := 39) rfl))) (by decide) (t := (.array .int)) (t' := .int) (by decide) (by decide))), f1.other W (Or.inr (slot_ne (Or.inr (hw _ (List.mem_of_getElem? (i := 15) rfl))) (Or.inl (hw _ (List.mem_of_getElem? (i := 39) rfl))) (by decide) (t := (.array .boolean)) (t' := .int) (by decide) (by decide))), f2.same W, f3.other W (Or.inr (slot_ne (Or.inl (hw _ (List.mem_of_getElem? (i := 22) rfl))) (Or.inl (hw _ (List.mem_of_getElem? (i := 39) rfl))) (by decide) (t := .int) (t' := .int) (by decide) (by decide))), f4.other W (Or.inr (slot_ne (Or.inl (hw _ (List.mem_of_getElem? (i := 28) rfl))) (Or.inl (hw _ (List.mem_of_getElem? (i := 39) rfl))) (by decide) (t := .int) (t' := .int) (by decide) (by decide)))⟩
theorem Dq.set3 {Z : State} {h h' : Heap} {a : Addr} {v0 v1 v2 v3 v4 : Value} {v : Value} {a0 : Array Value} (hw : ∀ d ∈ tables_1, d.before a0 Z = true) (F : Dq Z h a v0 v1 v2 v3 v4) (W : Wr h h' a (Jvm.RoadKit.slotOf Z "com/example/glouton/glouton/consistency/DistinctQueue" "tail" "I") v) : Dq Z h' a v0 v1 v2 v v4 := by obtain ⟨E, f0, f1, f2, f3, f4⟩ := F; exact ⟨E.wr W, f0.other W (Or.inr (slot_ne (Or.inr (hw _ (List.mem_of_getElem? (i := 12) rfl))) (Or.inl (hw _ (List.mem_of_getElem? (i := 22) rfl))) (by decide) (t := (.array .int)) (t' := .int) (by decide) (by decide))), f1.other W (Or.inr (slot_ne (Or.inr (hw _ (List.mem_of_getElem? (i := 15) rfl))) (Or.inl (hw _ (List.mem_of_getElem? (i := 22) rfl))) (by decide) (t := (.array .boolean)) (t' := .int) (by decide) (by decide))), f2.other W (Or.inr (slot_ne (Or.inl (hw _ (List.mem_of_getElem? (i := 39) rfl))) (Or.inl (hw _ (List.mem_of_getElem? (i := 22) rfl))) (by decide) (t := .int) (t' := .int) (by decide) (by decide))), f3.same W, f4.other W (Or.inr (slot_ne (Or.inl (hw _ (List.mem_of_getElem? (i := 28) rfl))) (Or.inl (hw _ (List.mem_of_getElem? (i := 22) rfl))) (by decide) (t := .int) (t' := .int) (by decide) (by decide)))⟩
theorem Dq.set4 {Z : State} {h h' : Heap} {a : Addr} {v0 v1 v2 v3 v4 : Value} {v : Value} {a0 : Array Value} (hw : ∀ d ∈ tables_1, d.before a0 Z = true) (F : Dq Z h a v0 v1 v2 v3 v4) (W : Wr h h' a (Jvm.RoadKit.slotOf Z "com/example/glouton/glouton/consistency/DistinctQueue" "size" "I") v) : Dq Z h' a v0 v1 v2 v3 v := by obtain ⟨E, f0, f1, f2, f3, f4⟩ := F; exact ⟨E.wr W, f0.other W (Or.inr (slot_ne (Or.inr (hw _ (List.mem_of_getElem? (i := 12) rfl))) (Or.inl (hw _ (List.mem_of_getElem? (i := 28) rfl))) (by decide) (t := (.array .int)) (t' := .int) (by decide) (by decide))), f1.other W (Or.inr (slot_ne (Or.inr (hw _ (List.mem_of_getElem? (i := 15) rfl))) (Or.inl (hw _ (List.mem_of_getElem? (i := 28) rfl))) (by decide) (t := (.array .boolean)) (t' := .int) (by decide) (by decide))), f2.other W (Or.inr (slot_ne (Or.inl (hw _ (List.mem_of_getElem? (i := 39) rfl))) (Or.inl (hw _ (List.mem_of_getElem? (i := 28) rfl))) (by decide) (t := .int) (t' := .int) (by decide) (by decide))), f3.other W (Or.inr (slot_ne (Or.inl (hw _ (List.mem_of_getElem? (i := 22) rfl))) (Or.inl (hw _ (List.mem_of_getElem? (i := 28) rfl))) (by decide) (t := .int) (t' := .int) (by decide) (by decide))), f4.same W⟩
theorem d4_0 : decode prog_6_method_6_code 0 = .ok (.iload_n 1, 1) := by decide +kernel
theorem d4_1 : decode prog_6_method_6_code 1 = .ok (.iconst 1, 1) := by decide +kernel
theorem d4_2 : decode prog_6_method_6_code 2 = .ok (.iadd, 1) := by decide +kernel
theorem d4_3 : decode prog_6_method_6_code 3 = .ok (.aload_n 0, 1) := by decide +kernel
theorem d4_4 : decode prog_6_method_6_code 4 = .ok (.getfield 7, 3) := by decide +kernel
theorem d4_7 : decode prog_6_method_6_code 7 = .ok (.arraylength, 1) := by decide +kernel
theorem d4_8 : decode prog_6_method_6_code 8 = .ok (.if_icmp .ne 7, 3) := by decide +kernel
theorem d4_11 : decode prog_6_method_6_code 11 = .ok (.iconst 0, 1) := by decide +kernel
theorem d4_12 : decode prog_6_method_6_code 12 = .ok (.goto 6, 3) := by decide +kernel
theorem d4_15 : decode prog_6_method_6_code 15 = .ok (.iload_n 1, 1) := by decide +kernel
theorem d4_16 : decode prog_6_method_6_code 16 = .ok (.iconst 1, 1) := by decide +kernel
theorem d4_17 : decode prog_6_method_6_code 17 = .ok (.iadd, 1) := by decide +kernel
theorem d4_18 : decode prog_6_method_6_code 18 = .ok (.ireturn, 1) := by decide +kernel
theorem pn4 : plainFor (⟨"com/example/glouton/glouton/consistency/DistinctQueue", "following", "(I)I"⟩ : MethodName) = true := plainFor_of_name (by first | (simp [plainName, overriddenIn]; done) | decide +kernel)
theorem ef4_RI (m : MethodId) (x0 : Addr) (x1 : Int32) : entryFrame m #[(.ref x0), (.int x1)] 2 = mkF m 0 #[.val (.ref x0), .val (.int x1)] [] := by first | (simp [entryFrame, mkF, argsToLocals, Value.category]; done) | rfl
def ofol (pl : Int32) (k : Int32) : Int32 := if (pl + (1 : Int32)) = k then (0 : Int32) else ((pl + (1 : Int32)))
def rmr4 : Room := { frames := 0, cells := 0, slots := 0, locals := 0 }
set_option maxRecDepth 65536 in
set_option maxHeartbeats 4000000 in
theorem mtfol (l : Launch) (Z : State) (a0 : Array Value) (hw : ∀ d ∈ tables_1, d.before a0 Z = true) (q : Addr) (pl : Int32) (r : Addr) (v1 v2 v3 v4 : Value) (vs : List Value) (N : Nat) (k : Int32) (h0 : Heap) (O : Dq Z h0 q (.ref r) v1 v2 v3 v4) (FR : VA Z h0 r .int vs) (hN : vs.length = N) (hk : k.toInt = N) : Meth l Z (⟨"com/example/glouton/glouton/consistency/DistinctQueue", "following", "(I)I"⟩ : MethodName) prog_6_method_6_code 2 (some .int) rmr4 #[(.ref q), (.int pl)] h0 [] (fun vr h' => vr = some (.int (ofol pl k)) ∧ h' = h0) := by
  refine Meth.of pn4 ?_
  intro p e s m below meth c T B X
  refine Go.entry (ef4_RI m q pl) ?_
  refine giloadN B X d4_0 rfl (pc' := 1) rfl ?_
  refine giconst B X d4_1 (v := (1 : Int32)) rfl (pc' := 2) rfl ?_
  refine giadd B X d4_2 rfl (pc' := 3) rfl ?_
  refine galoadN B X d4_3 rfl rfl (pc' := 4) rfl ?_
  refine gget B X (hw _ (List.mem_of_getElem? (i := 11) rfl)) O.2.1 d4_4 (pc' := 7) rfl fun T1 X2 => ?_
  refine glength B X2 (n := k) FR hN hk d4_7 (pc' := 8) rfl ?_
  by_cases c8_3 : (pl + (1 : Int32)) = k
  · refine gicN B X2 d4_8 (teq c8_3).2 (pc' := 11) rfl ?_
    refine giconst B X2 d4_11 (v := (0 : Int32)) rfl (pc' := 12) rfl ?_
    refine ggoto B X2 (pc' := 18) d4_12 (by decide) ?_
    exact gretI B X2 d4_18 (by decide) (by decide) (⟨by rw [ofol, if_pos c8_3], rfl⟩)
  · refine gicY B X2 (pc' := 15) d4_8 (feq c8_3).2 (by decide) ?_
    refine giloadN B X2 d4_15 rfl (pc' := 16) rfl ?_
    refine giconst B X2 d4_16 (v := (1 : Int32)) rfl (pc' := 17) rfl ?_
    refine giadd B X2 d4_17 rfl (pc' := 18) rfl ?_
    exact gretI B X2 d4_18 (by decide) (by decide) (⟨by rw [ofol, if_neg c8_3], rfl⟩)
/-- the queue's state: ring, held, head, tail, size -/
abbrev QS := List Int32 × List Int32 × Int32 × Int32 × Int32
def oAdd (k : Int32) (s : QS) (x : Int32) : QS := if s.2.1.getD x.toNatClampNeg 0 = (0 : Int32) then (s.1.set s.2.2.2.1.toNatClampNeg x, s.2.1.set x.toNatClampNeg 1, s.2.2.1, ofol s.2.2.2.1 k, s.2.2.2.2 + 1) else s
def oVal (s : QS) : Int32 := s.1.getD s.2.2.1.toNatClampNeg 0
def oPoll (k : Int32) (s : QS) : QS := (s.1, s.2.1.set (oVal s).toNatClampNeg 0, ofol s.2.2.1 k, s.2.2.2.1, s.2.2.2.2 - 1)
def Ok (k : Int32) (s : QS) : Prop := (s.1.length : Int) = k.toInt ∧ (s.2.1.length : Int) = k.toInt ∧ (0 ≤ s.2.2.1.toInt ∧ s.2.2.1.toInt < k.toInt) ∧ (0 ≤ s.2.2.2.1.toInt ∧ s.2.2.2.1.toInt < k.toInt) ∧ ∀ j, j < s.1.length → 0 ≤ (s.1.getD j 0).toInt ∧ (s.1.getD j 0).toInt < k.toInt
theorem own_fol {p k : Int32} (h : 0 ≤ p.toInt ∧ p.toInt < k.toInt) : 0 ≤ (ofol p k).toInt ∧ (ofol p k).toInt < k.toInt := by
  have s := c_iadd p 1; have r := rng32 (p + 1); have r2 := rng32 k
  have z : (1 : Int32).toInt = 1 := rfl
  unfold ofol
  split
  · have z0 : (0 : Int32).toInt = 0 := rfl
    omega
  · rename_i q
    have q' : ¬ (p + 1).toInt = k.toInt := fun e => q (Int32.toInt_inj.mp e)
    omega
theorem Ok.add {k x : Int32} {s : QS} (h : Ok k s) (hx : 0 ≤ x.toInt ∧ x.toInt < k.toInt) : Ok k (oAdd k s x) := by
  unfold oAdd
  split
  · obtain ⟨h1, h2, h3, h4, h5⟩ := h
    refine ⟨by simpa using h1, by simpa using h2, h3, own_fol h4, fun j hj => ?_⟩
    simp only [List.length_set] at hj
    rw [List.getD_eq_getElem?_getD, List.getElem?_set]
    split
    · rename_i e
      rw [if_pos (by rw [e]; exact hj)]
      exact hx
    · exact h5 j hj
  · exact h
theorem Ok.val {k : Int32} {s : QS} (h : Ok k s) : 0 ≤ (oVal s).toInt ∧ (oVal s).toInt < k.toInt := h.2.2.2.2 _ (own_nat ⟨h.2.2.1.1, by have := h.1; have := h.2.2.1.2; omega⟩)
theorem Ok.poll {k : Int32} {s : QS} (h : Ok k s) : Ok k (oPoll k s) := ⟨h.1, by simpa [oPoll] using h.2.1, own_fol h.2.2.1, h.2.2.2.1, h.2.2.2.2⟩
theorem d7_0 : decode prog_6_method_4_code 0 = .ok (.aload_n 0, 1) := by decide +kernel
theorem d7_1 : decode prog_6_method_4_code 1 = .ok (.getfield 25, 3) := by decide +kernel
theorem d7_4 : decode prog_6_method_4_code 4 = .ok (.ifCond .ne 7, 3) := by decide +kernel
theorem d7_7 : decode prog_6_method_4_code 7 = .ok (.iconst 1, 1) := by decide +kernel
theorem d7_8 : decode prog_6_method_4_code 8 = .ok (.goto 4, 3) := by decide +kernel
theorem d7_11 : decode prog_6_method_4_code 11 = .ok (.iconst 0, 1) := by decide +kernel
theorem d7_12 : decode prog_6_method_4_code 12 = .ok (.ireturn, 1) := by decide +kernel
theorem pn7 : plainFor (⟨"com/example/glouton/glouton/consistency/DistinctQueue", "isEmpty", "()Z"⟩ : MethodName) = true := plainFor_of_name (by first | (simp [plainName, overriddenIn]; done) | decide +kernel)
theorem ef7_R (m : MethodId) (x0 : Addr) : entryFrame m #[(.ref x0)] 1 = mkF m 0 #[.val (.ref x0)] [] := by first | (simp [entryFrame, mkF, argsToLocals, Value.category]; done) | rfl
def oemp (sz : Int32) : Int32 := if sz = (0 : Int32) then (1 : Int32) else ((0 : Int32))
def rmr7 : Room := { frames := 0, cells := 0, slots := 0, locals := 0 }
set_option maxRecDepth 65536 in
set_option maxHeartbeats 4000000 in
theorem mtemp (l : Launch) (Z : State) (a0 : Array Value) (hw : ∀ d ∈ tables_1, d.before a0 Z = true) (q : Addr) (v0 v1 v2 v3 : Value) (sz : Int32) (h0 : Heap) (O : Dq Z h0 q v0 v1 v2 v3 (.int sz)) : Meth l Z (⟨"com/example/glouton/glouton/consistency/DistinctQueue", "isEmpty", "()Z"⟩ : MethodName) prog_6_method_4_code 1 (some .boolean) rmr7 #[(.ref q)] h0 [] (fun vr h' => vr = some (.int (oemp sz)) ∧ h' = h0) := by
  refine Meth.of pn7 ?_
  intro p e s m below meth c T B X
  refine Go.entry (ef7_R m q) ?_
  refine galoadN B X d7_0 rfl rfl (pc' := 1) rfl ?_
  refine gget B X (hw _ (List.mem_of_getElem? (i := 27) rfl)) O.2.2.2.2.2 d7_1 (pc' := 4) rfl fun T4 X5 => ?_
  by_cases c4_6 : sz = (0 : Int32)
  · refine gifN B X5 d7_4 ((if0 _ _).trans (teq c4_6).2) (pc' := 7) rfl ?_
    refine giconst B X5 d7_7 (v := (1 : Int32)) rfl (pc' := 8) rfl ?_
    refine ggoto B X5 (pc' := 12) d7_8 (by decide) ?_
    exact gretN B X5 (z' := (1 : Int32)) (by simp) (rfl) d7_12 (by decide) (by decide) (⟨by rw [oemp, if_pos c4_6], rfl⟩)
  · refine gifY B X5 (pc' := 11) d7_4 ((if0 _ _).trans (feq c4_6).2) (by decide) ?_
    refine giconst B X5 d7_11 (v := (0 : Int32)) rfl (pc' := 12) rfl ?_
    exact gretN B X5 (z' := (0 : Int32)) (by simp) (rfl) d7_12 (by decide) (by decide) (⟨by rw [oemp, if_neg c4_6], rfl⟩)
theorem d1_0 : decode prog_6_method_1_code 0 = .ok (.aload_n 0, 1) := by decide +kernel
theorem d1_1 : decode prog_6_method_1_code 1 = .ok (.invokespecial 1, 3) := by decide +kernel
theorem d1_4 : decode prog_6_method_1_code 4 = .ok (.aload_n 0, 1) := by decide +kernel
theorem d1_5 : decode prog_6_method_1_code 5 = .ok (.iload_n 1, 1) := by decide +kernel
theorem d1_6 : decode prog_6_method_1_code 6 = .ok (.newarray .int, 2) := by decide +kernel
theorem d1_8 : decode prog_6_method_1_code 8 = .ok (.putfield 7, 3) := by decide +kernel
theorem d1_11 : decode prog_6_method_1_code 11 = .ok (.aload_n 0, 1) := by decide +kernel
theorem d1_12 : decode prog_6_method_1_code 12 = .ok (.iload_n 1, 1) := by decide +kernel
theorem d1_13 : decode prog_6_method_1_code 13 = .ok (.newarray .boolean, 2) := by decide +kernel
theorem d1_15 : decode prog_6_method_1_code 15 = .ok (.putfield 13, 3) := by decide +kernel
theorem d1_18 : decode prog_6_method_1_code 18 = .ok (.return_, 1) := by decide +kernel
theorem pn1 : plainFor (⟨"com/example/glouton/glouton/consistency/DistinctQueue", "<init>", "(I)V"⟩ : MethodName) = true := plainFor_of_name (by first | (simp [plainName, overriddenIn]; done) | decide +kernel)
theorem ef1_RI (m : MethodId) (x0 : Addr) (x1 : Int32) : entryFrame m #[(.ref x0), (.int x1)] 2 = mkF m 0 #[.val (.ref x0), .val (.int x1)] [] := by first | (simp [entryFrame, mkF, argsToLocals, Value.category]; done) | rfl
def rmr1 : Room := { frames := 1, cells := 2, slots := 6, locals := 12 }
set_option maxRecDepth 65536 in
set_option maxHeartbeats 4000000 in
theorem mt1 (l : Launch) (Z : State) (a0 : Array Value) (hw : ∀ d ∈ tables_1, d.before a0 Z = true) (q : Addr) (k : Int32)  (h0 : Heap) (O : Dq Z h0 q .null .null (.int 0) (.int 0) (.int 0)) (hk : 0 ≤ k.toInt ∧ k.toInt ≤ (3 : Nat)) : Meth l Z (⟨"com/example/glouton/glouton/consistency/DistinctQueue", "<init>", "(I)V"⟩ : MethodName) prog_6_method_1_code 2 none rmr1 #[(.ref q), (.int k)] h0 [q] (fun v h' => v = none ∧ ∃ r t, h0.size ≤ r ∧ h0.size ≤ t ∧ r ≠ t ∧ Dq Z h' q (.ref r) (.ref t) (.int 0) (.int 0) (.int 0) ∧ VA Z h' r .int (List.replicate k.toNatClampNeg (.int 0)) ∧ VA Z h' t .boolean (List.replicate k.toNatClampNeg (.int 0))) := by
  refine Meth.of pn1 ?_
  intro p e s m below meth c T B X
  refine Go.entry (ef1_RI m q k) ?_
  refine galoadN B X d1_0 rfl rfl (pc' := 1) rfl ?_
  refine ginitO B X (W := 0) (hw _ (List.mem_of_getElem? (i := 7) rfl)) (hw _ (List.mem_of_getElem? (i := 8) rfl)) (hw _ (List.mem_of_getElem? (i := 9) rfl)) rfl (by decide) (Nat.le_of_eq rfl) (by decide) d1_1 (pc' := 4) rfl fun T7 X8 => ?_
  refine galoadN B X8 d1_4 rfl rfl (pc' := 5) rfl ?_
  refine giloadN B X8 d1_5 rfl (pc' := 6) rfl ?_
  refine gnewarray B X8 (cap := 3) (vs := (List.replicate k.toNatClampNeg (.int 0))) (ty := .int) rfl rfl (hw _ (List.mem_of_getElem? (i := 10) rfl)) hk.1 hk.2 (by decide) (by decide) (by decide) d1_6 (pc' := 8) rfl fun T9 h10 a11 X12 q13 E14 z_a11 A15 => ?_
  have n16 : q ≠ a11 := by rw [q13]; exact Nat.ne_of_lt O.lt
  have F17 := O.ext E14
  refine gput B X12 (ty := (.array .int)) (hw _ (List.mem_of_getElem? (i := 11) rfl)) F17.2.1 F17.1 (Or.inr ⟨(hw _ (List.mem_of_getElem? (i := 12) rfl)), rfl, rfl⟩) (hw _ (List.mem_of_getElem? (i := 2) rfl)) (by decide) rfl rfl (Or.inl (List.mem_of_getElem? (i := 0) rfl)) d1_8 (pc' := 11) rfl fun T18 h19 X20 W21 => ?_
  have O22 := Dq.set0 hw F17 W21
  have F23 := A15.other W21 (Ne.symm n16)
  refine galoadN B X20 d1_11 rfl rfl (pc' := 12) rfl ?_
  refine giloadN B X20 d1_12 rfl (pc' := 13) rfl ?_
  refine gnewarray B X20 (cap := 3) (vs := (List.replicate k.toNatClampNeg (.int 0))) (ty := .boolean) rfl rfl (hw _ (List.mem_of_getElem? (i := 13) rfl)) hk.1 hk.2 (by decide) (by decide) (by decide) d1_13 (pc' := 15) rfl fun T24 h25 a26 X27 q28 E29 z_a26 A30 => ?_
  have n31 : q ≠ a26 := by rw [q28]; exact Nat.ne_of_lt O22.lt
  have n32 : a11 ≠ a26 := by rw [q28]; exact Nat.ne_of_lt F23.lt
  have F33 := O22.ext E29
  have F34 := F23.ext E29
  refine gput B X27 (ty := (.array .boolean)) (hw _ (List.mem_of_getElem? (i := 14) rfl)) F33.2.2.1 F33.1 (Or.inr ⟨(hw _ (List.mem_of_getElem? (i := 15) rfl)), rfl, rfl⟩) (hw _ (List.mem_of_getElem? (i := 2) rfl)) (by decide) rfl rfl (Or.inl (List.mem_of_getElem? (i := 0) rfl)) d1_15 (pc' := 18) rfl fun T35 h36 X37 W38 => ?_
  have O39 := Dq.set1 hw F33 W38
  have F40 := F34.other W38 (Ne.symm n16)
  have F41 := A30.other W38 (Ne.symm n31)
  exact gretV B X37 d1_18 (by decide) (by decide) (⟨rfl, a11, a26, z_a11, z_a26, n32, O39, F40, F41⟩)
theorem d3_0 : decode prog_6_method_2_code 0 = .ok (.aload_n 0, 1) := by decide +kernel
theorem d3_1 : decode prog_6_method_2_code 1 = .ok (.getfield 13, 3) := by decide +kernel
theorem d3_4 : decode prog_6_method_2_code 4 = .ok (.iload_n 1, 1) := by decide +kernel
theorem d3_5 : decode prog_6_method_2_code 5 = .ok (.baload, 1) := by decide +kernel
theorem d3_6 : decode prog_6_method_2_code 6 = .ok (.ifCond .ne 42, 3) := by decide +kernel
theorem d3_9 : decode prog_6_method_2_code 9 = .ok (.aload_n 0, 1) := by decide +kernel
theorem d3_10 : decode prog_6_method_2_code 10 = .ok (.getfield 13, 3) := by decide +kernel
theorem d3_13 : decode prog_6_method_2_code 13 = .ok (.iload_n 1, 1) := by decide +kernel
theorem d3_14 : decode prog_6_method_2_code 14 = .ok (.iconst 1, 1) := by decide +kernel
theorem d3_15 : decode prog_6_method_2_code 15 = .ok (.bastore, 1) := by decide +kernel
theorem d3_16 : decode prog_6_method_2_code 16 = .ok (.aload_n 0, 1) := by decide +kernel
theorem d3_17 : decode prog_6_method_2_code 17 = .ok (.getfield 7, 3) := by decide +kernel
theorem d3_20 : decode prog_6_method_2_code 20 = .ok (.aload_n 0, 1) := by decide +kernel
theorem d3_21 : decode prog_6_method_2_code 21 = .ok (.getfield 17, 3) := by decide +kernel
theorem d3_24 : decode prog_6_method_2_code 24 = .ok (.iload_n 1, 1) := by decide +kernel
theorem d3_25 : decode prog_6_method_2_code 25 = .ok (.iastore, 1) := by decide +kernel
theorem d3_26 : decode prog_6_method_2_code 26 = .ok (.aload_n 0, 1) := by decide +kernel
theorem d3_27 : decode prog_6_method_2_code 27 = .ok (.aload_n 0, 1) := by decide +kernel
theorem d3_28 : decode prog_6_method_2_code 28 = .ok (.aload_n 0, 1) := by decide +kernel
theorem d3_29 : decode prog_6_method_2_code 29 = .ok (.getfield 17, 3) := by decide +kernel
theorem d3_32 : decode prog_6_method_2_code 32 = .ok (.invokevirtual 21, 3) := by decide +kernel
theorem d3_35 : decode prog_6_method_2_code 35 = .ok (.putfield 17, 3) := by decide +kernel
theorem d3_38 : decode prog_6_method_2_code 38 = .ok (.aload_n 0, 1) := by decide +kernel
theorem d3_39 : decode prog_6_method_2_code 39 = .ok (.dup, 1) := by decide +kernel
theorem d3_40 : decode prog_6_method_2_code 40 = .ok (.getfield 25, 3) := by decide +kernel
theorem d3_43 : decode prog_6_method_2_code 43 = .ok (.iconst 1, 1) := by decide +kernel
theorem d3_44 : decode prog_6_method_2_code 44 = .ok (.iadd, 1) := by decide +kernel
theorem d3_45 : decode prog_6_method_2_code 45 = .ok (.putfield 25, 3) := by decide +kernel
theorem d3_48 : decode prog_6_method_2_code 48 = .ok (.return_, 1) := by decide +kernel
theorem pn3 : plainFor (⟨"com/example/glouton/glouton/consistency/DistinctQueue", "add", "(I)V"⟩ : MethodName) = true := plainFor_of_name (by first | (simp [plainName, overriddenIn]; done) | decide +kernel)
theorem ef3_RI (m : MethodId) (x0 : Addr) (x1 : Int32) : entryFrame m #[(.ref x0), (.int x1)] 2 = mkF m 0 #[.val (.ref x0), .val (.int x1)] [] := by first | (simp [entryFrame, mkF, argsToLocals, Value.category]; done) | rfl
theorem pd__I_I : parseMethodDescriptor "(I)I" = some ⟨[.int], some .int⟩ := by decide +kernel
def rmr3 : Room := { frames := 1, cells := 0, slots := 0, locals := 14 }
set_option maxRecDepth 65536 in
set_option maxHeartbeats 4000000 in
theorem mt3 (l : Launch) (Z : State) (a0 : Array Value) (hw : ∀ d ∈ tables_1, d.before a0 Z = true) (q : Addr) (x : Int32) (r t : Addr) (k : Int32) (qs : QS) (h0 : Heap) (O : Dq Z h0 q (.ref r) (.ref t) (.int qs.2.2.1) (.int qs.2.2.2.1) (.int qs.2.2.2.2)) (FR : VA Z h0 r .int (qs.1.map Value.int)) (FT : VA Z h0 t .boolean (qs.2.1.map Value.int)) (qr : q ≠ r) (qt : q ≠ t) (rt : r ≠ t) (ok : Ok k qs) (hx : 0 ≤ x.toInt ∧ x.toInt < k.toInt) : Meth l Z (⟨"com/example/glouton/glouton/consistency/DistinctQueue", "add", "(I)V"⟩ : MethodName) prog_6_method_2_code 2 none rmr3 #[(.ref q), (.int x)] h0 [q, r, t] (fun v h' => v = none ∧ Dq Z h' q (.ref r) (.ref t) (.int (oAdd k qs x).2.2.1) (.int (oAdd k qs x).2.2.2.1) (.int (oAdd k qs x).2.2.2.2) ∧ VA Z h' r .int ((oAdd k qs x).1.map Value.int) ∧ VA Z h' t .boolean ((oAdd k qs x).2.1.map Value.int)) := by
  refine Meth.of pn3 ?_
  intro p e s m below meth c T B X
  refine Go.entry (ef3_RI m q x) ?_
  refine galoadN B X d3_0 rfl rfl (pc' := 1) rfl ?_
  refine gget B X (hw _ (List.mem_of_getElem? (i := 14) rfl)) O.2.2.1 d3_1 (pc' := 4) rfl fun T42 X43 => ?_
  refine giloadN B X43 d3_4 rfl (pc' := 5) rfl ?_
  refine gzaload B X43 FT (List.length_map ..) ⟨hx.1, by have a := ok.2.1; have b := hx.2; omega⟩ (v := (.int (qs.2.1.getD x.toNatClampNeg 0))) (own_at (own_nat ⟨hx.1, by have a := ok.2.1; have b := hx.2; omega⟩)) d3_5 (pc' := 6) rfl ?_
  by_cases c6_44 : (qs.2.1.getD x.toNatClampNeg 0) = (0 : Int32)
  · refine gifN B X43 d3_6 ((if0 _ _).trans (teq c6_44).2) (pc' := 9) rfl ?_
    refine galoadN B X43 d3_9 rfl rfl (pc' := 10) rfl ?_
    refine gget B X43 (hw _ (List.mem_of_getElem? (i := 14) rfl)) O.2.2.1 d3_10 (pc' := 13) rfl fun T45 X46 => ?_
    refine giloadN B X46 d3_13 rfl (pc' := 14) rfl ?_
    refine giconst B X46 d3_14 (v := (1 : Int32)) rfl (pc' := 15) rfl ?_
    refine gzastore B X46 (i := x.toNatClampNeg) FT (List.length_map ..) ⟨hx.1, by have a := ok.2.1; have b := hx.2; omega⟩ rfl (vs' := ((qs.2.1.set x.toNatClampNeg 1).map Value.int)) (own_set _ _ 1) (Or.inl (List.mem_of_getElem? (i := 2) rfl)) d3_15 (pc' := 16) rfl fun T47 h48 X49 W50 A51 => ?_
    have F52 := O.other W50 qt
    have F53 := FR.other W50 rt
    refine galoadN B X49 d3_16 rfl rfl (pc' := 17) rfl ?_
    refine gget B X49 (hw _ (List.mem_of_getElem? (i := 11) rfl)) F52.2.1 d3_17 (pc' := 20) rfl fun T54 X55 => ?_
    refine galoadN B X55 d3_20 rfl rfl (pc' := 21) rfl ?_
    refine gget B X55 (hw _ (List.mem_of_getElem? (i := 21) rfl)) F52.2.2.2.2.1 d3_21 (pc' := 24) rfl fun T56 X57 => ?_
    refine giloadN B X57 d3_24 rfl (pc' := 25) rfl ?_
    refine giastore B X57 (i := qs.2.2.2.1.toNatClampNeg) F53 (List.length_map ..) ⟨ok.2.2.2.1.1, by have a := ok.1; have b := ok.2.2.2.1.2; omega⟩ rfl (vs' := ((qs.1.set qs.2.2.2.1.toNatClampNeg x).map Value.int)) (own_set _ _ _) (Or.inl (List.mem_of_getElem? (i := 1) rfl)) d3_25 (pc' := 26) rfl fun T58 h59 X60 W61 A62 => ?_
    have F63 := F52.other W61 qr
    have F64 := A51.other W61 (Ne.symm rt)
    refine galoadN B X60 d3_26 rfl rfl (pc' := 27) rfl ?_
    refine galoadN B X60 d3_27 rfl rfl (pc' := 28) rfl ?_
    refine galoadN B X60 d3_28 rfl rfl (pc' := 29) rfl ?_
    refine gget B X60 (hw _ (List.mem_of_getElem? (i := 21) rfl)) F63.2.2.2.2.1 d3_29 (pc' := 32) rfl fun T65 X66 => ?_
    refine gcallP B X66 F63.1 (hw _ (List.mem_of_getElem? (i := 23) rfl)) (hw _ (List.mem_of_getElem? (i := 24) rfl)) (hw _ (List.mem_of_getElem? (i := 2) rfl)) (hw _ (List.mem_of_getElem? (i := 25) rfl)) (hw _ (List.mem_of_getElem? (i := 3) rfl)) (hw _ (List.mem_of_getElem? (i := 26) rfl)) (by decide) (mtfol l Z a0 hw q qs.2.2.2.1 r (.ref t) (.int qs.2.2.1) (.int qs.2.2.2.1) (.int qs.2.2.2.2) ((qs.1.set qs.2.2.2.1.toNatClampNeg x).map Value.int) (qs.1.set qs.2.2.2.1.toNatClampNeg x).length k h59 F63 A62 (List.length_map ..) (by rw [List.length_set]; exact ok.1.symm)) pd__I_I rfl (argsL := [(.int qs.2.2.2.1)]) (st := [(.ref q)]) rfl rfl (W := 1) (Nat.le_of_eq rfl) (by decide) (by decide) (by decide) (by decide) (fun x q => nomatch q) d3_32 (pc' := 35) rfl (pureG rfl rfl fun T67 X68 => ?_)
    refine gput B X68 (ty := .int) (hw _ (List.mem_of_getElem? (i := 21) rfl)) F63.2.2.2.2.1 F63.1 (Or.inl (hw _ (List.mem_of_getElem? (i := 22) rfl))) (hw _ (List.mem_of_getElem? (i := 2) rfl)) (by decide) rfl rfl (Or.inl (List.mem_of_getElem? (i := 0) rfl)) d3_35 (pc' := 38) rfl fun T69 h70 X71 W72 => ?_
    have O73 := Dq.set3 hw F63 W72
    have F74 := A62.other W72 (Ne.symm qr)
    have F75 := F64.other W72 (Ne.symm qt)
    refine galoadN B X71 d3_38 rfl rfl (pc' := 39) rfl ?_
    refine gdup B X71 d3_39 rfl (pc' := 40) rfl ?_
    refine gget B X71 (hw _ (List.mem_of_getElem? (i := 27) rfl)) O73.2.2.2.2.2 d3_40 (pc' := 43) rfl fun T76 X77 => ?_
    refine giconst B X77 d3_43 (v := (1 : Int32)) rfl (pc' := 44) rfl ?_
    refine giadd B X77 d3_44 rfl (pc' := 45) rfl ?_
    refine gput B X77 (ty := .int) (hw _ (List.mem_of_getElem? (i := 27) rfl)) O73.2.2.2.2.2 O73.1 (Or.inl (hw _ (List.mem_of_getElem? (i := 28) rfl))) (hw _ (List.mem_of_getElem? (i := 2) rfl)) (by decide) rfl rfl (Or.inl (List.mem_of_getElem? (i := 0) rfl)) d3_45 (pc' := 48) rfl fun T78 h79 X80 W81 => ?_
    have O82 := Dq.set4 hw O73 W81
    have F83 := F74.other W81 (Ne.symm qr)
    have F84 := F75.other W81 (Ne.symm qt)
    exact gretV B X80 d3_48 (by decide) (by decide) (by rw [oAdd, if_pos c6_44]; exact ⟨rfl, O82, F83, F84⟩)
  · refine gifY B X43 (pc' := 48) d3_6 ((if0 _ _).trans (feq c6_44).2) (by decide) ?_
    exact gretV B X43 d3_48 (by decide) (by decide) (by rw [oAdd, if_neg c6_44]; exact ⟨rfl, O, FR, FT⟩)
theorem d6_0 : decode prog_6_method_3_code 0 = .ok (.aload_n 0, 1) := by decide +kernel
theorem d6_1 : decode prog_6_method_3_code 1 = .ok (.getfield 7, 3) := by decide +kernel
theorem d6_4 : decode prog_6_method_3_code 4 = .ok (.aload_n 0, 1) := by decide +kernel
theorem d6_5 : decode prog_6_method_3_code 5 = .ok (.getfield 28, 3) := by decide +kernel
theorem d6_8 : decode prog_6_method_3_code 8 = .ok (.iaload, 1) := by decide +kernel
theorem d6_9 : decode prog_6_method_3_code 9 = .ok (.istore_n 1, 1) := by decide +kernel
theorem d6_10 : decode prog_6_method_3_code 10 = .ok (.aload_n 0, 1) := by decide +kernel
theorem d6_11 : decode prog_6_method_3_code 11 = .ok (.aload_n 0, 1) := by decide +kernel
theorem d6_12 : decode prog_6_method_3_code 12 = .ok (.aload_n 0, 1) := by decide +kernel
theorem d6_13 : decode prog_6_method_3_code 13 = .ok (.getfield 28, 3) := by decide +kernel
theorem d6_16 : decode prog_6_method_3_code 16 = .ok (.invokevirtual 21, 3) := by decide +kernel
theorem d6_19 : decode prog_6_method_3_code 19 = .ok (.putfield 28, 3) := by decide +kernel
theorem d6_22 : decode prog_6_method_3_code 22 = .ok (.aload_n 0, 1) := by decide +kernel
theorem d6_23 : decode prog_6_method_3_code 23 = .ok (.dup, 1) := by decide +kernel
theorem d6_24 : decode prog_6_method_3_code 24 = .ok (.getfield 25, 3) := by decide +kernel
theorem d6_27 : decode prog_6_method_3_code 27 = .ok (.iconst 1, 1) := by decide +kernel
theorem d6_28 : decode prog_6_method_3_code 28 = .ok (.isub, 1) := by decide +kernel
theorem d6_29 : decode prog_6_method_3_code 29 = .ok (.putfield 25, 3) := by decide +kernel
theorem d6_32 : decode prog_6_method_3_code 32 = .ok (.aload_n 0, 1) := by decide +kernel
theorem d6_33 : decode prog_6_method_3_code 33 = .ok (.getfield 13, 3) := by decide +kernel
theorem d6_36 : decode prog_6_method_3_code 36 = .ok (.iload_n 1, 1) := by decide +kernel
theorem d6_37 : decode prog_6_method_3_code 37 = .ok (.iconst 0, 1) := by decide +kernel
theorem d6_38 : decode prog_6_method_3_code 38 = .ok (.bastore, 1) := by decide +kernel
theorem d6_39 : decode prog_6_method_3_code 39 = .ok (.iload_n 1, 1) := by decide +kernel
theorem d6_40 : decode prog_6_method_3_code 40 = .ok (.ireturn, 1) := by decide +kernel
theorem pn6 : plainFor (⟨"com/example/glouton/glouton/consistency/DistinctQueue", "poll", "()I"⟩ : MethodName) = true := plainFor_of_name (by first | (simp [plainName, overriddenIn]; done) | decide +kernel)
theorem ef6_R (m : MethodId) (x0 : Addr) : entryFrame m #[(.ref x0)] 2 = mkF m 0 #[.val (.ref x0), .unset] [] := by first | (simp [entryFrame, mkF, argsToLocals, Value.category]; done) | rfl
def rmr6 : Room := { frames := 1, cells := 0, slots := 0, locals := 14 }
set_option maxRecDepth 65536 in
set_option maxHeartbeats 4000000 in
theorem mt6 (l : Launch) (Z : State) (a0 : Array Value) (hw : ∀ d ∈ tables_1, d.before a0 Z = true) (q : Addr) (r t : Addr) (k : Int32) (qs : QS) (h0 : Heap) (O : Dq Z h0 q (.ref r) (.ref t) (.int qs.2.2.1) (.int qs.2.2.2.1) (.int qs.2.2.2.2)) (FR : VA Z h0 r .int (qs.1.map Value.int)) (FT : VA Z h0 t .boolean (qs.2.1.map Value.int)) (qr : q ≠ r) (qt : q ≠ t) (rt : r ≠ t) (ok : Ok k qs) : Meth l Z (⟨"com/example/glouton/glouton/consistency/DistinctQueue", "poll", "()I"⟩ : MethodName) prog_6_method_3_code 2 (some .int) rmr6 #[(.ref q)] h0 [q, r, t] (fun v h' => v = some (.int (oVal qs)) ∧ Dq Z h' q (.ref r) (.ref t) (.int (oPoll k qs).2.2.1) (.int (oPoll k qs).2.2.2.1) (.int (oPoll k qs).2.2.2.2) ∧ VA Z h' r .int ((oPoll k qs).1.map Value.int) ∧ VA Z h' t .boolean ((oPoll k qs).2.1.map Value.int)) := by
  refine Meth.of pn6 ?_
  intro p e s m below meth c T B X
  refine Go.entry (ef6_R m q) ?_
  refine galoadN B X d6_0 rfl rfl (pc' := 1) rfl ?_
  refine gget B X (hw _ (List.mem_of_getElem? (i := 11) rfl)) O.2.1 d6_1 (pc' := 4) rfl fun T85 X86 => ?_
  refine galoadN B X86 d6_4 rfl rfl (pc' := 5) rfl ?_
  refine gget B X86 (hw _ (List.mem_of_getElem? (i := 38) rfl)) O.2.2.2.1 d6_5 (pc' := 8) rfl fun T87 X88 => ?_
  refine giaload B X88 FR (List.length_map ..) ⟨ok.2.2.1.1, by have a := ok.1; have b := ok.2.2.1.2; omega⟩ (v := (.int (oVal qs))) (own_at (own_nat ⟨ok.2.2.1.1, by have a := ok.1; have b := ok.2.2.1.2; omega⟩)) d6_8 (pc' := 9) rfl ?_
  refine gistoreN B X88 d6_9 (Ls' := #[.val (.ref q), .val (.int (oVal qs))]) rfl (pc' := 10) rfl ?_
  refine galoadN B X88 d6_10 rfl rfl (pc' := 11) rfl ?_
  refine galoadN B X88 d6_11 rfl rfl (pc' := 12) rfl ?_
  refine galoadN B X88 d6_12 rfl rfl (pc' := 13) rfl ?_
  refine gget B X88 (hw _ (List.mem_of_getElem? (i := 38) rfl)) O.2.2.2.1 d6_13 (pc' := 16) rfl fun T89 X90 => ?_
  refine gcallP B X90 O.1 (hw _ (List.mem_of_getElem? (i := 23) rfl)) (hw _ (List.mem_of_getElem? (i := 24) rfl)) (hw _ (List.mem_of_getElem? (i := 2) rfl)) (hw _ (List.mem_of_getElem? (i := 25) rfl)) (hw _ (List.mem_of_getElem? (i := 3) rfl)) (hw _ (List.mem_of_getElem? (i := 26) rfl)) (by decide) (mtfol l Z a0 hw q qs.2.2.1 r (.ref t) (.int qs.2.2.1) (.int qs.2.2.2.1) (.int qs.2.2.2.2) (qs.1.map Value.int) qs.1.length k h0 O FR (List.length_map ..) ok.1.symm) pd__I_I rfl (argsL := [(.int qs.2.2.1)]) (st := [(.ref q)]) rfl rfl (W := 1) (Nat.le_of_eq rfl) (by decide) (by decide) (by decide) (by decide) (fun x q => nomatch q) d6_16 (pc' := 19) rfl (pureG rfl rfl fun T91 X92 => ?_)
  refine gput B X92 (ty := .int) (hw _ (List.mem_of_getElem? (i := 38) rfl)) O.2.2.2.1 O.1 (Or.inl (hw _ (List.mem_of_getElem? (i := 39) rfl))) (hw _ (List.mem_of_getElem? (i := 2) rfl)) (by decide) rfl rfl (Or.inl (List.mem_of_getElem? (i := 0) rfl)) d6_19 (pc' := 22) rfl fun T93 h94 X95 W96 => ?_
  have O97 := Dq.set2 hw O W96
  have F98 := FR.other W96 (Ne.symm qr)
  have F99 := FT.other W96 (Ne.symm qt)
  refine galoadN B X95 d6_22 rfl rfl (pc' := 23) rfl ?_
  refine gdup B X95 d6_23 rfl (pc' := 24) rfl ?_
  refine gget B X95 (hw _ (List.mem_of_getElem? (i := 27) rfl)) O97.2.2.2.2.2 d6_24 (pc' := 27) rfl fun T100 X101 => ?_
  refine giconst B X101 d6_27 (v := (1 : Int32)) rfl (pc' := 28) rfl ?_
  refine gisub B X101 d6_28 rfl (pc' := 29) rfl ?_
  refine gput B X101 (ty := .int) (hw _ (List.mem_of_getElem? (i := 27) rfl)) O97.2.2.2.2.2 O97.1 (Or.inl (hw _ (List.mem_of_getElem? (i := 28) rfl))) (hw _ (List.mem_of_getElem? (i := 2) rfl)) (by decide) rfl rfl (Or.inl (List.mem_of_getElem? (i := 0) rfl)) d6_29 (pc' := 32) rfl fun T102 h103 X104 W105 => ?_
  have O106 := Dq.set4 hw O97 W105
  have F107 := F98.other W105 (Ne.symm qr)
  have F108 := F99.other W105 (Ne.symm qt)
  refine galoadN B X104 d6_32 rfl rfl (pc' := 33) rfl ?_
  refine gget B X104 (hw _ (List.mem_of_getElem? (i := 14) rfl)) O106.2.2.1 d6_33 (pc' := 36) rfl fun T109 X110 => ?_
  refine giloadN B X110 d6_36 rfl (pc' := 37) rfl ?_
  refine giconst B X110 d6_37 (v := (0 : Int32)) rfl (pc' := 38) rfl ?_
  refine gzastore B X110 (i := (oVal qs).toNatClampNeg) F108 (List.length_map ..) ⟨ok.val.1, by have a := ok.2.1; have b := ok.val.2; omega⟩ rfl (vs' := ((qs.2.1.set (oVal qs).toNatClampNeg 0).map Value.int)) (own_set _ _ 0) (Or.inl (List.mem_of_getElem? (i := 2) rfl)) d6_38 (pc' := 39) rfl fun T111 h112 X113 W114 A115 => ?_
  have F116 := O106.other W114 qt
  have F117 := F107.other W114 rt
  refine giloadN B X113 d6_39 rfl (pc' := 40) rfl ?_
  exact gretI B X113 d6_40 (by decide) (by decide) (⟨rfl, F116, F117, A115⟩)
def oS0 (k : Int32) : QS := (List.replicate k.toNatClampNeg 0, List.replicate k.toNatClampNeg 0, 0, 0, 0)
def oin (len x y0 y1 y2 : Int32) : Int32 := if (0 : Int32) < len then (if y0 = x then 1 else (if (1 : Int32) < len then (if y1 = x then 1 else (if (2 : Int32) < len then (if y2 = x then 1 else 0) else 0)) else (if (2 : Int32) < len then (if y2 = x then 1 else 0) else 0))) else (if (1 : Int32) < len then (if y1 = x then 1 else (if (2 : Int32) < len then (if y2 = x then 1 else 0) else 0)) else (if (2 : Int32) < len then (if y2 = x then 1 else 0) else 0))
def oPut (ys : List Int32) (len x : Int32) : List Int32 × Int32 := if oin len x (ys.getD 0 0) (ys.getD 1 0) (ys.getD 2 0) = (0 : Int32) then (ys.set len.toNatClampNeg x, len + 1) else (ys, len)
theorem d5_0 : decode method_2_code 0 = .ok (.iload_n 1, 1) := by decide +kernel
theorem d5_1 : decode method_2_code 1 = .ok (.ifCond .le 10, 3) := by decide +kernel
theorem d5_4 : decode method_2_code 4 = .ok (.aload_n 0, 1) := by decide +kernel
theorem d5_5 : decode method_2_code 5 = .ok (.iconst 0, 1) := by decide +kernel
theorem d5_6 : decode method_2_code 6 = .ok (.iaload, 1) := by decide +kernel
theorem d5_7 : decode method_2_code 7 = .ok (.iload_n 2, 1) := by decide +kernel
theorem d5_8 : decode method_2_code 8 = .ok (.if_icmp .eq 27, 3) := by decide +kernel
theorem d5_11 : decode method_2_code 11 = .ok (.iload_n 1, 1) := by decide +kernel
theorem d5_12 : decode method_2_code 12 = .ok (.iconst 1, 1) := by decide +kernel
theorem d5_13 : decode method_2_code 13 = .ok (.if_icmp .le 10, 3) := by decide +kernel
theorem d5_16 : decode method_2_code 16 = .ok (.aload_n 0, 1) := by decide +kernel
theorem d5_17 : decode method_2_code 17 = .ok (.iconst 1, 1) := by decide +kernel
theorem d5_18 : decode method_2_code 18 = .ok (.iaload, 1) := by decide +kernel
theorem d5_19 : decode method_2_code 19 = .ok (.iload_n 2, 1) := by decide +kernel
theorem d5_20 : decode method_2_code 20 = .ok (.if_icmp .eq 15, 3) := by decide +kernel
theorem d5_23 : decode method_2_code 23 = .ok (.iload_n 1, 1) := by decide +kernel
theorem d5_24 : decode method_2_code 24 = .ok (.iconst 2, 1) := by decide +kernel
theorem d5_25 : decode method_2_code 25 = .ok (.if_icmp .le 14, 3) := by decide +kernel
theorem d5_28 : decode method_2_code 28 = .ok (.aload_n 0, 1) := by decide +kernel
theorem d5_29 : decode method_2_code 29 = .ok (.iconst 2, 1) := by decide +kernel
theorem d5_30 : decode method_2_code 30 = .ok (.iaload, 1) := by decide +kernel
theorem d5_31 : decode method_2_code 31 = .ok (.iload_n 2, 1) := by decide +kernel
theorem d5_32 : decode method_2_code 32 = .ok (.if_icmp .ne 7, 3) := by decide +kernel
theorem d5_35 : decode method_2_code 35 = .ok (.iconst 1, 1) := by decide +kernel
theorem d5_36 : decode method_2_code 36 = .ok (.goto 4, 3) := by decide +kernel
theorem d5_39 : decode method_2_code 39 = .ok (.iconst 0, 1) := by decide +kernel
theorem d5_40 : decode method_2_code 40 = .ok (.istore_n 3, 1) := by decide +kernel
theorem d5_41 : decode method_2_code 41 = .ok (.iload_n 3, 1) := by decide +kernel
theorem d5_42 : decode method_2_code 42 = .ok (.ifCond .eq 5, 3) := by decide +kernel
theorem d5_45 : decode method_2_code 45 = .ok (.iload_n 1, 1) := by decide +kernel
theorem d5_46 : decode method_2_code 46 = .ok (.ireturn, 1) := by decide +kernel
theorem d5_47 : decode method_2_code 47 = .ok (.aload_n 0, 1) := by decide +kernel
theorem d5_48 : decode method_2_code 48 = .ok (.iload_n 1, 1) := by decide +kernel
theorem d5_49 : decode method_2_code 49 = .ok (.iload_n 2, 1) := by decide +kernel
theorem d5_50 : decode method_2_code 50 = .ok (.iastore, 1) := by decide +kernel
theorem d5_51 : decode method_2_code 51 = .ok (.iload_n 1, 1) := by decide +kernel
theorem d5_52 : decode method_2_code 52 = .ok (.iconst 1, 1) := by decide +kernel
theorem d5_53 : decode method_2_code 53 = .ok (.iadd, 1) := by decide +kernel
theorem d5_54 : decode method_2_code 54 = .ok (.ireturn, 1) := by decide +kernel
theorem pn5 : plainFor (⟨"com/example/glouton/glouton/consistency/DistinctQueueAddPinLaw", "put", "([III)I"⟩ : MethodName) = true := plainFor_of_name (by first | (simp [plainName, overriddenIn]; done) | decide +kernel)
theorem ef5_RII (m : MethodId) (x0 : Addr) (x1 : Int32) (x2 : Int32) : entryFrame m #[(.ref x0), (.int x1), (.int x2)] 4 = mkF m 0 #[.val (.ref x0), .val (.int x1), .val (.int x2), .unset] [] := by first | (simp [entryFrame, mkF, argsToLocals, Value.category]; done) | rfl
def rmr5 : Room := { frames := 0, cells := 0, slots := 0, locals := 0 }
set_option maxRecDepth 65536 in
set_option maxHeartbeats 4000000 in
theorem mt5 (l : Launch) (Z : State) (a0 : Array Value) (hw : ∀ d ∈ tables_1, d.before a0 Z = true) (r : Addr) (len : Int32) (x : Int32) (ys : List Int32) (h0 : Heap) (FR : VA Z h0 r .int (ys.map Value.int)) (hy : ys.length = 4) (hl : 0 ≤ len.toInt ∧ len.toInt < (4 : Nat)) : Meth l Z (⟨"com/example/glouton/glouton/consistency/DistinctQueueAddPinLaw", "put", "([III)I"⟩ : MethodName) method_2_code 4 (some .int) rmr5 #[(.ref r), (.int len), (.int x)] h0 [r] (fun v h' => v = some (.int (oPut ys len x).2) ∧ VA Z h' r .int ((oPut ys len x).1.map Value.int)) := by
  refine Meth.of pn5 ?_
  intro p e s m below meth c T B X
  refine Go.entry (ef5_RII m r len x) ?_
  refine joinG B X (F := fun z => (mkF m 40 #[.val (.ref r), .val (.int len), .val (.int x), .unset] [(.int z)])) (r := (oin len x (ys.getD 0 0) (ys.getD 1 0) (ys.getD 2 0))) (fun J => ?_) ?_
  · refine giloadN B X d5_0 rfl (pc' := 1) rfl ?_
    by_cases c1_118 : (0 : Int32) < len
    · refine gifN B X d5_1 ((if0 _ _).trans (tlt c1_118).2.2.2) (pc' := 4) rfl ?_
      refine galoadN B X d5_4 rfl rfl (pc' := 5) rfl ?_
      refine giconst B X d5_5 (v := (0 : Int32)) rfl (pc' := 6) rfl ?_
      refine giaload B X FR (n := 4) (by rw [List.length_map]; exact hy) (by decide) (v := (.int (ys.getD 0 0))) (own_at (by rw [hy]; decide)) d5_6 (pc' := 7) rfl ?_
      refine giloadN B X d5_7 rfl (pc' := 8) rfl ?_
      by_cases c8_119 : (ys.getD 0 0) = x
      · refine gicY B X (pc' := 35) d5_8 (teq c8_119).1 (by decide) ?_
        refine giconst B X d5_35 (v := (1 : Int32)) rfl (pc' := 36) rfl ?_
        refine ggoto B X (pc' := 40) d5_36 (by decide) ?_
        have e_J : (oin len x (ys.getD 0 0) (ys.getD 1 0) (ys.getD 2 0)) = (1 : Int32) := by rw [oin, if_pos c1_118, if_pos c8_119]
        rw [e_J] at J
        exact J _ X
      · refine gicN B X d5_8 (feq c8_119).1 (pc' := 11) rfl ?_
        refine giloadN B X d5_11 rfl (pc' := 12) rfl ?_
        refine giconst B X d5_12 (v := (1 : Int32)) rfl (pc' := 13) rfl ?_
        by_cases c13_120 : (1 : Int32) < len
        · refine gicN B X d5_13 (tlt c13_120).2.2.2 (pc' := 16) rfl ?_
          refine galoadN B X d5_16 rfl rfl (pc' := 17) rfl ?_
          refine giconst B X d5_17 (v := (1 : Int32)) rfl (pc' := 18) rfl ?_
          refine giaload B X FR (n := 4) (by rw [List.length_map]; exact hy) (by decide) (v := (.int (ys.getD 1 0))) (own_at (by rw [hy]; decide)) d5_18 (pc' := 19) rfl ?_
          refine giloadN B X d5_19 rfl (pc' := 20) rfl ?_
          by_cases c20_121 : (ys.getD 1 0) = x
          · refine gicY B X (pc' := 35) d5_20 (teq c20_121).1 (by decide) ?_
            refine giconst B X d5_35 (v := (1 : Int32)) rfl (pc' := 36) rfl ?_
            refine ggoto B X (pc' := 40) d5_36 (by decide) ?_
            have e_J : (oin len x (ys.getD 0 0) (ys.getD 1 0) (ys.getD 2 0)) = (1 : Int32) := by rw [oin, if_pos c1_118, if_neg c8_119, if_pos c13_120, if_pos c20_121]
            rw [e_J] at J
            exact J _ X
          · refine gicN B X d5_20 (feq c20_121).1 (pc' := 23) rfl ?_
            refine giloadN B X d5_23 rfl (pc' := 24) rfl ?_
            refine giconst B X d5_24 (v := (2 : Int32)) rfl (pc' := 25) rfl ?_
            by_cases c25_122 : (2 : Int32) < len
            · refine gicN B X d5_25 (tlt c25_122).2.2.2 (pc' := 28) rfl ?_
              refine galoadN B X d5_28 rfl rfl (pc' := 29) rfl ?_
              refine giconst B X d5_29 (v := (2 : Int32)) rfl (pc' := 30) rfl ?_
              refine giaload B X FR (n := 4) (by rw [List.length_map]; exact hy) (by decide) (v := (.int (ys.getD 2 0))) (own_at (by rw [hy]; decide)) d5_30 (pc' := 31) rfl ?_
              refine giloadN B X d5_31 rfl (pc' := 32) rfl ?_
              by_cases c32_123 : (ys.getD 2 0) = x
              · refine gicN B X d5_32 (teq c32_123).2 (pc' := 35) rfl ?_
                refine giconst B X d5_35 (v := (1 : Int32)) rfl (pc' := 36) rfl ?_
                refine ggoto B X (pc' := 40) d5_36 (by decide) ?_
                have e_J : (oin len x (ys.getD 0 0) (ys.getD 1 0) (ys.getD 2 0)) = (1 : Int32) := by rw [oin, if_pos c1_118, if_neg c8_119, if_pos c13_120, if_neg c20_121, if_pos c25_122, if_pos c32_123]
                rw [e_J] at J
                exact J _ X
              · refine gicY B X (pc' := 39) d5_32 (feq c32_123).2 (by decide) ?_
                refine giconst B X d5_39 (v := (0 : Int32)) rfl (pc' := 40) rfl ?_
                have e_J : (oin len x (ys.getD 0 0) (ys.getD 1 0) (ys.getD 2 0)) = (0 : Int32) := by rw [oin, if_pos c1_118, if_neg c8_119, if_pos c13_120, if_neg c20_121, if_pos c25_122, if_neg c32_123]
                rw [e_J] at J
                exact J _ X
            · refine gicY B X (pc' := 39) d5_25 (flt c25_122).2.2.2 (by decide) ?_
              refine giconst B X d5_39 (v := (0 : Int32)) rfl (pc' := 40) rfl ?_
              have e_J : (oin len x (ys.getD 0 0) (ys.getD 1 0) (ys.getD 2 0)) = (0 : Int32) := by rw [oin, if_pos c1_118, if_neg c8_119, if_pos c13_120, if_neg c20_121, if_neg c25_122]
              rw [e_J] at J
              exact J _ X
        · refine gicY B X (pc' := 23) d5_13 (flt c13_120).2.2.2 (by decide) ?_
          refine giloadN B X d5_23 rfl (pc' := 24) rfl ?_
          refine giconst B X d5_24 (v := (2 : Int32)) rfl (pc' := 25) rfl ?_
          by_cases c25_124 : (2 : Int32) < len
          · refine gicN B X d5_25 (tlt c25_124).2.2.2 (pc' := 28) rfl ?_
            refine galoadN B X d5_28 rfl rfl (pc' := 29) rfl ?_
            refine giconst B X d5_29 (v := (2 : Int32)) rfl (pc' := 30) rfl ?_
            refine giaload B X FR (n := 4) (by rw [List.length_map]; exact hy) (by decide) (v := (.int (ys.getD 2 0))) (own_at (by rw [hy]; decide)) d5_30 (pc' := 31) rfl ?_
            refine giloadN B X d5_31 rfl (pc' := 32) rfl ?_
            by_cases c32_125 : (ys.getD 2 0) = x
            · refine gicN B X d5_32 (teq c32_125).2 (pc' := 35) rfl ?_
              refine giconst B X d5_35 (v := (1 : Int32)) rfl (pc' := 36) rfl ?_
              refine ggoto B X (pc' := 40) d5_36 (by decide) ?_
              have e_J : (oin len x (ys.getD 0 0) (ys.getD 1 0) (ys.getD 2 0)) = (1 : Int32) := by rw [oin, if_pos c1_118, if_neg c8_119, if_neg c13_120, if_pos c25_124, if_pos c32_125]
              rw [e_J] at J
              exact J _ X
            · refine gicY B X (pc' := 39) d5_32 (feq c32_125).2 (by decide) ?_
              refine giconst B X d5_39 (v := (0 : Int32)) rfl (pc' := 40) rfl ?_
              have e_J : (oin len x (ys.getD 0 0) (ys.getD 1 0) (ys.getD 2 0)) = (0 : Int32) := by rw [oin, if_pos c1_118, if_neg c8_119, if_neg c13_120, if_pos c25_124, if_neg c32_125]
              rw [e_J] at J
              exact J _ X
          · refine gicY B X (pc' := 39) d5_25 (flt c25_124).2.2.2 (by decide) ?_
            refine giconst B X d5_39 (v := (0 : Int32)) rfl (pc' := 40) rfl ?_
            have e_J : (oin len x (ys.getD 0 0) (ys.getD 1 0) (ys.getD 2 0)) = (0 : Int32) := by rw [oin, if_pos c1_118, if_neg c8_119, if_neg c13_120, if_neg c25_124]
            rw [e_J] at J
            exact J _ X
    · refine gifY B X (pc' := 11) d5_1 ((if0 _ _).trans (flt c1_118).2.2.2) (by decide) ?_
      refine giloadN B X d5_11 rfl (pc' := 12) rfl ?_
      refine giconst B X d5_12 (v := (1 : Int32)) rfl (pc' := 13) rfl ?_
      by_cases c13_126 : (1 : Int32) < len
      · refine gicN B X d5_13 (tlt c13_126).2.2.2 (pc' := 16) rfl ?_
        refine galoadN B X d5_16 rfl rfl (pc' := 17) rfl ?_
        refine giconst B X d5_17 (v := (1 : Int32)) rfl (pc' := 18) rfl ?_
        refine giaload B X FR (n := 4) (by rw [List.length_map]; exact hy) (by decide) (v := (.int (ys.getD 1 0))) (own_at (by rw [hy]; decide)) d5_18 (pc' := 19) rfl ?_
        refine giloadN B X d5_19 rfl (pc' := 20) rfl ?_
        by_cases c20_127 : (ys.getD 1 0) = x
        · refine gicY B X (pc' := 35) d5_20 (teq c20_127).1 (by decide) ?_
          refine giconst B X d5_35 (v := (1 : Int32)) rfl (pc' := 36) rfl ?_
          refine ggoto B X (pc' := 40) d5_36 (by decide) ?_
          have e_J : (oin len x (ys.getD 0 0) (ys.getD 1 0) (ys.getD 2 0)) = (1 : Int32) := by rw [oin, if_neg c1_118, if_pos c13_126, if_pos c20_127]
          rw [e_J] at J
          exact J _ X
        · refine gicN B X d5_20 (feq c20_127).1 (pc' := 23) rfl ?_
          refine giloadN B X d5_23 rfl (pc' := 24) rfl ?_
          refine giconst B X d5_24 (v := (2 : Int32)) rfl (pc' := 25) rfl ?_
          by_cases c25_128 : (2 : Int32) < len
          · refine gicN B X d5_25 (tlt c25_128).2.2.2 (pc' := 28) rfl ?_
            refine galoadN B X d5_28 rfl rfl (pc' := 29) rfl ?_
            refine giconst B X d5_29 (v := (2 : Int32)) rfl (pc' := 30) rfl ?_
            refine giaload B X FR (n := 4) (by rw [List.length_map]; exact hy) (by decide) (v := (.int (ys.getD 2 0))) (own_at (by rw [hy]; decide)) d5_30 (pc' := 31) rfl ?_
            refine giloadN B X d5_31 rfl (pc' := 32) rfl ?_
            by_cases c32_129 : (ys.getD 2 0) = x
            · refine gicN B X d5_32 (teq c32_129).2 (pc' := 35) rfl ?_
              refine giconst B X d5_35 (v := (1 : Int32)) rfl (pc' := 36) rfl ?_
              refine ggoto B X (pc' := 40) d5_36 (by decide) ?_
              have e_J : (oin len x (ys.getD 0 0) (ys.getD 1 0) (ys.getD 2 0)) = (1 : Int32) := by rw [oin, if_neg c1_118, if_pos c13_126, if_neg c20_127, if_pos c25_128, if_pos c32_129]
              rw [e_J] at J
              exact J _ X
            · refine gicY B X (pc' := 39) d5_32 (feq c32_129).2 (by decide) ?_
              refine giconst B X d5_39 (v := (0 : Int32)) rfl (pc' := 40) rfl ?_
              have e_J : (oin len x (ys.getD 0 0) (ys.getD 1 0) (ys.getD 2 0)) = (0 : Int32) := by rw [oin, if_neg c1_118, if_pos c13_126, if_neg c20_127, if_pos c25_128, if_neg c32_129]
              rw [e_J] at J
              exact J _ X
          · refine gicY B X (pc' := 39) d5_25 (flt c25_128).2.2.2 (by decide) ?_
            refine giconst B X d5_39 (v := (0 : Int32)) rfl (pc' := 40) rfl ?_
            have e_J : (oin len x (ys.getD 0 0) (ys.getD 1 0) (ys.getD 2 0)) = (0 : Int32) := by rw [oin, if_neg c1_118, if_pos c13_126, if_neg c20_127, if_neg c25_128]
            rw [e_J] at J
            exact J _ X
      · refine gicY B X (pc' := 23) d5_13 (flt c13_126).2.2.2 (by decide) ?_
        refine giloadN B X d5_23 rfl (pc' := 24) rfl ?_
        refine giconst B X d5_24 (v := (2 : Int32)) rfl (pc' := 25) rfl ?_
        by_cases c25_130 : (2 : Int32) < len
        · refine gicN B X d5_25 (tlt c25_130).2.2.2 (pc' := 28) rfl ?_
          refine galoadN B X d5_28 rfl rfl (pc' := 29) rfl ?_
          refine giconst B X d5_29 (v := (2 : Int32)) rfl (pc' := 30) rfl ?_
          refine giaload B X FR (n := 4) (by rw [List.length_map]; exact hy) (by decide) (v := (.int (ys.getD 2 0))) (own_at (by rw [hy]; decide)) d5_30 (pc' := 31) rfl ?_
          refine giloadN B X d5_31 rfl (pc' := 32) rfl ?_
          by_cases c32_131 : (ys.getD 2 0) = x
          · refine gicN B X d5_32 (teq c32_131).2 (pc' := 35) rfl ?_
            refine giconst B X d5_35 (v := (1 : Int32)) rfl (pc' := 36) rfl ?_
            refine ggoto B X (pc' := 40) d5_36 (by decide) ?_
            have e_J : (oin len x (ys.getD 0 0) (ys.getD 1 0) (ys.getD 2 0)) = (1 : Int32) := by rw [oin, if_neg c1_118, if_neg c13_126, if_pos c25_130, if_pos c32_131]
            rw [e_J] at J
            exact J _ X
          · refine gicY B X (pc' := 39) d5_32 (feq c32_131).2 (by decide) ?_
            refine giconst B X d5_39 (v := (0 : Int32)) rfl (pc' := 40) rfl ?_
            have e_J : (oin len x (ys.getD 0 0) (ys.getD 1 0) (ys.getD 2 0)) = (0 : Int32) := by rw [oin, if_neg c1_118, if_neg c13_126, if_pos c25_130, if_neg c32_131]
            rw [e_J] at J
            exact J _ X
        · refine gicY B X (pc' := 39) d5_25 (flt c25_130).2.2.2 (by decide) ?_
          refine giconst B X d5_39 (v := (0 : Int32)) rfl (pc' := 40) rfl ?_
          have e_J : (oin len x (ys.getD 0 0) (ys.getD 1 0) (ys.getD 2 0)) = (0 : Int32) := by rw [oin, if_neg c1_118, if_neg c13_126, if_neg c25_130]
          rw [e_J] at J
          exact J _ X
  intro T132 X133
  show Go p e below s _ _ _ _ _ T132 (mkF m 40 #[.val (.ref r), .val (.int len), .val (.int x), .unset] [(.int (oin len x (ys.getD 0 0) (ys.getD 1 0) (ys.getD 2 0)))])
  refine gistoreN B X133 d5_40 (Ls' := #[.val (.ref r), .val (.int len), .val (.int x), .val (.int (oin len x (ys.getD 0 0) (ys.getD 1 0) (ys.getD 2 0)))]) rfl (pc' := 41) rfl ?_
  refine giloadN B X133 d5_41 rfl (pc' := 42) rfl ?_
  by_cases c42_134 : (oin len x (ys.getD 0 0) (ys.getD 1 0) (ys.getD 2 0)) = (0 : Int32)
  · refine gifY B X133 (pc' := 47) d5_42 ((if0 _ _).trans (teq c42_134).1) (by decide) ?_
    refine galoadN B X133 d5_47 rfl rfl (pc' := 48) rfl ?_
    refine giloadN B X133 d5_48 rfl (pc' := 49) rfl ?_
    refine giloadN B X133 d5_49 rfl (pc' := 50) rfl ?_
    refine giastore B X133 (i := len.toNatClampNeg) FR (n := 4) (by rw [List.length_map]; exact hy) hl rfl (vs' := ((ys.set len.toNatClampNeg x).map Value.int)) (own_set _ _ _) (Or.inl (List.mem_of_getElem? (i := 0) rfl)) d5_50 (pc' := 51) rfl fun T135 h136 X137 W138 A139 => ?_
    refine giloadN B X137 d5_51 rfl (pc' := 52) rfl ?_
    refine giconst B X137 d5_52 (v := (1 : Int32)) rfl (pc' := 53) rfl ?_
    refine giadd B X137 d5_53 rfl (pc' := 54) rfl ?_
    exact gretI B X137 d5_54 (by decide) (by decide) (by rw [oPut, if_pos c42_134]; exact ⟨rfl, A139⟩)
  · refine gifN B X133 d5_42 ((if0 _ _).trans (feq c42_134).1) (pc' := 45) rfl ?_
    refine giloadN B X133 d5_45 rfl (pc' := 46) rfl ?_
    exact gretI B X133 d5_46 (by decide) (by decide) (by rw [oPut, if_neg c42_134]; exact ⟨rfl, FR⟩)
def oY0 : List Int32 := [0, 0, 0, 0]
def oS1 (k a : Int32) : QS := oAdd k (oS0 k) a
def oS2 (k a b : Int32) : QS := oAdd k (oS1 k a) b
def oS3 (k a b c : Int32) : QS := oAdd k (oS2 k a b) c
def oP1 (a : Int32) := oPut oY0 0 a
def oP2 (a b : Int32) := oPut (oP1 a).1 (oP1 a).2 b
def oP3 (a b c : Int32) := oPut (oP2 a b).1 (oP2 a b).2 c
def oY4 (a b c : Int32) : List Int32 := [(oP3 a b c).1.getD 1 0, (oP3 a b c).1.getD 2 0, 0, (oP3 a b c).1.getD 3 0]
def oS4 (k a b c : Int32) : QS := oPoll k (oS3 k a b c)
def oS5 (k a b c d : Int32) : QS := oAdd k (oS4 k a b c) d
def oP5 (a b c d : Int32) := oPut (oY4 a b c) ((oP3 a b c).2 - 1) d
def oS6 (k a b c d : Int32) : QS := oPoll k (oS5 k a b c d)
def oS7 (k a b c d : Int32) : QS := oPoll k (oS6 k a b c d)
def oS8 (k a b c d : Int32) : QS := oPoll k (oS7 k a b c d)
def oAll (k a b c d : Int32) : Prop := ((oP1 a).1.length = 4 ∧ (0 ≤ (oP1 a).2.toInt ∧ (oP1 a).2.toInt < (4 : Nat)) ∧ (oP2 a b).1.length = 4 ∧ (0 ≤ (oP2 a b).2.toInt ∧ (oP2 a b).2.toInt < (4 : Nat)) ∧ (oP3 a b c).1.length = 4 ∧ (0 ≤ ((oP3 a b c).2 - 1).toInt ∧ ((oP3 a b c).2 - 1).toInt < (4 : Nat)) ∧ (oP5 a b c d).1.length = 4) ∧
  oVal (oS3 k a b c) = (oP3 a b c).1.getD 0 0 ∧ (0 : Int32) < (oP5 a b c d).2 ∧ oVal (oS5 k a b c d) = (oP5 a b c d).1.getD 0 0 ∧
  (((1 : Int32) < (oP5 a b c d).2 → oVal (oS6 k a b c d) = (oP5 a b c d).1.getD 1 0) ∧ ((2 : Int32) < (oP5 a b c d).2 → oVal (oS7 k a b c d) = (oP5 a b c d).1.getD 2 0)) ∧
  (¬ (1 : Int32) < (oP5 a b c d).2 → ¬ (2 : Int32) < (oP5 a b c d).2 ∧ (oS6 k a b c d).2.2.2.2 = 0) ∧ ((1 : Int32) < (oP5 a b c d).2 → ¬ (2 : Int32) < (oP5 a b c d).2 → (oS7 k a b c d).2.2.2.2 = 0) ∧ ((2 : Int32) < (oP5 a b c d).2 → (oS8 k a b c d).2.2.2.2 = 0)
theorem own_p (x : Int32) : 0 ≤ (x &&& 2147483647).toInt := by
  have h := c_mask x 2147483647 31 (by decide) (by decide); rw [h]; omega
theorem own_n (x : Int32) : (1 : Int32) + (x &&& 2147483647) % 3 = 1 ∨ (1 : Int32) + (x &&& 2147483647) % 3 = 2 ∨ (1 : Int32) + (x &&& 2147483647) % 3 = 3 := by
  have h := (c_irem (x &&& 2147483647) 3 3 (by decide)).1 (own_p x)
  have s := c_iadd 1 ((x &&& 2147483647) % 3); have r := rng32 (1 + (x &&& 2147483647) % 3)
  have z : (1 : Int32).toInt = 1 := rfl
  simp only [← Int32.toInt_inj, Int32.reduceToInt] at *; omega
theorem own_x (x k : Int32) (hk : 0 < k.toInt) : 0 ≤ ((x &&& 2147483647) % k).toInt ∧ ((x &&& 2147483647) % k).toInt < k.toInt := by
  have h := (c_irem (x &&& 2147483647) k k.toInt rfl).1 (own_p x)
  rw [h]; exact ⟨Int.emod_nonneg _ (by omega), Int.emod_lt_of_pos _ hk⟩
theorem own_ok0 (k : Int32) (h : k = 1 ∨ k = 2 ∨ k = 3) : Ok k (oS0 k) := by
  rcases h with rfl | rfl | rfl
  · exact ⟨rfl, rfl, by decide, by decide, fun j hj => by revert j; decide⟩
  · exact ⟨rfl, rfl, by decide, by decide, fun j hj => by revert j; decide⟩
  · exact ⟨rfl, rfl, by decide, by decide, fun j hj => by revert j; decide⟩
instance (k a b c d : Int32) : Decidable (oAll k a b c d) := by unfold oAll; infer_instance
theorem own_fin (k x : Int32) (n : Nat) (hk : k.toInt = n) (hx : 0 ≤ x.toInt ∧ x.toInt < k.toInt) : ∃ i : Fin n, x = Int32.ofInt (i.1 : Int) := ⟨⟨x.toInt.toNat, by omega⟩, by rw [Int.toNat_of_nonneg hx.1]; exact (Int32.ofInt_toInt x).symm⟩
set_option maxRecDepth 100000 in
set_option maxHeartbeats 4000000 in
theorem own_dec1 : ∀ a b c d : Fin 1, oAll 1 (Int32.ofInt (a.1 : Int)) (Int32.ofInt (b.1 : Int)) (Int32.ofInt (c.1 : Int)) (Int32.ofInt (d.1 : Int)) := by decide +kernel
theorem own_all1 (a b c d : Int32) (ha : 0 ≤ a.toInt ∧ a.toInt < (1 : Int32).toInt) (hb : 0 ≤ b.toInt ∧ b.toInt < (1 : Int32).toInt) (hc : 0 ≤ c.toInt ∧ c.toInt < (1 : Int32).toInt) (hd : 0 ≤ d.toInt ∧ d.toInt < (1 : Int32).toInt) : oAll 1 a b c d := by
  obtain ⟨i, rfl⟩ := own_fin 1 a 1 rfl ha; obtain ⟨j, rfl⟩ := own_fin 1 b 1 rfl hb; obtain ⟨u, rfl⟩ := own_fin 1 c 1 rfl hc; obtain ⟨w, rfl⟩ := own_fin 1 d 1 rfl hd
  exact own_dec1 i j u w
set_option maxRecDepth 100000 in
set_option maxHeartbeats 4000000 in
theorem own_dec2 : ∀ a b c d : Fin 2, oAll 2 (Int32.ofInt (a.1 : Int)) (Int32.ofInt (b.1 : Int)) (Int32.ofInt (c.1 : Int)) (Int32.ofInt (d.1 : Int)) := by decide +kernel
theorem own_all2 (a b c d : Int32) (ha : 0 ≤ a.toInt ∧ a.toInt < (2 : Int32).toInt) (hb : 0 ≤ b.toInt ∧ b.toInt < (2 : Int32).toInt) (hc : 0 ≤ c.toInt ∧ c.toInt < (2 : Int32).toInt) (hd : 0 ≤ d.toInt ∧ d.toInt < (2 : Int32).toInt) : oAll 2 a b c d := by
  obtain ⟨i, rfl⟩ := own_fin 2 a 2 rfl ha; obtain ⟨j, rfl⟩ := own_fin 2 b 2 rfl hb; obtain ⟨u, rfl⟩ := own_fin 2 c 2 rfl hc; obtain ⟨w, rfl⟩ := own_fin 2 d 2 rfl hd
  exact own_dec2 i j u w
set_option maxRecDepth 100000 in
set_option maxHeartbeats 4000000 in
theorem own_dec3 : ∀ a b c d : Fin 3, oAll 3 (Int32.ofInt (a.1 : Int)) (Int32.ofInt (b.1 : Int)) (Int32.ofInt (c.1 : Int)) (Int32.ofInt (d.1 : Int)) := by decide +kernel
theorem own_all3 (a b c d : Int32) (ha : 0 ≤ a.toInt ∧ a.toInt < (3 : Int32).toInt) (hb : 0 ≤ b.toInt ∧ b.toInt < (3 : Int32).toInt) (hc : 0 ≤ c.toInt ∧ c.toInt < (3 : Int32).toInt) (hd : 0 ≤ d.toInt ∧ d.toInt < (3 : Int32).toInt) : oAll 3 a b c d := by
  obtain ⟨i, rfl⟩ := own_fin 3 a 3 rfl ha; obtain ⟨j, rfl⟩ := own_fin 3 b 3 rfl hb; obtain ⟨u, rfl⟩ := own_fin 3 c 3 rfl hc; obtain ⟨w, rfl⟩ := own_fin 3 d 3 rfl hd
  exact own_dec3 i j u w
theorem own_list4 {xs : List Int32} (h : xs.length = 4) : xs = [xs.getD 0 0, xs.getD 1 0, xs.getD 2 0, xs.getD 3 0] := by
  match xs, h with
  | [a, b, c, d], _ => rfl
theorem pn0 : plainFor (⟨"com/example/glouton/glouton/consistency/DistinctQueueAddPinLaw", "law", "(IIIII)Z"⟩ : MethodName) = true := plainFor_of_name (by first | (simp [plainName, overriddenIn]; done) | decide +kernel)
theorem ef0_IIIII (m : MethodId) (x0 : Int32) (x1 : Int32) (x2 : Int32) (x3 : Int32) (x4 : Int32) : entryFrame m #[(.int x0), (.int x1), (.int x2), (.int x3), (.int x4)] 16 = mkF m 0 #[.val (.int x0), .val (.int x1), .val (.int x2), .val (.int x3), .val (.int x4), .unset, .unset, .unset, .unset, .unset, .unset, .unset, .unset, .unset, .unset, .unset] [] := by first | (simp [entryFrame, mkF, argsToLocals, Value.category]; done) | rfl
theorem pd__I_V : parseMethodDescriptor "(I)V" = some ⟨[.int], none⟩ := by decide +kernel
theorem pd___III_I : parseMethodDescriptor "([III)I" = some ⟨[(.array .int), .int, .int], some .int⟩ := by decide +kernel
theorem pd___I : parseMethodDescriptor "()I" = some ⟨[], some .int⟩ := by decide +kernel
theorem pd___Z : parseMethodDescriptor "()Z" = some ⟨[], some .boolean⟩ := by decide +kernel
set_option maxRecDepth 65536 in
set_option maxHeartbeats 4000000 in
theorem mt0 (l : Launch) (Z : State) (a0 : Array Value) (hw : ∀ d ∈ tables_1, d.before a0 Z = true) (p0 : Int32) (p1 : Int32) (p2 : Int32) (p3 : Int32) (p4 : Int32) (h0 : Heap) : Meth l Z x code maxLocals ret room_1 #[(.int p0), (.int p1), (.int p2), (.int p3), (.int p4)] h0 [] (fun v h' => v = some (.int 1)) := by
  refine Meth.of pn0 ?_
  intro p e s m below meth c T B X
  have B : Fix p Z s m meth c code 16 "com/example/glouton/glouton/consistency/DistinctQueueAddPinLaw" "law" (some .boolean) := B
  refine Go.entry (ef0_IIIII m p0 p1 p2 p3 p4) ?_
  refine giconst B X at_0 (v := (1 : Int32)) rfl (pc' := 1) rfl ?_
  refine giloadN B X at_1 rfl (pc' := 2) rfl ?_
  refine gldc B X (v := (2147483647 : Int32)) (hw _ (List.mem_of_getElem? (i := 0) rfl)) at_2 (pc' := 4) rfl ?_
  refine giand B X at_4 rfl (pc' := 5) rfl ?_
  refine giconst B X at_5 (v := (3 : Int32)) rfl (pc' := 6) rfl ?_
  refine girem B X at_6 (by decide) rfl (pc' := 7) rfl ?_
  refine giadd B X at_7 rfl (pc' := 8) rfl ?_
  rcases own_n p0 with e_n | e_n | e_n
  · rw [e_n]
    refine gistore B X at_8 (Ls' := #[.val (.int p0), .val (.int p1), .val (.int p2), .val (.int p3), .val (.int p4), .val (.int (1 : Int32)), .unset, .unset, .unset, .unset, .unset, .unset, .unset, .unset, .unset, .unset]) rfl (pc' := 10) rfl ?_
    refine giloadN B X at_10 rfl (pc' := 11) rfl ?_
    refine gldc B X (v := (2147483647 : Int32)) (hw _ (List.mem_of_getElem? (i := 0) rfl)) at_11 (pc' := 13) rfl ?_
    refine giand B X at_13 rfl (pc' := 14) rfl ?_
    refine giload B X at_14 rfl (pc' := 16) rfl ?_
    refine girem B X at_16 (by decide) rfl (pc' := 17) rfl ?_
    generalize e_qa : ((p1 &&& (2147483647 : Int32)) % (1 : Int32)) = qa
    refine gistore B X at_17 (Ls' := #[.val (.int p0), .val (.int p1), .val (.int p2), .val (.int p3), .val (.int p4), .val (.int (1 : Int32)), .val (.int qa), .unset, .unset, .unset, .unset, .unset, .unset, .unset, .unset, .unset]) rfl (pc' := 19) rfl ?_
    have hqa := own_x p1 (1 : Int32) (by decide); rw [e_qa] at hqa
    refine giloadN B X at_19 rfl (pc' := 20) rfl ?_
    refine gldc B X (v := (2147483647 : Int32)) (hw _ (List.mem_of_getElem? (i := 0) rfl)) at_20 (pc' := 22) rfl ?_
    refine giand B X at_22 rfl (pc' := 23) rfl ?_
    refine giload B X at_23 rfl (pc' := 25) rfl ?_
    refine girem B X at_25 (by decide) rfl (pc' := 26) rfl ?_
    generalize e_qb : ((p2 &&& (2147483647 : Int32)) % (1 : Int32)) = qb
    refine gistore B X at_26 (Ls' := #[.val (.int p0), .val (.int p1), .val (.int p2), .val (.int p3), .val (.int p4), .val (.int (1 : Int32)), .val (.int qa), .val (.int qb), .unset, .unset, .unset, .unset, .unset, .unset, .unset, .unset]) rfl (pc' := 28) rfl ?_
    have hqb := own_x p2 (1 : Int32) (by decide); rw [e_qb] at hqb
    refine giloadN B X at_28 rfl (pc' := 29) rfl ?_
    refine gldc B X (v := (2147483647 : Int32)) (hw _ (List.mem_of_getElem? (i := 0) rfl)) at_29 (pc' := 31) rfl ?_
    refine giand B X at_31 rfl (pc' := 32) rfl ?_
    refine giload B X at_32 rfl (pc' := 34) rfl ?_
    refine girem B X at_34 (by decide) rfl (pc' := 35) rfl ?_
    generalize e_qc : ((p3 &&& (2147483647 : Int32)) % (1 : Int32)) = qc
    refine gistore B X at_35 (Ls' := #[.val (.int p0), .val (.int p1), .val (.int p2), .val (.int p3), .val (.int p4), .val (.int (1 : Int32)), .val (.int qa), .val (.int qb), .val (.int qc), .unset, .unset, .unset, .unset, .unset, .unset, .unset]) rfl (pc' := 37) rfl ?_
    have hqc := own_x p3 (1 : Int32) (by decide); rw [e_qc] at hqc
    refine giload B X at_37 rfl (pc' := 39) rfl ?_
    refine gldc B X (v := (2147483647 : Int32)) (hw _ (List.mem_of_getElem? (i := 0) rfl)) at_39 (pc' := 41) rfl ?_
    refine giand B X at_41 rfl (pc' := 42) rfl ?_
    refine giload B X at_42 rfl (pc' := 44) rfl ?_
    refine girem B X at_44 (by decide) rfl (pc' := 45) rfl ?_
    generalize e_qd : ((p4 &&& (2147483647 : Int32)) % (1 : Int32)) = qd
    refine gistore B X at_45 (Ls' := #[.val (.int p0), .val (.int p1), .val (.int p2), .val (.int p3), .val (.int p4), .val (.int (1 : Int32)), .val (.int qa), .val (.int qb), .val (.int qc), .val (.int qd), .unset, .unset, .unset, .unset, .unset, .unset]) rfl (pc' := 47) rfl ?_
    have hqd := own_x p4 (1 : Int32) (by decide); rw [e_qd] at hqd
    have hA := own_all1 qa qb qc qd hqa hqb hqc hqd
    have ok0 := own_ok0 (1 : Int32) (by decide)
    refine gnew B X (hw _ (List.mem_of_getElem? (i := 1) rfl)) (hw _ (List.mem_of_getElem? (i := 2) rfl)) (hw _ (List.mem_of_getElem? (i := 3) rfl)) (by decide) (by decide) at_47 (pc' := 50) rfl fun T140 h141 a142 X143 q144 E145 z_a142 A146 D147 => ?_
    have O148 : Dq Z h141 a142 .null .null (.int (0 : Int32)) (.int (0 : Int32)) (.int (0 : Int32)) := ⟨A146, D147 (Or.inr (hw _ (List.mem_of_getElem? (i := 12) rfl))) (ty := (.array .int)) (by decide), D147 (Or.inr (hw _ (List.mem_of_getElem? (i := 15) rfl))) (ty := (.array .boolean)) (by decide), D147 (Or.inl (hw _ (List.mem_of_getElem? (i := 39) rfl))) (ty := .int) (by decide), D147 (Or.inl (hw _ (List.mem_of_getElem? (i := 22) rfl))) (ty := .int) (by decide), D147 (Or.inl (hw _ (List.mem_of_getElem? (i := 28) rfl))) (ty := .int) (by decide)⟩
    refine gdup B X143 at_50 rfl (pc' := 51) rfl ?_
    refine giload B X143 at_51 rfl (pc' := 53) rfl ?_
    refine gcallI B X143 rfl rfl (hw _ (List.mem_of_getElem? (i := 4) rfl)) (hw _ (List.mem_of_getElem? (i := 5) rfl)) (hw _ (List.mem_of_getElem? (i := 3) rfl)) (hw _ (List.mem_of_getElem? (i := 6) rfl)) (by decide) (mt1 l Z a0 hw a142 (1 : Int32)  h141 O148 (by decide)) pd__I_V rfl (argsL := [(.int (1 : Int32))]) (st := [(.ref a142)]) rfl rfl (W := 1) (Nat.le_of_eq rfl) (by decide) (by decide) (by decide) (by decide) (allS (Or.inr z_a142) all0) at_53 (pc' := 56) rfl fun T149 h150 v151 X152 K153 Q154 => ?_
    obtain ⟨rfl, r155, t156, y157, y158, n159, O160, A161, A162⟩ := Q154
    have z_r155 : h0.size ≤ r155 := Nat.le_trans X143.kept.1 y157
    have n163 : a142 ≠ r155 := Nat.ne_of_lt (Nat.lt_of_lt_of_le O148.lt y157)
    have z_t156 : h0.size ≤ t156 := Nat.le_trans X143.kept.1 y158
    have n164 : a142 ≠ t156 := Nat.ne_of_lt (Nat.lt_of_lt_of_le O148.lt y158)
    have A161' : VA Z h150 r155 .int ((oS0 (1 : Int32)).1.map Value.int) := A161
    have A162' : VA Z h150 t156 .boolean ((oS0 (1 : Int32)).2.1.map Value.int) := A162
    show Go p e below s _ _ _ _ _ T149 (mkF m 56 #[.val (.int p0), .val (.int p1), .val (.int p2), .val (.int p3), .val (.int p4), .val (.int (1 : Int32)), .val (.int qa), .val (.int qb), .val (.int qc), .val (.int qd), .unset, .unset, .unset, .unset, .unset, .unset] [(.ref a142)])
    refine gastore B X152 at_56 rfl (Ls' := #[.val (.int p0), .val (.int p1), .val (.int p2), .val (.int p3), .val (.int p4), .val (.int (1 : Int32)), .val (.int qa), .val (.int qb), .val (.int qc), .val (.int qd), .val (.ref a142), .unset, .unset, .unset, .unset, .unset]) rfl (pc' := 58) rfl ?_
    refine giconst B X152 at_58 (v := (4 : Int32)) rfl (pc' := 59) rfl ?_
    refine gnewarray B X152 (cap := 4) (vs := [(.int (0 : Int32)), (.int (0 : Int32)), (.int (0 : Int32)), (.int (0 : Int32))]) (ty := .int) rfl rfl (hw _ (List.mem_of_getElem? (i := 10) rfl)) (by decide) (by decide) (by decide) (by decide) (by decide) at_59 (pc' := 61) rfl fun T165 h166 a167 X168 q169 E170 z_a167 A171 => ?_
    have n172 : a142 ≠ a167 := by rw [q169]; exact Nat.ne_of_lt O160.lt
    have n173 : r155 ≠ a167 := by rw [q169]; exact Nat.ne_of_lt A161'.lt
    have n174 : t156 ≠ a167 := by rw [q169]; exact Nat.ne_of_lt A162'.lt
    have F175 := O160.ext E170
    have F176 := A161'.ext E170
    have F177 := A162'.ext E170
    refine gastore B X168 at_61 rfl (Ls' := #[.val (.int p0), .val (.int p1), .val (.int p2), .val (.int p3), .val (.int p4), .val (.int (1 : Int32)), .val (.int qa), .val (.int qb), .val (.int qc), .val (.int qd), .val (.ref a142), .val (.ref a167), .unset, .unset, .unset, .unset]) rfl (pc' := 63) rfl ?_
    refine giconst B X168 at_63 (v := (0 : Int32)) rfl (pc' := 64) rfl ?_
    refine gistore B X168 at_64 (Ls' := #[.val (.int p0), .val (.int p1), .val (.int p2), .val (.int p3), .val (.int p4), .val (.int (1 : Int32)), .val (.int qa), .val (.int qb), .val (.int qc), .val (.int qd), .val (.ref a142), .val (.ref a167), .val (.int (0 : Int32)), .unset, .unset, .unset]) rfl (pc' := 66) rfl ?_
    refine gaload B X168 at_66 rfl rfl (pc' := 68) rfl ?_
    refine giload B X168 at_68 rfl (pc' := 70) rfl ?_
    refine gcallV B X168 F175.1 (hw _ (List.mem_of_getElem? (i := 16) rfl)) (hw _ (List.mem_of_getElem? (i := 17) rfl)) (hw _ (List.mem_of_getElem? (i := 19) rfl)) (hw _ (List.mem_of_getElem? (i := 18) rfl)) (hw _ (List.mem_of_getElem? (i := 3) rfl)) (hw _ (List.mem_of_getElem? (i := 20) rfl)) rfl (by decide) (mt3 l Z a0 hw a142 qa r155 t156 (1 : Int32) (oS0 (1 : Int32)) h166 F175 F176 F177 n163 n164 n159 ok0 hqa) pd__I_V rfl (argsL := [(.int qa)]) (st := []) rfl rfl (W := 0) (Nat.le_of_eq rfl) (by decide) (by decide) (by decide) (by decide) (allS (Or.inr z_a142) (allS (Or.inr z_r155) (allS (Or.inr z_t156) all0))) at_70 (pc' := 73) rfl fun T178 h179 v180 X181 K182 Q183 => ?_
    have F184 := A171.keep K182 (ninS (Ne.symm n172) (ninS (Ne.symm n173) (ninS (Ne.symm n174) nin0)))
    obtain ⟨rfl, O185, A186, A187⟩ := Q183
    generalize e_s188 : oAdd (1 : Int32) (oS0 (1 : Int32)) qa = s188 at O185 A186 A187
    have ok_s188 := ok0.add hqa; rw [e_s188] at ok_s188
    show Go p e below s _ _ _ _ _ T178 (mkF m 73 #[.val (.int p0), .val (.int p1), .val (.int p2), .val (.int p3), .val (.int p4), .val (.int (1 : Int32)), .val (.int qa), .val (.int qb), .val (.int qc), .val (.int qd), .val (.ref a142), .val (.ref a167), .val (.int (0 : Int32)), .unset, .unset, .unset] [])
    have q_s188 : s188 = oS1 (1 : Int32) qa := by rw [← e_s188]; rfl
    refine gaload B X181 at_73 rfl rfl (pc' := 75) rfl ?_
    refine giload B X181 at_75 rfl (pc' := 77) rfl ?_
    refine giload B X181 at_77 rfl (pc' := 79) rfl ?_
    refine gcallS B X181 (hw _ (List.mem_of_getElem? (i := 29) rfl)) (hw _ (List.mem_of_getElem? (i := 30) rfl)) (hw _ (List.mem_of_getElem? (i := 31) rfl)) (hw _ (List.mem_of_getElem? (i := 32) rfl)) (by decide) (mt5 l Z a0 hw a167 (0 : Int32) qa oY0 h179 F184 rfl (by decide)) pd___III_I rfl (argsL := [(.ref a167), (.int (0 : Int32)), (.int qa)]) (st := []) rfl rfl (W := 0) (Nat.le_of_eq rfl) (by decide) (by decide) (by decide) (by decide) (allS (Or.inr z_a167) all0) at_79 (pc' := 82) rfl fun T189 h190 v191 X192 K193 Q194 => ?_
    have F195 := O185.keep K193 (ninS n172 nin0)
    have F196 := A186.keep K193 (ninS n173 nin0)
    have F197 := A187.keep K193 (ninS n174 nin0)
    obtain ⟨rfl, A198⟩ := Q194
    show Go p e below s _ _ _ _ _ T189 (mkF m 82 #[.val (.int p0), .val (.int p1), .val (.int p2), .val (.int p3), .val (.int p4), .val (.int (1 : Int32)), .val (.int qa), .val (.int qb), .val (.int qc), .val (.int qd), .val (.ref a142), .val (.ref a167), .val (.int (0 : Int32)), .unset, .unset, .unset] [(.int (oPut oY0 (0 : Int32) qa).2)])
    have A199 : VA Z h190 a167 .int ((oP1 qa).1.map Value.int) := A198
    show Go p e below s _ _ _ _ _ T189 (mkF m 82 #[.val (.int p0), .val (.int p1), .val (.int p2), .val (.int p3), .val (.int p4), .val (.int (1 : Int32)), .val (.int qa), .val (.int qb), .val (.int qc), .val (.int qd), .val (.ref a142), .val (.ref a167), .val (.int (0 : Int32)), .unset, .unset, .unset] [(.int (oP1 qa).2)])
    refine gistore B X192 at_82 (Ls' := #[.val (.int p0), .val (.int p1), .val (.int p2), .val (.int p3), .val (.int p4), .val (.int (1 : Int32)), .val (.int qa), .val (.int qb), .val (.int qc), .val (.int qd), .val (.ref a142), .val (.ref a167), .val (.int (oP1 qa).2), .unset, .unset, .unset]) rfl (pc' := 84) rfl ?_
    refine gaload B X192 at_84 rfl rfl (pc' := 86) rfl ?_
    refine giload B X192 at_86 rfl (pc' := 88) rfl ?_
    refine gcallV B X192 F195.1 (hw _ (List.mem_of_getElem? (i := 16) rfl)) (hw _ (List.mem_of_getElem? (i := 17) rfl)) (hw _ (List.mem_of_getElem? (i := 19) rfl)) (hw _ (List.mem_of_getElem? (i := 18) rfl)) (hw _ (List.mem_of_getElem? (i := 3) rfl)) (hw _ (List.mem_of_getElem? (i := 20) rfl)) rfl (by decide) (mt3 l Z a0 hw a142 qb r155 t156 (1 : Int32) s188 h190 F195 F196 F197 n163 n164 n159 ok_s188 hqb) pd__I_V rfl (argsL := [(.int qb)]) (st := []) rfl rfl (W := 0) (Nat.le_of_eq rfl) (by decide) (by decide) (by decide) (by decide) (allS (Or.inr z_a142) (allS (Or.inr z_r155) (allS (Or.inr z_t156) all0))) at_88 (pc' := 91) rfl fun T200 h201 v202 X203 K204 Q205 => ?_
    have F206 := A199.keep K204 (ninS (Ne.symm n172) (ninS (Ne.symm n173) (ninS (Ne.symm n174) nin0)))
    obtain ⟨rfl, O207, A208, A209⟩ := Q205
    generalize e_s210 : oAdd (1 : Int32) s188 qb = s210 at O207 A208 A209
    have ok_s210 := ok_s188.add hqb; rw [e_s210] at ok_s210
    show Go p e below s _ _ _ _ _ T200 (mkF m 91 #[.val (.int p0), .val (.int p1), .val (.int p2), .val (.int p3), .val (.int p4), .val (.int (1 : Int32)), .val (.int qa), .val (.int qb), .val (.int qc), .val (.int qd), .val (.ref a142), .val (.ref a167), .val (.int (oP1 qa).2), .unset, .unset, .unset] [])
    have q_s210 : s210 = oS2 (1 : Int32) qa qb := by rw [← e_s210, q_s188]; rfl
    refine gaload B X203 at_91 rfl rfl (pc' := 93) rfl ?_
    refine giload B X203 at_93 rfl (pc' := 95) rfl ?_
    refine giload B X203 at_95 rfl (pc' := 97) rfl ?_
    refine gcallS B X203 (hw _ (List.mem_of_getElem? (i := 29) rfl)) (hw _ (List.mem_of_getElem? (i := 30) rfl)) (hw _ (List.mem_of_getElem? (i := 31) rfl)) (hw _ (List.mem_of_getElem? (i := 32) rfl)) (by decide) (mt5 l Z a0 hw a167 (oP1 qa).2 qb (oP1 qa).1 h201 F206 hA.1.1 hA.1.2.1) pd___III_I rfl (argsL := [(.ref a167), (.int (oP1 qa).2), (.int qb)]) (st := []) rfl rfl (W := 0) (Nat.le_of_eq rfl) (by decide) (by decide) (by decide) (by decide) (allS (Or.inr z_a167) all0) at_97 (pc' := 100) rfl fun T211 h212 v213 X214 K215 Q216 => ?_
    have F217 := O207.keep K215 (ninS n172 nin0)
    have F218 := A208.keep K215 (ninS n173 nin0)
    have F219 := A209.keep K215 (ninS n174 nin0)
    obtain ⟨rfl, A220⟩ := Q216
    show Go p e below s _ _ _ _ _ T211 (mkF m 100 #[.val (.int p0), .val (.int p1), .val (.int p2), .val (.int p3), .val (.int p4), .val (.int (1 : Int32)), .val (.int qa), .val (.int qb), .val (.int qc), .val (.int qd), .val (.ref a142), .val (.ref a167), .val (.int (oP1 qa).2), .unset, .unset, .unset] [(.int (oPut (oP1 qa).1 (oP1 qa).2 qb).2)])
    have A221 : VA Z h212 a167 .int ((oP2 qa qb).1.map Value.int) := A220
    show Go p e below s _ _ _ _ _ T211 (mkF m 100 #[.val (.int p0), .val (.int p1), .val (.int p2), .val (.int p3), .val (.int p4), .val (.int (1 : Int32)), .val (.int qa), .val (.int qb), .val (.int qc), .val (.int qd), .val (.ref a142), .val (.ref a167), .val (.int (oP1 qa).2), .unset, .unset, .unset] [(.int (oP2 qa qb).2)])
    refine gistore B X214 at_100 (Ls' := #[.val (.int p0), .val (.int p1), .val (.int p2), .val (.int p3), .val (.int p4), .val (.int (1 : Int32)), .val (.int qa), .val (.int qb), .val (.int qc), .val (.int qd), .val (.ref a142), .val (.ref a167), .val (.int (oP2 qa qb).2), .unset, .unset, .unset]) rfl (pc' := 102) rfl ?_
    refine gaload B X214 at_102 rfl rfl (pc' := 104) rfl ?_
    refine giload B X214 at_104 rfl (pc' := 106) rfl ?_
    refine gcallV B X214 F217.1 (hw _ (List.mem_of_getElem? (i := 16) rfl)) (hw _ (List.mem_of_getElem? (i := 17) rfl)) (hw _ (List.mem_of_getElem? (i := 19) rfl)) (hw _ (List.mem_of_getElem? (i := 18) rfl)) (hw _ (List.mem_of_getElem? (i := 3) rfl)) (hw _ (List.mem_of_getElem? (i := 20) rfl)) rfl (by decide) (mt3 l Z a0 hw a142 qc r155 t156 (1 : Int32) s210 h212 F217 F218 F219 n163 n164 n159 ok_s210 hqc) pd__I_V rfl (argsL := [(.int qc)]) (st := []) rfl rfl (W := 0) (Nat.le_of_eq rfl) (by decide) (by decide) (by decide) (by decide) (allS (Or.inr z_a142) (allS (Or.inr z_r155) (allS (Or.inr z_t156) all0))) at_106 (pc' := 109) rfl fun T222 h223 v224 X225 K226 Q227 => ?_
    have F228 := A221.keep K226 (ninS (Ne.symm n172) (ninS (Ne.symm n173) (ninS (Ne.symm n174) nin0)))
    obtain ⟨rfl, O229, A230, A231⟩ := Q227
    generalize e_s232 : oAdd (1 : Int32) s210 qc = s232 at O229 A230 A231
    have ok_s232 := ok_s210.add hqc; rw [e_s232] at ok_s232
    show Go p e below s _ _ _ _ _ T222 (mkF m 109 #[.val (.int p0), .val (.int p1), .val (.int p2), .val (.int p3), .val (.int p4), .val (.int (1 : Int32)), .val (.int qa), .val (.int qb), .val (.int qc), .val (.int qd), .val (.ref a142), .val (.ref a167), .val (.int (oP2 qa qb).2), .unset, .unset, .unset] [])
    have q_s232 : s232 = oS3 (1 : Int32) qa qb qc := by rw [← e_s232, q_s210]; rfl
    refine gaload B X225 at_109 rfl rfl (pc' := 111) rfl ?_
    refine giload B X225 at_111 rfl (pc' := 113) rfl ?_
    refine giload B X225 at_113 rfl (pc' := 115) rfl ?_
    refine gcallS B X225 (hw _ (List.mem_of_getElem? (i := 29) rfl)) (hw _ (List.mem_of_getElem? (i := 30) rfl)) (hw _ (List.mem_of_getElem? (i := 31) rfl)) (hw _ (List.mem_of_getElem? (i := 32) rfl)) (by decide) (mt5 l Z a0 hw a167 (oP2 qa qb).2 qc (oP2 qa qb).1 h223 F228 hA.1.2.2.1 hA.1.2.2.2.1) pd___III_I rfl (argsL := [(.ref a167), (.int (oP2 qa qb).2), (.int qc)]) (st := []) rfl rfl (W := 0) (Nat.le_of_eq rfl) (by decide) (by decide) (by decide) (by decide) (allS (Or.inr z_a167) all0) at_115 (pc' := 118) rfl fun T233 h234 v235 X236 K237 Q238 => ?_
    have F239 := O229.keep K237 (ninS n172 nin0)
    have F240 := A230.keep K237 (ninS n173 nin0)
    have F241 := A231.keep K237 (ninS n174 nin0)
    obtain ⟨rfl, A242⟩ := Q238
    show Go p e below s _ _ _ _ _ T233 (mkF m 118 #[.val (.int p0), .val (.int p1), .val (.int p2), .val (.int p3), .val (.int p4), .val (.int (1 : Int32)), .val (.int qa), .val (.int qb), .val (.int qc), .val (.int qd), .val (.ref a142), .val (.ref a167), .val (.int (oP2 qa qb).2), .unset, .unset, .unset] [(.int (oPut (oP2 qa qb).1 (oP2 qa qb).2 qc).2)])
    have A243 : VA Z h234 a167 .int ((oP3 qa qb qc).1.map Value.int) := A242
    show Go p e below s _ _ _ _ _ T233 (mkF m 118 #[.val (.int p0), .val (.int p1), .val (.int p2), .val (.int p3), .val (.int p4), .val (.int (1 : Int32)), .val (.int qa), .val (.int qb), .val (.int qc), .val (.int qd), .val (.ref a142), .val (.ref a167), .val (.int (oP2 qa qb).2), .unset, .unset, .unset] [(.int (oP3 qa qb qc).2)])
    refine gistore B X236 at_118 (Ls' := #[.val (.int p0), .val (.int p1), .val (.int p2), .val (.int p3), .val (.int p4), .val (.int (1 : Int32)), .val (.int qa), .val (.int qb), .val (.int qc), .val (.int qd), .val (.ref a142), .val (.ref a167), .val (.int (oP3 qa qb qc).2), .unset, .unset, .unset]) rfl (pc' := 120) rfl ?_
    refine gaload B X236 at_120 rfl rfl (pc' := 122) rfl ?_
    refine gcallV B X236 F239.1 (hw _ (List.mem_of_getElem? (i := 33) rfl)) (hw _ (List.mem_of_getElem? (i := 34) rfl)) (hw _ (List.mem_of_getElem? (i := 36) rfl)) (hw _ (List.mem_of_getElem? (i := 35) rfl)) (hw _ (List.mem_of_getElem? (i := 3) rfl)) (hw _ (List.mem_of_getElem? (i := 37) rfl)) rfl (by decide) (mt6 l Z a0 hw a142 r155 t156 (1 : Int32) s232 h234 F239 F240 F241 n163 n164 n159 ok_s232) pd___I rfl (argsL := []) (st := []) rfl rfl (W := 0) (Nat.le_of_eq rfl) (by decide) (by decide) (by decide) (by decide) (allS (Or.inr z_a142) (allS (Or.inr z_r155) (allS (Or.inr z_t156) all0))) at_122 (pc' := 125) rfl fun T244 h245 v246 X247 K248 Q249 => ?_
    have F250 := A243.keep K248 (ninS (Ne.symm n172) (ninS (Ne.symm n173) (ninS (Ne.symm n174) nin0)))
    obtain ⟨rfl, O251, A252, A253⟩ := Q249
    generalize e_s254 : oPoll (1 : Int32) s232 = s254 at O251 A252 A253
    have ok_s254 := ok_s232.poll; rw [e_s254] at ok_s254
    show Go p e below s _ _ _ _ _ T244 (mkF m 125 #[.val (.int p0), .val (.int p1), .val (.int p2), .val (.int p3), .val (.int p4), .val (.int (1 : Int32)), .val (.int qa), .val (.int qb), .val (.int qc), .val (.int qd), .val (.ref a142), .val (.ref a167), .val (.int (oP3 qa qb qc).2), .unset, .unset, .unset] [(.int (oVal s232))])
    have q_s254 : s254 = oS4 (1 : Int32) qa qb qc := by rw [← e_s254, q_s232]; rfl
    refine gistore B X247 at_125 (Ls' := #[.val (.int p0), .val (.int p1), .val (.int p2), .val (.int p3), .val (.int p4), .val (.int (1 : Int32)), .val (.int qa), .val (.int qb), .val (.int qc), .val (.int qd), .val (.ref a142), .val (.ref a167), .val (.int (oP3 qa qb qc).2), .val (.int (oVal s232)), .unset, .unset]) rfl (pc' := 127) rfl ?_
    have A255 : VA Z h245 a167 .int [.int ((oP3 qa qb qc).1.getD 0 0), .int ((oP3 qa qb qc).1.getD 1 0), .int ((oP3 qa qb qc).1.getD 2 0), .int ((oP3 qa qb qc).1.getD 3 0)] := by rw [own_list4 hA.1.2.2.2.2.1] at F250; exact F250
    refine giload B X247 at_127 rfl (pc' := 129) rfl ?_
    refine gaload B X247 at_129 rfl rfl (pc' := 131) rfl ?_
    refine giconst B X247 at_131 (v := (0 : Int32)) rfl (pc' := 132) rfl ?_
    refine giaload B X247 (n := 4) A255 rfl (by decide) (v := (.int ((oP3 qa qb qc).1.getD 0 0))) rfl at_132 (pc' := 133) rfl ?_
    have c133_256 : (oVal s232) = ((oP3 qa qb qc).1.getD 0 0) := by rw [q_s232]; exact hA.2.1
    refine gicN B X247 at_133 (teq c133_256).2 (pc' := 136) rfl ?_
    refine giconst B X247 at_136 (v := (1 : Int32)) rfl (pc' := 137) rfl ?_
    refine ggoto B X247 (pc' := 141) at_137 (by decide) ?_
    refine gistore B X247 at_141 (Ls' := #[.val (.int p0), .val (.int p1), .val (.int p2), .val (.int p3), .val (.int p4), .val (.int (1 : Int32)), .val (.int qa), .val (.int qb), .val (.int qc), .val (.int qd), .val (.ref a142), .val (.ref a167), .val (.int (oP3 qa qb qc).2), .val (.int (oVal s232)), .val (.int (1 : Int32)), .unset]) rfl (pc' := 143) rfl ?_
    refine gaload B X247 at_143 rfl rfl (pc' := 145) rfl ?_
    refine giconst B X247 at_145 (v := (0 : Int32)) rfl (pc' := 146) rfl ?_
    refine gaload B X247 at_146 rfl rfl (pc' := 148) rfl ?_
    refine giconst B X247 at_148 (v := (1 : Int32)) rfl (pc' := 149) rfl ?_
    refine giaload B X247 (n := 4) A255 rfl (by decide) (v := (.int ((oP3 qa qb qc).1.getD 1 0))) rfl at_149 (pc' := 150) rfl ?_
    refine giastore B X247 (i := 0) (n := 4) A255 rfl (by decide) rfl (vs' := [(.int ((oP3 qa qb qc).1.getD 1 0)), (.int ((oP3 qa qb qc).1.getD 1 0)), (.int ((oP3 qa qb qc).1.getD 2 0)), (.int ((oP3 qa qb qc).1.getD 3 0))]) rfl (Or.inr z_a167) at_150 (pc' := 151) rfl fun T257 h258 X259 W260 A261 => ?_
    have F262 := O251.other W260 n172
    have F263 := A252.other W260 n173
    have F264 := A253.other W260 n174
    refine gaload B X259 at_151 rfl rfl (pc' := 153) rfl ?_
    refine giconst B X259 at_153 (v := (1 : Int32)) rfl (pc' := 154) rfl ?_
    refine gaload B X259 at_154 rfl rfl (pc' := 156) rfl ?_
    refine giconst B X259 at_156 (v := (2 : Int32)) rfl (pc' := 157) rfl ?_
    refine giaload B X259 (n := 4) A261 rfl (by decide) (v := (.int ((oP3 qa qb qc).1.getD 2 0))) rfl at_157 (pc' := 158) rfl ?_
    refine giastore B X259 (i := 1) (n := 4) A261 rfl (by decide) rfl (vs' := [(.int ((oP3 qa qb qc).1.getD 1 0)), (.int ((oP3 qa qb qc).1.getD 2 0)), (.int ((oP3 qa qb qc).1.getD 2 0)), (.int ((oP3 qa qb qc).1.getD 3 0))]) rfl (Or.inr z_a167) at_158 (pc' := 159) rfl fun T265 h266 X267 W268 A269 => ?_
    have F270 := F262.other W268 n172
    have F271 := F263.other W268 n173
    have F272 := F264.other W268 n174
    refine gaload B X267 at_159 rfl rfl (pc' := 161) rfl ?_
    refine giconst B X267 at_161 (v := (2 : Int32)) rfl (pc' := 162) rfl ?_
    refine giconst B X267 at_162 (v := (0 : Int32)) rfl (pc' := 163) rfl ?_
    refine giastore B X267 (i := 2) (n := 4) A269 rfl (by decide) rfl (vs' := [(.int ((oP3 qa qb qc).1.getD 1 0)), (.int ((oP3 qa qb qc).1.getD 2 0)), (.int (0 : Int32)), (.int ((oP3 qa qb qc).1.getD 3 0))]) rfl (Or.inr z_a167) at_163 (pc' := 164) rfl fun T273 h274 X275 W276 A277 => ?_
    have F278 := F270.other W276 n172
    have F279 := F271.other W276 n173
    have F280 := F272.other W276 n174
    have A281 : VA Z h274 a167 .int ((oY4 qa qb qc).map Value.int) := A277
    refine giload B X275 at_164 rfl (pc' := 166) rfl ?_
    refine giconst B X275 at_166 (v := (1 : Int32)) rfl (pc' := 167) rfl ?_
    refine gisub B X275 at_167 rfl (pc' := 168) rfl ?_
    refine gistore B X275 at_168 (Ls' := #[.val (.int p0), .val (.int p1), .val (.int p2), .val (.int p3), .val (.int p4), .val (.int (1 : Int32)), .val (.int qa), .val (.int qb), .val (.int qc), .val (.int qd), .val (.ref a142), .val (.ref a167), .val (.int ((oP3 qa qb qc).2 - (1 : Int32))), .val (.int (oVal s232)), .val (.int (1 : Int32)), .unset]) rfl (pc' := 170) rfl ?_
    refine gaload B X275 at_170 rfl rfl (pc' := 172) rfl ?_
    refine giload B X275 at_172 rfl (pc' := 174) rfl ?_
    refine gcallV B X275 F278.1 (hw _ (List.mem_of_getElem? (i := 16) rfl)) (hw _ (List.mem_of_getElem? (i := 17) rfl)) (hw _ (List.mem_of_getElem? (i := 19) rfl)) (hw _ (List.mem_of_getElem? (i := 18) rfl)) (hw _ (List.mem_of_getElem? (i := 3) rfl)) (hw _ (List.mem_of_getElem? (i := 20) rfl)) rfl (by decide) (mt3 l Z a0 hw a142 qd r155 t156 (1 : Int32) s254 h274 F278 F279 F280 n163 n164 n159 ok_s254 hqd) pd__I_V rfl (argsL := [(.int qd)]) (st := []) rfl rfl (W := 0) (Nat.le_of_eq rfl) (by decide) (by decide) (by decide) (by decide) (allS (Or.inr z_a142) (allS (Or.inr z_r155) (allS (Or.inr z_t156) all0))) at_174 (pc' := 177) rfl fun T282 h283 v284 X285 K286 Q287 => ?_
    have F288 := A281.keep K286 (ninS (Ne.symm n172) (ninS (Ne.symm n173) (ninS (Ne.symm n174) nin0)))
    obtain ⟨rfl, O289, A290, A291⟩ := Q287
    generalize e_s292 : oAdd (1 : Int32) s254 qd = s292 at O289 A290 A291
    have ok_s292 := ok_s254.add hqd; rw [e_s292] at ok_s292
    show Go p e below s _ _ _ _ _ T282 (mkF m 177 #[.val (.int p0), .val (.int p1), .val (.int p2), .val (.int p3), .val (.int p4), .val (.int (1 : Int32)), .val (.int qa), .val (.int qb), .val (.int qc), .val (.int qd), .val (.ref a142), .val (.ref a167), .val (.int ((oP3 qa qb qc).2 - (1 : Int32))), .val (.int (oVal s232)), .val (.int (1 : Int32)), .unset] [])
    have q_s292 : s292 = oS5 (1 : Int32) qa qb qc qd := by rw [← e_s292, q_s254]; rfl
    refine gaload B X285 at_177 rfl rfl (pc' := 179) rfl ?_
    refine giload B X285 at_179 rfl (pc' := 181) rfl ?_
    refine giload B X285 at_181 rfl (pc' := 183) rfl ?_
    refine gcallS B X285 (hw _ (List.mem_of_getElem? (i := 29) rfl)) (hw _ (List.mem_of_getElem? (i := 30) rfl)) (hw _ (List.mem_of_getElem? (i := 31) rfl)) (hw _ (List.mem_of_getElem? (i := 32) rfl)) (by decide) (mt5 l Z a0 hw a167 ((oP3 qa qb qc).2 - (1 : Int32)) qd (oY4 qa qb qc) h283 F288 (by rfl) hA.1.2.2.2.2.2.1) pd___III_I rfl (argsL := [(.ref a167), (.int ((oP3 qa qb qc).2 - (1 : Int32))), (.int qd)]) (st := []) rfl rfl (W := 0) (Nat.le_of_eq rfl) (by decide) (by decide) (by decide) (by decide) (allS (Or.inr z_a167) all0) at_183 (pc' := 186) rfl fun T293 h294 v295 X296 K297 Q298 => ?_
    have F299 := O289.keep K297 (ninS n172 nin0)
    have F300 := A290.keep K297 (ninS n173 nin0)
    have F301 := A291.keep K297 (ninS n174 nin0)
    obtain ⟨rfl, A302⟩ := Q298
    show Go p e below s _ _ _ _ _ T293 (mkF m 186 #[.val (.int p0), .val (.int p1), .val (.int p2), .val (.int p3), .val (.int p4), .val (.int (1 : Int32)), .val (.int qa), .val (.int qb), .val (.int qc), .val (.int qd), .val (.ref a142), .val (.ref a167), .val (.int ((oP3 qa qb qc).2 - (1 : Int32))), .val (.int (oVal s232)), .val (.int (1 : Int32)), .unset] [(.int (oPut (oY4 qa qb qc) ((oP3 qa qb qc).2 - (1 : Int32)) qd).2)])
    have A303 : VA Z h294 a167 .int ((oP5 qa qb qc qd).1.map Value.int) := A302
    show Go p e below s _ _ _ _ _ T293 (mkF m 186 #[.val (.int p0), .val (.int p1), .val (.int p2), .val (.int p3), .val (.int p4), .val (.int (1 : Int32)), .val (.int qa), .val (.int qb), .val (.int qc), .val (.int qd), .val (.ref a142), .val (.ref a167), .val (.int ((oP3 qa qb qc).2 - (1 : Int32))), .val (.int (oVal s232)), .val (.int (1 : Int32)), .unset] [(.int (oP5 qa qb qc qd).2)])
    refine gistore B X296 at_186 (Ls' := #[.val (.int p0), .val (.int p1), .val (.int p2), .val (.int p3), .val (.int p4), .val (.int (1 : Int32)), .val (.int qa), .val (.int qb), .val (.int qc), .val (.int qd), .val (.ref a142), .val (.ref a167), .val (.int (oP5 qa qb qc qd).2), .val (.int (oVal s232)), .val (.int (1 : Int32)), .unset]) rfl (pc' := 188) rfl ?_
    refine giload B X296 at_188 rfl (pc' := 190) rfl ?_
    have c190_304 : (0 : Int32) < (oP5 qa qb qc qd).2 := hA.2.2.1
    refine gifN B X296 at_190 ((if0 _ _).trans (tlt c190_304).2.2.2) (pc' := 193) rfl ?_
    refine gaload B X296 at_193 rfl rfl (pc' := 195) rfl ?_
    refine gcallV B X296 F299.1 (hw _ (List.mem_of_getElem? (i := 33) rfl)) (hw _ (List.mem_of_getElem? (i := 34) rfl)) (hw _ (List.mem_of_getElem? (i := 36) rfl)) (hw _ (List.mem_of_getElem? (i := 35) rfl)) (hw _ (List.mem_of_getElem? (i := 3) rfl)) (hw _ (List.mem_of_getElem? (i := 37) rfl)) rfl (by decide) (mt6 l Z a0 hw a142 r155 t156 (1 : Int32) s292 h294 F299 F300 F301 n163 n164 n159 ok_s292) pd___I rfl (argsL := []) (st := []) rfl rfl (W := 0) (Nat.le_of_eq rfl) (by decide) (by decide) (by decide) (by decide) (allS (Or.inr z_a142) (allS (Or.inr z_r155) (allS (Or.inr z_t156) all0))) at_195 (pc' := 198) rfl fun T305 h306 v307 X308 K309 Q310 => ?_
    have F311 := A303.keep K309 (ninS (Ne.symm n172) (ninS (Ne.symm n173) (ninS (Ne.symm n174) nin0)))
    obtain ⟨rfl, O312, A313, A314⟩ := Q310
    generalize e_s315 : oPoll (1 : Int32) s292 = s315 at O312 A313 A314
    have ok_s315 := ok_s292.poll; rw [e_s315] at ok_s315
    show Go p e below s _ _ _ _ _ T305 (mkF m 198 #[.val (.int p0), .val (.int p1), .val (.int p2), .val (.int p3), .val (.int p4), .val (.int (1 : Int32)), .val (.int qa), .val (.int qb), .val (.int qc), .val (.int qd), .val (.ref a142), .val (.ref a167), .val (.int (oP5 qa qb qc qd).2), .val (.int (oVal s232)), .val (.int (1 : Int32)), .unset] [(.int (oVal s292))])
    have q_s315 : s315 = oS6 (1 : Int32) qa qb qc qd := by rw [← e_s315, q_s292]; rfl
    refine gistore B X308 at_198 (Ls' := #[.val (.int p0), .val (.int p1), .val (.int p2), .val (.int p3), .val (.int p4), .val (.int (1 : Int32)), .val (.int qa), .val (.int qb), .val (.int qc), .val (.int qd), .val (.ref a142), .val (.ref a167), .val (.int (oP5 qa qb qc qd).2), .val (.int (oVal s232)), .val (.int (1 : Int32)), .val (.int (oVal s292))]) rfl (pc' := 200) rfl ?_
    refine giload B X308 at_200 rfl (pc' := 202) rfl ?_
    have c202_316 : ¬ ((1 : Int32) = (0 : Int32)) := (by decide)
    refine gifN B X308 at_202 ((if0 _ _).trans (feq c202_316).1) (pc' := 205) rfl ?_
    refine giload B X308 at_205 rfl (pc' := 207) rfl ?_
    refine gaload B X308 at_207 rfl rfl (pc' := 209) rfl ?_
    refine giconst B X308 at_209 (v := (0 : Int32)) rfl (pc' := 210) rfl ?_
    refine giaload B X308 F311 (n := 4) (by rw [List.length_map]; exact hA.1.2.2.2.2.2.2) (by decide) (v := (.int ((oP5 qa qb qc qd).1.getD 0 0))) (own_at (by rw [hA.1.2.2.2.2.2.2]; decide)) at_210 (pc' := 211) rfl ?_
    have c211_317 : (oVal s292) = ((oP5 qa qb qc qd).1.getD 0 0) := by rw [q_s292]; exact hA.2.2.2.1
    refine gicN B X308 at_211 (teq c211_317).2 (pc' := 214) rfl ?_
    refine giconst B X308 at_214 (v := (1 : Int32)) rfl (pc' := 215) rfl ?_
    refine ggoto B X308 (pc' := 219) at_215 (by decide) ?_
    refine gistore B X308 at_219 (Ls' := #[.val (.int p0), .val (.int p1), .val (.int p2), .val (.int p3), .val (.int p4), .val (.int (1 : Int32)), .val (.int qa), .val (.int qb), .val (.int qc), .val (.int qd), .val (.ref a142), .val (.ref a167), .val (.int (oP5 qa qb qc qd).2), .val (.int (oVal s232)), .val (.int (1 : Int32)), .val (.int (oVal s292))]) rfl (pc' := 221) rfl ?_
    refine giload B X308 at_221 rfl (pc' := 223) rfl ?_
    refine giconst B X308 at_223 (v := (1 : Int32)) rfl (pc' := 224) rfl ?_
    by_cases c224_318 : (1 : Int32) < (oP5 qa qb qc qd).2
    · refine gicN B X308 at_224 (tlt c224_318).2.2.2 (pc' := 227) rfl ?_
      refine gaload B X308 at_227 rfl rfl (pc' := 229) rfl ?_
      refine gcallV B X308 O312.1 (hw _ (List.mem_of_getElem? (i := 33) rfl)) (hw _ (List.mem_of_getElem? (i := 34) rfl)) (hw _ (List.mem_of_getElem? (i := 36) rfl)) (hw _ (List.mem_of_getElem? (i := 35) rfl)) (hw _ (List.mem_of_getElem? (i := 3) rfl)) (hw _ (List.mem_of_getElem? (i := 37) rfl)) rfl (by decide) (mt6 l Z a0 hw a142 r155 t156 (1 : Int32) s315 h306 O312 A313 A314 n163 n164 n159 ok_s315) pd___I rfl (argsL := []) (st := []) rfl rfl (W := 0) (Nat.le_of_eq rfl) (by decide) (by decide) (by decide) (by decide) (allS (Or.inr z_a142) (allS (Or.inr z_r155) (allS (Or.inr z_t156) all0))) at_229 (pc' := 232) rfl fun T319 h320 v321 X322 K323 Q324 => ?_
      have F325 := F311.keep K323 (ninS (Ne.symm n172) (ninS (Ne.symm n173) (ninS (Ne.symm n174) nin0)))
      obtain ⟨rfl, O326, A327, A328⟩ := Q324
      generalize e_s329 : oPoll (1 : Int32) s315 = s329 at O326 A327 A328
      have ok_s329 := ok_s315.poll; rw [e_s329] at ok_s329
      show Go p e below s _ _ _ _ _ T319 (mkF m 232 #[.val (.int p0), .val (.int p1), .val (.int p2), .val (.int p3), .val (.int p4), .val (.int (1 : Int32)), .val (.int qa), .val (.int qb), .val (.int qc), .val (.int qd), .val (.ref a142), .val (.ref a167), .val (.int (oP5 qa qb qc qd).2), .val (.int (oVal s232)), .val (.int (1 : Int32)), .val (.int (oVal s292))] [(.int (oVal s315))])
      have q_s329 : s329 = oS7 (1 : Int32) qa qb qc qd := by rw [← e_s329, q_s315]; rfl
      refine gistore B X322 at_232 (Ls' := #[.val (.int p0), .val (.int p1), .val (.int p2), .val (.int p3), .val (.int p4), .val (.int (1 : Int32)), .val (.int qa), .val (.int qb), .val (.int qc), .val (.int qd), .val (.ref a142), .val (.ref a167), .val (.int (oP5 qa qb qc qd).2), .val (.int (oVal s232)), .val (.int (1 : Int32)), .val (.int (oVal s315))]) rfl (pc' := 234) rfl ?_
      refine giload B X322 at_234 rfl (pc' := 236) rfl ?_
      have c236_330 : ¬ ((1 : Int32) = (0 : Int32)) := (by decide)
      refine gifN B X322 at_236 ((if0 _ _).trans (feq c236_330).1) (pc' := 239) rfl ?_
      refine giload B X322 at_239 rfl (pc' := 241) rfl ?_
      refine gaload B X322 at_241 rfl rfl (pc' := 243) rfl ?_
      refine giconst B X322 at_243 (v := (1 : Int32)) rfl (pc' := 244) rfl ?_
      refine giaload B X322 F325 (n := 4) (by rw [List.length_map]; exact hA.1.2.2.2.2.2.2) (by decide) (v := (.int ((oP5 qa qb qc qd).1.getD 1 0))) (own_at (by rw [hA.1.2.2.2.2.2.2]; decide)) at_244 (pc' := 245) rfl ?_
      have c245_331 : (oVal s315) = ((oP5 qa qb qc qd).1.getD 1 0) := by rw [q_s315]; exact hA.2.2.2.2.1.1 c224_318
      refine gicN B X322 at_245 (teq c245_331).2 (pc' := 248) rfl ?_
      refine giconst B X322 at_248 (v := (1 : Int32)) rfl (pc' := 249) rfl ?_
      refine ggoto B X322 (pc' := 253) at_249 (by decide) ?_
      refine gistore B X322 at_253 (Ls' := #[.val (.int p0), .val (.int p1), .val (.int p2), .val (.int p3), .val (.int p4), .val (.int (1 : Int32)), .val (.int qa), .val (.int qb), .val (.int qc), .val (.int qd), .val (.ref a142), .val (.ref a167), .val (.int (oP5 qa qb qc qd).2), .val (.int (oVal s232)), .val (.int (1 : Int32)), .val (.int (oVal s315))]) rfl (pc' := 255) rfl ?_
      refine giload B X322 at_255 rfl (pc' := 257) rfl ?_
      refine giconst B X322 at_257 (v := (2 : Int32)) rfl (pc' := 258) rfl ?_
      by_cases c258_332 : (2 : Int32) < (oP5 qa qb qc qd).2
      · refine gicN B X322 at_258 (tlt c258_332).2.2.2 (pc' := 261) rfl ?_
        refine gaload B X322 at_261 rfl rfl (pc' := 263) rfl ?_
        refine gcallV B X322 O326.1 (hw _ (List.mem_of_getElem? (i := 33) rfl)) (hw _ (List.mem_of_getElem? (i := 34) rfl)) (hw _ (List.mem_of_getElem? (i := 36) rfl)) (hw _ (List.mem_of_getElem? (i := 35) rfl)) (hw _ (List.mem_of_getElem? (i := 3) rfl)) (hw _ (List.mem_of_getElem? (i := 37) rfl)) rfl (by decide) (mt6 l Z a0 hw a142 r155 t156 (1 : Int32) s329 h320 O326 A327 A328 n163 n164 n159 ok_s329) pd___I rfl (argsL := []) (st := []) rfl rfl (W := 0) (Nat.le_of_eq rfl) (by decide) (by decide) (by decide) (by decide) (allS (Or.inr z_a142) (allS (Or.inr z_r155) (allS (Or.inr z_t156) all0))) at_263 (pc' := 266) rfl fun T333 h334 v335 X336 K337 Q338 => ?_
        have F339 := F325.keep K337 (ninS (Ne.symm n172) (ninS (Ne.symm n173) (ninS (Ne.symm n174) nin0)))
        obtain ⟨rfl, O340, A341, A342⟩ := Q338
        generalize e_s343 : oPoll (1 : Int32) s329 = s343 at O340 A341 A342
        have ok_s343 := ok_s329.poll; rw [e_s343] at ok_s343
        show Go p e below s _ _ _ _ _ T333 (mkF m 266 #[.val (.int p0), .val (.int p1), .val (.int p2), .val (.int p3), .val (.int p4), .val (.int (1 : Int32)), .val (.int qa), .val (.int qb), .val (.int qc), .val (.int qd), .val (.ref a142), .val (.ref a167), .val (.int (oP5 qa qb qc qd).2), .val (.int (oVal s232)), .val (.int (1 : Int32)), .val (.int (oVal s315))] [(.int (oVal s329))])
        have q_s343 : s343 = oS8 (1 : Int32) qa qb qc qd := by rw [← e_s343, q_s329]; rfl
        refine gistore B X336 at_266 (Ls' := #[.val (.int p0), .val (.int p1), .val (.int p2), .val (.int p3), .val (.int p4), .val (.int (1 : Int32)), .val (.int qa), .val (.int qb), .val (.int qc), .val (.int qd), .val (.ref a142), .val (.ref a167), .val (.int (oP5 qa qb qc qd).2), .val (.int (oVal s232)), .val (.int (1 : Int32)), .val (.int (oVal s329))]) rfl (pc' := 268) rfl ?_
        refine giload B X336 at_268 rfl (pc' := 270) rfl ?_
        have c270_344 : ¬ ((1 : Int32) = (0 : Int32)) := (by decide)
        refine gifN B X336 at_270 ((if0 _ _).trans (feq c270_344).1) (pc' := 273) rfl ?_
        refine giload B X336 at_273 rfl (pc' := 275) rfl ?_
        refine gaload B X336 at_275 rfl rfl (pc' := 277) rfl ?_
        refine giconst B X336 at_277 (v := (2 : Int32)) rfl (pc' := 278) rfl ?_
        refine giaload B X336 F339 (n := 4) (by rw [List.length_map]; exact hA.1.2.2.2.2.2.2) (by decide) (v := (.int ((oP5 qa qb qc qd).1.getD 2 0))) (own_at (by rw [hA.1.2.2.2.2.2.2]; decide)) at_278 (pc' := 279) rfl ?_
        have c279_345 : (oVal s329) = ((oP5 qa qb qc qd).1.getD 2 0) := by rw [q_s329]; exact hA.2.2.2.2.1.2 c258_332
        refine gicN B X336 at_279 (teq c279_345).2 (pc' := 282) rfl ?_
        refine giconst B X336 at_282 (v := (1 : Int32)) rfl (pc' := 283) rfl ?_
        refine ggoto B X336 (pc' := 287) at_283 (by decide) ?_
        refine gistore B X336 at_287 (Ls' := #[.val (.int p0), .val (.int p1), .val (.int p2), .val (.int p3), .val (.int p4), .val (.int (1 : Int32)), .val (.int qa), .val (.int qb), .val (.int qc), .val (.int qd), .val (.ref a142), .val (.ref a167), .val (.int (oP5 qa qb qc qd).2), .val (.int (oVal s232)), .val (.int (1 : Int32)), .val (.int (oVal s329))]) rfl (pc' := 289) rfl ?_
        refine giload B X336 at_289 rfl (pc' := 291) rfl ?_
        have c291_346 : ¬ ((1 : Int32) = (0 : Int32)) := (by decide)
        refine gifN B X336 at_291 ((if0 _ _).trans (feq c291_346).1) (pc' := 294) rfl ?_
        refine gaload B X336 at_294 rfl rfl (pc' := 296) rfl ?_
        refine gcallV B X336 O340.1 (hw _ (List.mem_of_getElem? (i := 40) rfl)) (hw _ (List.mem_of_getElem? (i := 41) rfl)) (hw _ (List.mem_of_getElem? (i := 43) rfl)) (hw _ (List.mem_of_getElem? (i := 42) rfl)) (hw _ (List.mem_of_getElem? (i := 3) rfl)) (hw _ (List.mem_of_getElem? (i := 44) rfl)) rfl (by decide) (mtemp l Z a0 hw a142 (.ref r155) (.ref t156) (.int s343.2.2.1) (.int s343.2.2.2.1) s343.2.2.2.2 h334 O340) pd___Z rfl (argsL := []) (st := []) rfl rfl (W := 0) (Nat.le_of_eq rfl) (by decide) (by decide) (by decide) (by decide) (fun x q => nomatch q) at_296 (pc' := 299) rfl (pureG rfl rfl fun T347 X348 => ?_)
        have c299_349 : ¬ ((oemp s343.2.2.2.2) = (0 : Int32)) := by rw [q_s343, hA.2.2.2.2.2.2.2 c258_332]; decide
        refine gifN B X348 at_299 ((if0 _ _).trans (feq c299_349).1) (pc' := 302) rfl ?_
        refine giconst B X348 at_302 (v := (1 : Int32)) rfl (pc' := 303) rfl ?_
        refine ggoto B X348 (pc' := 307) at_303 (by decide) ?_
        exact gretN B X348 (z' := (1 : Int32)) (by simp) (rfl) at_307 (by decide) (by decide) (rfl)
      · refine gicY B X322 (pc' := 289) at_258 (flt c258_332).2.2.2 (by decide) ?_
        refine giload B X322 at_289 rfl (pc' := 291) rfl ?_
        have c291_350 : ¬ ((1 : Int32) = (0 : Int32)) := (by decide)
        refine gifN B X322 at_291 ((if0 _ _).trans (feq c291_350).1) (pc' := 294) rfl ?_
        refine gaload B X322 at_294 rfl rfl (pc' := 296) rfl ?_
        refine gcallV B X322 O326.1 (hw _ (List.mem_of_getElem? (i := 40) rfl)) (hw _ (List.mem_of_getElem? (i := 41) rfl)) (hw _ (List.mem_of_getElem? (i := 43) rfl)) (hw _ (List.mem_of_getElem? (i := 42) rfl)) (hw _ (List.mem_of_getElem? (i := 3) rfl)) (hw _ (List.mem_of_getElem? (i := 44) rfl)) rfl (by decide) (mtemp l Z a0 hw a142 (.ref r155) (.ref t156) (.int s329.2.2.1) (.int s329.2.2.2.1) s329.2.2.2.2 h320 O326) pd___Z rfl (argsL := []) (st := []) rfl rfl (W := 0) (Nat.le_of_eq rfl) (by decide) (by decide) (by decide) (by decide) (fun x q => nomatch q) at_296 (pc' := 299) rfl (pureG rfl rfl fun T351 X352 => ?_)
        have c299_353 : ¬ ((oemp s329.2.2.2.2) = (0 : Int32)) := by rw [q_s329, hA.2.2.2.2.2.2.1 c224_318 c258_332]; decide
        refine gifN B X352 at_299 ((if0 _ _).trans (feq c299_353).1) (pc' := 302) rfl ?_
        refine giconst B X352 at_302 (v := (1 : Int32)) rfl (pc' := 303) rfl ?_
        refine ggoto B X352 (pc' := 307) at_303 (by decide) ?_
        exact gretN B X352 (z' := (1 : Int32)) (by simp) (rfl) at_307 (by decide) (by decide) (rfl)
    · refine gicY B X308 (pc' := 255) at_224 (flt c224_318).2.2.2 (by decide) ?_
      refine giload B X308 at_255 rfl (pc' := 257) rfl ?_
      refine giconst B X308 at_257 (v := (2 : Int32)) rfl (pc' := 258) rfl ?_
      have c258_354 : ¬ ((2 : Int32) < (oP5 qa qb qc qd).2) := (hA.2.2.2.2.2.1 c224_318).1
      refine gicY B X308 (pc' := 289) at_258 (flt c258_354).2.2.2 (by decide) ?_
      refine giload B X308 at_289 rfl (pc' := 291) rfl ?_
      have c291_355 : ¬ ((1 : Int32) = (0 : Int32)) := (by decide)
      refine gifN B X308 at_291 ((if0 _ _).trans (feq c291_355).1) (pc' := 294) rfl ?_
      refine gaload B X308 at_294 rfl rfl (pc' := 296) rfl ?_
      refine gcallV B X308 O312.1 (hw _ (List.mem_of_getElem? (i := 40) rfl)) (hw _ (List.mem_of_getElem? (i := 41) rfl)) (hw _ (List.mem_of_getElem? (i := 43) rfl)) (hw _ (List.mem_of_getElem? (i := 42) rfl)) (hw _ (List.mem_of_getElem? (i := 3) rfl)) (hw _ (List.mem_of_getElem? (i := 44) rfl)) rfl (by decide) (mtemp l Z a0 hw a142 (.ref r155) (.ref t156) (.int s315.2.2.1) (.int s315.2.2.2.1) s315.2.2.2.2 h306 O312) pd___Z rfl (argsL := []) (st := []) rfl rfl (W := 0) (Nat.le_of_eq rfl) (by decide) (by decide) (by decide) (by decide) (fun x q => nomatch q) at_296 (pc' := 299) rfl (pureG rfl rfl fun T356 X357 => ?_)
      have c299_358 : ¬ ((oemp s315.2.2.2.2) = (0 : Int32)) := by rw [q_s315, (hA.2.2.2.2.2.1 c224_318).2]; decide
      refine gifN B X357 at_299 ((if0 _ _).trans (feq c299_358).1) (pc' := 302) rfl ?_
      refine giconst B X357 at_302 (v := (1 : Int32)) rfl (pc' := 303) rfl ?_
      refine ggoto B X357 (pc' := 307) at_303 (by decide) ?_
      exact gretN B X357 (z' := (1 : Int32)) (by simp) (rfl) at_307 (by decide) (by decide) (rfl)
  · rw [e_n]
    refine gistore B X at_8 (Ls' := #[.val (.int p0), .val (.int p1), .val (.int p2), .val (.int p3), .val (.int p4), .val (.int (2 : Int32)), .unset, .unset, .unset, .unset, .unset, .unset, .unset, .unset, .unset, .unset]) rfl (pc' := 10) rfl ?_
    refine giloadN B X at_10 rfl (pc' := 11) rfl ?_
    refine gldc B X (v := (2147483647 : Int32)) (hw _ (List.mem_of_getElem? (i := 0) rfl)) at_11 (pc' := 13) rfl ?_
    refine giand B X at_13 rfl (pc' := 14) rfl ?_
    refine giload B X at_14 rfl (pc' := 16) rfl ?_
    refine girem B X at_16 (by decide) rfl (pc' := 17) rfl ?_
    generalize e_qa : ((p1 &&& (2147483647 : Int32)) % (2 : Int32)) = qa
    refine gistore B X at_17 (Ls' := #[.val (.int p0), .val (.int p1), .val (.int p2), .val (.int p3), .val (.int p4), .val (.int (2 : Int32)), .val (.int qa), .unset, .unset, .unset, .unset, .unset, .unset, .unset, .unset, .unset]) rfl (pc' := 19) rfl ?_
    have hqa := own_x p1 (2 : Int32) (by decide); rw [e_qa] at hqa
    refine giloadN B X at_19 rfl (pc' := 20) rfl ?_
    refine gldc B X (v := (2147483647 : Int32)) (hw _ (List.mem_of_getElem? (i := 0) rfl)) at_20 (pc' := 22) rfl ?_
    refine giand B X at_22 rfl (pc' := 23) rfl ?_
    refine giload B X at_23 rfl (pc' := 25) rfl ?_
    refine girem B X at_25 (by decide) rfl (pc' := 26) rfl ?_
    generalize e_qb : ((p2 &&& (2147483647 : Int32)) % (2 : Int32)) = qb
    refine gistore B X at_26 (Ls' := #[.val (.int p0), .val (.int p1), .val (.int p2), .val (.int p3), .val (.int p4), .val (.int (2 : Int32)), .val (.int qa), .val (.int qb), .unset, .unset, .unset, .unset, .unset, .unset, .unset, .unset]) rfl (pc' := 28) rfl ?_
    have hqb := own_x p2 (2 : Int32) (by decide); rw [e_qb] at hqb
    refine giloadN B X at_28 rfl (pc' := 29) rfl ?_
    refine gldc B X (v := (2147483647 : Int32)) (hw _ (List.mem_of_getElem? (i := 0) rfl)) at_29 (pc' := 31) rfl ?_
    refine giand B X at_31 rfl (pc' := 32) rfl ?_
    refine giload B X at_32 rfl (pc' := 34) rfl ?_
    refine girem B X at_34 (by decide) rfl (pc' := 35) rfl ?_
    generalize e_qc : ((p3 &&& (2147483647 : Int32)) % (2 : Int32)) = qc
    refine gistore B X at_35 (Ls' := #[.val (.int p0), .val (.int p1), .val (.int p2), .val (.int p3), .val (.int p4), .val (.int (2 : Int32)), .val (.int qa), .val (.int qb), .val (.int qc), .unset, .unset, .unset, .unset, .unset, .unset, .unset]) rfl (pc' := 37) rfl ?_
    have hqc := own_x p3 (2 : Int32) (by decide); rw [e_qc] at hqc
    refine giload B X at_37 rfl (pc' := 39) rfl ?_
    refine gldc B X (v := (2147483647 : Int32)) (hw _ (List.mem_of_getElem? (i := 0) rfl)) at_39 (pc' := 41) rfl ?_
    refine giand B X at_41 rfl (pc' := 42) rfl ?_
    refine giload B X at_42 rfl (pc' := 44) rfl ?_
    refine girem B X at_44 (by decide) rfl (pc' := 45) rfl ?_
    generalize e_qd : ((p4 &&& (2147483647 : Int32)) % (2 : Int32)) = qd
    refine gistore B X at_45 (Ls' := #[.val (.int p0), .val (.int p1), .val (.int p2), .val (.int p3), .val (.int p4), .val (.int (2 : Int32)), .val (.int qa), .val (.int qb), .val (.int qc), .val (.int qd), .unset, .unset, .unset, .unset, .unset, .unset]) rfl (pc' := 47) rfl ?_
    have hqd := own_x p4 (2 : Int32) (by decide); rw [e_qd] at hqd
    have hA := own_all2 qa qb qc qd hqa hqb hqc hqd
    have ok0 := own_ok0 (2 : Int32) (by decide)
    refine gnew B X (hw _ (List.mem_of_getElem? (i := 1) rfl)) (hw _ (List.mem_of_getElem? (i := 2) rfl)) (hw _ (List.mem_of_getElem? (i := 3) rfl)) (by decide) (by decide) at_47 (pc' := 50) rfl fun T359 h360 a361 X362 q363 E364 z_a361 A365 D366 => ?_
    have O367 : Dq Z h360 a361 .null .null (.int (0 : Int32)) (.int (0 : Int32)) (.int (0 : Int32)) := ⟨A365, D366 (Or.inr (hw _ (List.mem_of_getElem? (i := 12) rfl))) (ty := (.array .int)) (by decide), D366 (Or.inr (hw _ (List.mem_of_getElem? (i := 15) rfl))) (ty := (.array .boolean)) (by decide), D366 (Or.inl (hw _ (List.mem_of_getElem? (i := 39) rfl))) (ty := .int) (by decide), D366 (Or.inl (hw _ (List.mem_of_getElem? (i := 22) rfl))) (ty := .int) (by decide), D366 (Or.inl (hw _ (List.mem_of_getElem? (i := 28) rfl))) (ty := .int) (by decide)⟩
    refine gdup B X362 at_50 rfl (pc' := 51) rfl ?_
    refine giload B X362 at_51 rfl (pc' := 53) rfl ?_
    refine gcallI B X362 rfl rfl (hw _ (List.mem_of_getElem? (i := 4) rfl)) (hw _ (List.mem_of_getElem? (i := 5) rfl)) (hw _ (List.mem_of_getElem? (i := 3) rfl)) (hw _ (List.mem_of_getElem? (i := 6) rfl)) (by decide) (mt1 l Z a0 hw a361 (2 : Int32)  h360 O367 (by decide)) pd__I_V rfl (argsL := [(.int (2 : Int32))]) (st := [(.ref a361)]) rfl rfl (W := 1) (Nat.le_of_eq rfl) (by decide) (by decide) (by decide) (by decide) (allS (Or.inr z_a361) all0) at_53 (pc' := 56) rfl fun T368 h369 v370 X371 K372 Q373 => ?_
    obtain ⟨rfl, r374, t375, y376, y377, n378, O379, A380, A381⟩ := Q373
    have z_r374 : h0.size ≤ r374 := Nat.le_trans X362.kept.1 y376
    have n382 : a361 ≠ r374 := Nat.ne_of_lt (Nat.lt_of_lt_of_le O367.lt y376)
    have z_t375 : h0.size ≤ t375 := Nat.le_trans X362.kept.1 y377
    have n383 : a361 ≠ t375 := Nat.ne_of_lt (Nat.lt_of_lt_of_le O367.lt y377)
    have A380' : VA Z h369 r374 .int ((oS0 (2 : Int32)).1.map Value.int) := A380
    have A381' : VA Z h369 t375 .boolean ((oS0 (2 : Int32)).2.1.map Value.int) := A381
    show Go p e below s _ _ _ _ _ T368 (mkF m 56 #[.val (.int p0), .val (.int p1), .val (.int p2), .val (.int p3), .val (.int p4), .val (.int (2 : Int32)), .val (.int qa), .val (.int qb), .val (.int qc), .val (.int qd), .unset, .unset, .unset, .unset, .unset, .unset] [(.ref a361)])
    refine gastore B X371 at_56 rfl (Ls' := #[.val (.int p0), .val (.int p1), .val (.int p2), .val (.int p3), .val (.int p4), .val (.int (2 : Int32)), .val (.int qa), .val (.int qb), .val (.int qc), .val (.int qd), .val (.ref a361), .unset, .unset, .unset, .unset, .unset]) rfl (pc' := 58) rfl ?_
    refine giconst B X371 at_58 (v := (4 : Int32)) rfl (pc' := 59) rfl ?_
    refine gnewarray B X371 (cap := 4) (vs := [(.int (0 : Int32)), (.int (0 : Int32)), (.int (0 : Int32)), (.int (0 : Int32))]) (ty := .int) rfl rfl (hw _ (List.mem_of_getElem? (i := 10) rfl)) (by decide) (by decide) (by decide) (by decide) (by decide) at_59 (pc' := 61) rfl fun T384 h385 a386 X387 q388 E389 z_a386 A390 => ?_
    have n391 : a361 ≠ a386 := by rw [q388]; exact Nat.ne_of_lt O379.lt
    have n392 : r374 ≠ a386 := by rw [q388]; exact Nat.ne_of_lt A380'.lt
    have n393 : t375 ≠ a386 := by rw [q388]; exact Nat.ne_of_lt A381'.lt
    have F394 := O379.ext E389
    have F395 := A380'.ext E389
    have F396 := A381'.ext E389
    refine gastore B X387 at_61 rfl (Ls' := #[.val (.int p0), .val (.int p1), .val (.int p2), .val (.int p3), .val (.int p4), .val (.int (2 : Int32)), .val (.int qa), .val (.int qb), .val (.int qc), .val (.int qd), .val (.ref a361), .val (.ref a386), .unset, .unset, .unset, .unset]) rfl (pc' := 63) rfl ?_
    refine giconst B X387 at_63 (v := (0 : Int32)) rfl (pc' := 64) rfl ?_
    refine gistore B X387 at_64 (Ls' := #[.val (.int p0), .val (.int p1), .val (.int p2), .val (.int p3), .val (.int p4), .val (.int (2 : Int32)), .val (.int qa), .val (.int qb), .val (.int qc), .val (.int qd), .val (.ref a361), .val (.ref a386), .val (.int (0 : Int32)), .unset, .unset, .unset]) rfl (pc' := 66) rfl ?_
    refine gaload B X387 at_66 rfl rfl (pc' := 68) rfl ?_
    refine giload B X387 at_68 rfl (pc' := 70) rfl ?_
    refine gcallV B X387 F394.1 (hw _ (List.mem_of_getElem? (i := 16) rfl)) (hw _ (List.mem_of_getElem? (i := 17) rfl)) (hw _ (List.mem_of_getElem? (i := 19) rfl)) (hw _ (List.mem_of_getElem? (i := 18) rfl)) (hw _ (List.mem_of_getElem? (i := 3) rfl)) (hw _ (List.mem_of_getElem? (i := 20) rfl)) rfl (by decide) (mt3 l Z a0 hw a361 qa r374 t375 (2 : Int32) (oS0 (2 : Int32)) h385 F394 F395 F396 n382 n383 n378 ok0 hqa) pd__I_V rfl (argsL := [(.int qa)]) (st := []) rfl rfl (W := 0) (Nat.le_of_eq rfl) (by decide) (by decide) (by decide) (by decide) (allS (Or.inr z_a361) (allS (Or.inr z_r374) (allS (Or.inr z_t375) all0))) at_70 (pc' := 73) rfl fun T397 h398 v399 X400 K401 Q402 => ?_
    have F403 := A390.keep K401 (ninS (Ne.symm n391) (ninS (Ne.symm n392) (ninS (Ne.symm n393) nin0)))
    obtain ⟨rfl, O404, A405, A406⟩ := Q402
    generalize e_s407 : oAdd (2 : Int32) (oS0 (2 : Int32)) qa = s407 at O404 A405 A406
    have ok_s407 := ok0.add hqa; rw [e_s407] at ok_s407
    show Go p e below s _ _ _ _ _ T397 (mkF m 73 #[.val (.int p0), .val (.int p1), .val (.int p2), .val (.int p3), .val (.int p4), .val (.int (2 : Int32)), .val (.int qa), .val (.int qb), .val (.int qc), .val (.int qd), .val (.ref a361), .val (.ref a386), .val (.int (0 : Int32)), .unset, .unset, .unset] [])
    have q_s407 : s407 = oS1 (2 : Int32) qa := by rw [← e_s407]; rfl
    refine gaload B X400 at_73 rfl rfl (pc' := 75) rfl ?_
    refine giload B X400 at_75 rfl (pc' := 77) rfl ?_
    refine giload B X400 at_77 rfl (pc' := 79) rfl ?_
    refine gcallS B X400 (hw _ (List.mem_of_getElem? (i := 29) rfl)) (hw _ (List.mem_of_getElem? (i := 30) rfl)) (hw _ (List.mem_of_getElem? (i := 31) rfl)) (hw _ (List.mem_of_getElem? (i := 32) rfl)) (by decide) (mt5 l Z a0 hw a386 (0 : Int32) qa oY0 h398 F403 rfl (by decide)) pd___III_I rfl (argsL := [(.ref a386), (.int (0 : Int32)), (.int qa)]) (st := []) rfl rfl (W := 0) (Nat.le_of_eq rfl) (by decide) (by decide) (by decide) (by decide) (allS (Or.inr z_a386) all0) at_79 (pc' := 82) rfl fun T408 h409 v410 X411 K412 Q413 => ?_
    have F414 := O404.keep K412 (ninS n391 nin0)
    have F415 := A405.keep K412 (ninS n392 nin0)
    have F416 := A406.keep K412 (ninS n393 nin0)
    obtain ⟨rfl, A417⟩ := Q413
    show Go p e below s _ _ _ _ _ T408 (mkF m 82 #[.val (.int p0), .val (.int p1), .val (.int p2), .val (.int p3), .val (.int p4), .val (.int (2 : Int32)), .val (.int qa), .val (.int qb), .val (.int qc), .val (.int qd), .val (.ref a361), .val (.ref a386), .val (.int (0 : Int32)), .unset, .unset, .unset] [(.int (oPut oY0 (0 : Int32) qa).2)])
    have A418 : VA Z h409 a386 .int ((oP1 qa).1.map Value.int) := A417
    show Go p e below s _ _ _ _ _ T408 (mkF m 82 #[.val (.int p0), .val (.int p1), .val (.int p2), .val (.int p3), .val (.int p4), .val (.int (2 : Int32)), .val (.int qa), .val (.int qb), .val (.int qc), .val (.int qd), .val (.ref a361), .val (.ref a386), .val (.int (0 : Int32)), .unset, .unset, .unset] [(.int (oP1 qa).2)])
    refine gistore B X411 at_82 (Ls' := #[.val (.int p0), .val (.int p1), .val (.int p2), .val (.int p3), .val (.int p4), .val (.int (2 : Int32)), .val (.int qa), .val (.int qb), .val (.int qc), .val (.int qd), .val (.ref a361), .val (.ref a386), .val (.int (oP1 qa).2), .unset, .unset, .unset]) rfl (pc' := 84) rfl ?_
    refine gaload B X411 at_84 rfl rfl (pc' := 86) rfl ?_
    refine giload B X411 at_86 rfl (pc' := 88) rfl ?_
    refine gcallV B X411 F414.1 (hw _ (List.mem_of_getElem? (i := 16) rfl)) (hw _ (List.mem_of_getElem? (i := 17) rfl)) (hw _ (List.mem_of_getElem? (i := 19) rfl)) (hw _ (List.mem_of_getElem? (i := 18) rfl)) (hw _ (List.mem_of_getElem? (i := 3) rfl)) (hw _ (List.mem_of_getElem? (i := 20) rfl)) rfl (by decide) (mt3 l Z a0 hw a361 qb r374 t375 (2 : Int32) s407 h409 F414 F415 F416 n382 n383 n378 ok_s407 hqb) pd__I_V rfl (argsL := [(.int qb)]) (st := []) rfl rfl (W := 0) (Nat.le_of_eq rfl) (by decide) (by decide) (by decide) (by decide) (allS (Or.inr z_a361) (allS (Or.inr z_r374) (allS (Or.inr z_t375) all0))) at_88 (pc' := 91) rfl fun T419 h420 v421 X422 K423 Q424 => ?_
    have F425 := A418.keep K423 (ninS (Ne.symm n391) (ninS (Ne.symm n392) (ninS (Ne.symm n393) nin0)))
    obtain ⟨rfl, O426, A427, A428⟩ := Q424
    generalize e_s429 : oAdd (2 : Int32) s407 qb = s429 at O426 A427 A428
    have ok_s429 := ok_s407.add hqb; rw [e_s429] at ok_s429
    show Go p e below s _ _ _ _ _ T419 (mkF m 91 #[.val (.int p0), .val (.int p1), .val (.int p2), .val (.int p3), .val (.int p4), .val (.int (2 : Int32)), .val (.int qa), .val (.int qb), .val (.int qc), .val (.int qd), .val (.ref a361), .val (.ref a386), .val (.int (oP1 qa).2), .unset, .unset, .unset] [])
    have q_s429 : s429 = oS2 (2 : Int32) qa qb := by rw [← e_s429, q_s407]; rfl
    refine gaload B X422 at_91 rfl rfl (pc' := 93) rfl ?_
    refine giload B X422 at_93 rfl (pc' := 95) rfl ?_
    refine giload B X422 at_95 rfl (pc' := 97) rfl ?_
    refine gcallS B X422 (hw _ (List.mem_of_getElem? (i := 29) rfl)) (hw _ (List.mem_of_getElem? (i := 30) rfl)) (hw _ (List.mem_of_getElem? (i := 31) rfl)) (hw _ (List.mem_of_getElem? (i := 32) rfl)) (by decide) (mt5 l Z a0 hw a386 (oP1 qa).2 qb (oP1 qa).1 h420 F425 hA.1.1 hA.1.2.1) pd___III_I rfl (argsL := [(.ref a386), (.int (oP1 qa).2), (.int qb)]) (st := []) rfl rfl (W := 0) (Nat.le_of_eq rfl) (by decide) (by decide) (by decide) (by decide) (allS (Or.inr z_a386) all0) at_97 (pc' := 100) rfl fun T430 h431 v432 X433 K434 Q435 => ?_
    have F436 := O426.keep K434 (ninS n391 nin0)
    have F437 := A427.keep K434 (ninS n392 nin0)
    have F438 := A428.keep K434 (ninS n393 nin0)
    obtain ⟨rfl, A439⟩ := Q435
    show Go p e below s _ _ _ _ _ T430 (mkF m 100 #[.val (.int p0), .val (.int p1), .val (.int p2), .val (.int p3), .val (.int p4), .val (.int (2 : Int32)), .val (.int qa), .val (.int qb), .val (.int qc), .val (.int qd), .val (.ref a361), .val (.ref a386), .val (.int (oP1 qa).2), .unset, .unset, .unset] [(.int (oPut (oP1 qa).1 (oP1 qa).2 qb).2)])
    have A440 : VA Z h431 a386 .int ((oP2 qa qb).1.map Value.int) := A439
    show Go p e below s _ _ _ _ _ T430 (mkF m 100 #[.val (.int p0), .val (.int p1), .val (.int p2), .val (.int p3), .val (.int p4), .val (.int (2 : Int32)), .val (.int qa), .val (.int qb), .val (.int qc), .val (.int qd), .val (.ref a361), .val (.ref a386), .val (.int (oP1 qa).2), .unset, .unset, .unset] [(.int (oP2 qa qb).2)])
    refine gistore B X433 at_100 (Ls' := #[.val (.int p0), .val (.int p1), .val (.int p2), .val (.int p3), .val (.int p4), .val (.int (2 : Int32)), .val (.int qa), .val (.int qb), .val (.int qc), .val (.int qd), .val (.ref a361), .val (.ref a386), .val (.int (oP2 qa qb).2), .unset, .unset, .unset]) rfl (pc' := 102) rfl ?_
    refine gaload B X433 at_102 rfl rfl (pc' := 104) rfl ?_
    refine giload B X433 at_104 rfl (pc' := 106) rfl ?_
    refine gcallV B X433 F436.1 (hw _ (List.mem_of_getElem? (i := 16) rfl)) (hw _ (List.mem_of_getElem? (i := 17) rfl)) (hw _ (List.mem_of_getElem? (i := 19) rfl)) (hw _ (List.mem_of_getElem? (i := 18) rfl)) (hw _ (List.mem_of_getElem? (i := 3) rfl)) (hw _ (List.mem_of_getElem? (i := 20) rfl)) rfl (by decide) (mt3 l Z a0 hw a361 qc r374 t375 (2 : Int32) s429 h431 F436 F437 F438 n382 n383 n378 ok_s429 hqc) pd__I_V rfl (argsL := [(.int qc)]) (st := []) rfl rfl (W := 0) (Nat.le_of_eq rfl) (by decide) (by decide) (by decide) (by decide) (allS (Or.inr z_a361) (allS (Or.inr z_r374) (allS (Or.inr z_t375) all0))) at_106 (pc' := 109) rfl fun T441 h442 v443 X444 K445 Q446 => ?_
    have F447 := A440.keep K445 (ninS (Ne.symm n391) (ninS (Ne.symm n392) (ninS (Ne.symm n393) nin0)))
    obtain ⟨rfl, O448, A449, A450⟩ := Q446
    generalize e_s451 : oAdd (2 : Int32) s429 qc = s451 at O448 A449 A450
    have ok_s451 := ok_s429.add hqc; rw [e_s451] at ok_s451
    show Go p e below s _ _ _ _ _ T441 (mkF m 109 #[.val (.int p0), .val (.int p1), .val (.int p2), .val (.int p3), .val (.int p4), .val (.int (2 : Int32)), .val (.int qa), .val (.int qb), .val (.int qc), .val (.int qd), .val (.ref a361), .val (.ref a386), .val (.int (oP2 qa qb).2), .unset, .unset, .unset] [])
    have q_s451 : s451 = oS3 (2 : Int32) qa qb qc := by rw [← e_s451, q_s429]; rfl
    refine gaload B X444 at_109 rfl rfl (pc' := 111) rfl ?_
    refine giload B X444 at_111 rfl (pc' := 113) rfl ?_
    refine giload B X444 at_113 rfl (pc' := 115) rfl ?_
    refine gcallS B X444 (hw _ (List.mem_of_getElem? (i := 29) rfl)) (hw _ (List.mem_of_getElem? (i := 30) rfl)) (hw _ (List.mem_of_getElem? (i := 31) rfl)) (hw _ (List.mem_of_getElem? (i := 32) rfl)) (by decide) (mt5 l Z a0 hw a386 (oP2 qa qb).2 qc (oP2 qa qb).1 h442 F447 hA.1.2.2.1 hA.1.2.2.2.1) pd___III_I rfl (argsL := [(.ref a386), (.int (oP2 qa qb).2), (.int qc)]) (st := []) rfl rfl (W := 0) (Nat.le_of_eq rfl) (by decide) (by decide) (by decide) (by decide) (allS (Or.inr z_a386) all0) at_115 (pc' := 118) rfl fun T452 h453 v454 X455 K456 Q457 => ?_
    have F458 := O448.keep K456 (ninS n391 nin0)
    have F459 := A449.keep K456 (ninS n392 nin0)
    have F460 := A450.keep K456 (ninS n393 nin0)
    obtain ⟨rfl, A461⟩ := Q457
    show Go p e below s _ _ _ _ _ T452 (mkF m 118 #[.val (.int p0), .val (.int p1), .val (.int p2), .val (.int p3), .val (.int p4), .val (.int (2 : Int32)), .val (.int qa), .val (.int qb), .val (.int qc), .val (.int qd), .val (.ref a361), .val (.ref a386), .val (.int (oP2 qa qb).2), .unset, .unset, .unset] [(.int (oPut (oP2 qa qb).1 (oP2 qa qb).2 qc).2)])
    have A462 : VA Z h453 a386 .int ((oP3 qa qb qc).1.map Value.int) := A461
    show Go p e below s _ _ _ _ _ T452 (mkF m 118 #[.val (.int p0), .val (.int p1), .val (.int p2), .val (.int p3), .val (.int p4), .val (.int (2 : Int32)), .val (.int qa), .val (.int qb), .val (.int qc), .val (.int qd), .val (.ref a361), .val (.ref a386), .val (.int (oP2 qa qb).2), .unset, .unset, .unset] [(.int (oP3 qa qb qc).2)])
    refine gistore B X455 at_118 (Ls' := #[.val (.int p0), .val (.int p1), .val (.int p2), .val (.int p3), .val (.int p4), .val (.int (2 : Int32)), .val (.int qa), .val (.int qb), .val (.int qc), .val (.int qd), .val (.ref a361), .val (.ref a386), .val (.int (oP3 qa qb qc).2), .unset, .unset, .unset]) rfl (pc' := 120) rfl ?_
    refine gaload B X455 at_120 rfl rfl (pc' := 122) rfl ?_
    refine gcallV B X455 F458.1 (hw _ (List.mem_of_getElem? (i := 33) rfl)) (hw _ (List.mem_of_getElem? (i := 34) rfl)) (hw _ (List.mem_of_getElem? (i := 36) rfl)) (hw _ (List.mem_of_getElem? (i := 35) rfl)) (hw _ (List.mem_of_getElem? (i := 3) rfl)) (hw _ (List.mem_of_getElem? (i := 37) rfl)) rfl (by decide) (mt6 l Z a0 hw a361 r374 t375 (2 : Int32) s451 h453 F458 F459 F460 n382 n383 n378 ok_s451) pd___I rfl (argsL := []) (st := []) rfl rfl (W := 0) (Nat.le_of_eq rfl) (by decide) (by decide) (by decide) (by decide) (allS (Or.inr z_a361) (allS (Or.inr z_r374) (allS (Or.inr z_t375) all0))) at_122 (pc' := 125) rfl fun T463 h464 v465 X466 K467 Q468 => ?_
    have F469 := A462.keep K467 (ninS (Ne.symm n391) (ninS (Ne.symm n392) (ninS (Ne.symm n393) nin0)))
    obtain ⟨rfl, O470, A471, A472⟩ := Q468
    generalize e_s473 : oPoll (2 : Int32) s451 = s473 at O470 A471 A472
    have ok_s473 := ok_s451.poll; rw [e_s473] at ok_s473
    show Go p e below s _ _ _ _ _ T463 (mkF m 125 #[.val (.int p0), .val (.int p1), .val (.int p2), .val (.int p3), .val (.int p4), .val (.int (2 : Int32)), .val (.int qa), .val (.int qb), .val (.int qc), .val (.int qd), .val (.ref a361), .val (.ref a386), .val (.int (oP3 qa qb qc).2), .unset, .unset, .unset] [(.int (oVal s451))])
    have q_s473 : s473 = oS4 (2 : Int32) qa qb qc := by rw [← e_s473, q_s451]; rfl
    refine gistore B X466 at_125 (Ls' := #[.val (.int p0), .val (.int p1), .val (.int p2), .val (.int p3), .val (.int p4), .val (.int (2 : Int32)), .val (.int qa), .val (.int qb), .val (.int qc), .val (.int qd), .val (.ref a361), .val (.ref a386), .val (.int (oP3 qa qb qc).2), .val (.int (oVal s451)), .unset, .unset]) rfl (pc' := 127) rfl ?_
    have A474 : VA Z h464 a386 .int [.int ((oP3 qa qb qc).1.getD 0 0), .int ((oP3 qa qb qc).1.getD 1 0), .int ((oP3 qa qb qc).1.getD 2 0), .int ((oP3 qa qb qc).1.getD 3 0)] := by rw [own_list4 hA.1.2.2.2.2.1] at F469; exact F469
    refine giload B X466 at_127 rfl (pc' := 129) rfl ?_
    refine gaload B X466 at_129 rfl rfl (pc' := 131) rfl ?_
    refine giconst B X466 at_131 (v := (0 : Int32)) rfl (pc' := 132) rfl ?_
    refine giaload B X466 (n := 4) A474 rfl (by decide) (v := (.int ((oP3 qa qb qc).1.getD 0 0))) rfl at_132 (pc' := 133) rfl ?_
    have c133_475 : (oVal s451) = ((oP3 qa qb qc).1.getD 0 0) := by rw [q_s451]; exact hA.2.1
    refine gicN B X466 at_133 (teq c133_475).2 (pc' := 136) rfl ?_
    refine giconst B X466 at_136 (v := (1 : Int32)) rfl (pc' := 137) rfl ?_
    refine ggoto B X466 (pc' := 141) at_137 (by decide) ?_
    refine gistore B X466 at_141 (Ls' := #[.val (.int p0), .val (.int p1), .val (.int p2), .val (.int p3), .val (.int p4), .val (.int (2 : Int32)), .val (.int qa), .val (.int qb), .val (.int qc), .val (.int qd), .val (.ref a361), .val (.ref a386), .val (.int (oP3 qa qb qc).2), .val (.int (oVal s451)), .val (.int (1 : Int32)), .unset]) rfl (pc' := 143) rfl ?_
    refine gaload B X466 at_143 rfl rfl (pc' := 145) rfl ?_
    refine giconst B X466 at_145 (v := (0 : Int32)) rfl (pc' := 146) rfl ?_
    refine gaload B X466 at_146 rfl rfl (pc' := 148) rfl ?_
    refine giconst B X466 at_148 (v := (1 : Int32)) rfl (pc' := 149) rfl ?_
    refine giaload B X466 (n := 4) A474 rfl (by decide) (v := (.int ((oP3 qa qb qc).1.getD 1 0))) rfl at_149 (pc' := 150) rfl ?_
    refine giastore B X466 (i := 0) (n := 4) A474 rfl (by decide) rfl (vs' := [(.int ((oP3 qa qb qc).1.getD 1 0)), (.int ((oP3 qa qb qc).1.getD 1 0)), (.int ((oP3 qa qb qc).1.getD 2 0)), (.int ((oP3 qa qb qc).1.getD 3 0))]) rfl (Or.inr z_a386) at_150 (pc' := 151) rfl fun T476 h477 X478 W479 A480 => ?_
    have F481 := O470.other W479 n391
    have F482 := A471.other W479 n392
    have F483 := A472.other W479 n393
    refine gaload B X478 at_151 rfl rfl (pc' := 153) rfl ?_
    refine giconst B X478 at_153 (v := (1 : Int32)) rfl (pc' := 154) rfl ?_
    refine gaload B X478 at_154 rfl rfl (pc' := 156) rfl ?_
    refine giconst B X478 at_156 (v := (2 : Int32)) rfl (pc' := 157) rfl ?_
    refine giaload B X478 (n := 4) A480 rfl (by decide) (v := (.int ((oP3 qa qb qc).1.getD 2 0))) rfl at_157 (pc' := 158) rfl ?_
    refine giastore B X478 (i := 1) (n := 4) A480 rfl (by decide) rfl (vs' := [(.int ((oP3 qa qb qc).1.getD 1 0)), (.int ((oP3 qa qb qc).1.getD 2 0)), (.int ((oP3 qa qb qc).1.getD 2 0)), (.int ((oP3 qa qb qc).1.getD 3 0))]) rfl (Or.inr z_a386) at_158 (pc' := 159) rfl fun T484 h485 X486 W487 A488 => ?_
    have F489 := F481.other W487 n391
    have F490 := F482.other W487 n392
    have F491 := F483.other W487 n393
    refine gaload B X486 at_159 rfl rfl (pc' := 161) rfl ?_
    refine giconst B X486 at_161 (v := (2 : Int32)) rfl (pc' := 162) rfl ?_
    refine giconst B X486 at_162 (v := (0 : Int32)) rfl (pc' := 163) rfl ?_
    refine giastore B X486 (i := 2) (n := 4) A488 rfl (by decide) rfl (vs' := [(.int ((oP3 qa qb qc).1.getD 1 0)), (.int ((oP3 qa qb qc).1.getD 2 0)), (.int (0 : Int32)), (.int ((oP3 qa qb qc).1.getD 3 0))]) rfl (Or.inr z_a386) at_163 (pc' := 164) rfl fun T492 h493 X494 W495 A496 => ?_
    have F497 := F489.other W495 n391
    have F498 := F490.other W495 n392
    have F499 := F491.other W495 n393
    have A500 : VA Z h493 a386 .int ((oY4 qa qb qc).map Value.int) := A496
    refine giload B X494 at_164 rfl (pc' := 166) rfl ?_
    refine giconst B X494 at_166 (v := (1 : Int32)) rfl (pc' := 167) rfl ?_
    refine gisub B X494 at_167 rfl (pc' := 168) rfl ?_
    refine gistore B X494 at_168 (Ls' := #[.val (.int p0), .val (.int p1), .val (.int p2), .val (.int p3), .val (.int p4), .val (.int (2 : Int32)), .val (.int qa), .val (.int qb), .val (.int qc), .val (.int qd), .val (.ref a361), .val (.ref a386), .val (.int ((oP3 qa qb qc).2 - (1 : Int32))), .val (.int (oVal s451)), .val (.int (1 : Int32)), .unset]) rfl (pc' := 170) rfl ?_
    refine gaload B X494 at_170 rfl rfl (pc' := 172) rfl ?_
    refine giload B X494 at_172 rfl (pc' := 174) rfl ?_
    refine gcallV B X494 F497.1 (hw _ (List.mem_of_getElem? (i := 16) rfl)) (hw _ (List.mem_of_getElem? (i := 17) rfl)) (hw _ (List.mem_of_getElem? (i := 19) rfl)) (hw _ (List.mem_of_getElem? (i := 18) rfl)) (hw _ (List.mem_of_getElem? (i := 3) rfl)) (hw _ (List.mem_of_getElem? (i := 20) rfl)) rfl (by decide) (mt3 l Z a0 hw a361 qd r374 t375 (2 : Int32) s473 h493 F497 F498 F499 n382 n383 n378 ok_s473 hqd) pd__I_V rfl (argsL := [(.int qd)]) (st := []) rfl rfl (W := 0) (Nat.le_of_eq rfl) (by decide) (by decide) (by decide) (by decide) (allS (Or.inr z_a361) (allS (Or.inr z_r374) (allS (Or.inr z_t375) all0))) at_174 (pc' := 177) rfl fun T501 h502 v503 X504 K505 Q506 => ?_
    have F507 := A500.keep K505 (ninS (Ne.symm n391) (ninS (Ne.symm n392) (ninS (Ne.symm n393) nin0)))
    obtain ⟨rfl, O508, A509, A510⟩ := Q506
    generalize e_s511 : oAdd (2 : Int32) s473 qd = s511 at O508 A509 A510
    have ok_s511 := ok_s473.add hqd; rw [e_s511] at ok_s511
    show Go p e below s _ _ _ _ _ T501 (mkF m 177 #[.val (.int p0), .val (.int p1), .val (.int p2), .val (.int p3), .val (.int p4), .val (.int (2 : Int32)), .val (.int qa), .val (.int qb), .val (.int qc), .val (.int qd), .val (.ref a361), .val (.ref a386), .val (.int ((oP3 qa qb qc).2 - (1 : Int32))), .val (.int (oVal s451)), .val (.int (1 : Int32)), .unset] [])
    have q_s511 : s511 = oS5 (2 : Int32) qa qb qc qd := by rw [← e_s511, q_s473]; rfl
    refine gaload B X504 at_177 rfl rfl (pc' := 179) rfl ?_
    refine giload B X504 at_179 rfl (pc' := 181) rfl ?_
    refine giload B X504 at_181 rfl (pc' := 183) rfl ?_
    refine gcallS B X504 (hw _ (List.mem_of_getElem? (i := 29) rfl)) (hw _ (List.mem_of_getElem? (i := 30) rfl)) (hw _ (List.mem_of_getElem? (i := 31) rfl)) (hw _ (List.mem_of_getElem? (i := 32) rfl)) (by decide) (mt5 l Z a0 hw a386 ((oP3 qa qb qc).2 - (1 : Int32)) qd (oY4 qa qb qc) h502 F507 (by rfl) hA.1.2.2.2.2.2.1) pd___III_I rfl (argsL := [(.ref a386), (.int ((oP3 qa qb qc).2 - (1 : Int32))), (.int qd)]) (st := []) rfl rfl (W := 0) (Nat.le_of_eq rfl) (by decide) (by decide) (by decide) (by decide) (allS (Or.inr z_a386) all0) at_183 (pc' := 186) rfl fun T512 h513 v514 X515 K516 Q517 => ?_
    have F518 := O508.keep K516 (ninS n391 nin0)
    have F519 := A509.keep K516 (ninS n392 nin0)
    have F520 := A510.keep K516 (ninS n393 nin0)
    obtain ⟨rfl, A521⟩ := Q517
    show Go p e below s _ _ _ _ _ T512 (mkF m 186 #[.val (.int p0), .val (.int p1), .val (.int p2), .val (.int p3), .val (.int p4), .val (.int (2 : Int32)), .val (.int qa), .val (.int qb), .val (.int qc), .val (.int qd), .val (.ref a361), .val (.ref a386), .val (.int ((oP3 qa qb qc).2 - (1 : Int32))), .val (.int (oVal s451)), .val (.int (1 : Int32)), .unset] [(.int (oPut (oY4 qa qb qc) ((oP3 qa qb qc).2 - (1 : Int32)) qd).2)])
    have A522 : VA Z h513 a386 .int ((oP5 qa qb qc qd).1.map Value.int) := A521
    show Go p e below s _ _ _ _ _ T512 (mkF m 186 #[.val (.int p0), .val (.int p1), .val (.int p2), .val (.int p3), .val (.int p4), .val (.int (2 : Int32)), .val (.int qa), .val (.int qb), .val (.int qc), .val (.int qd), .val (.ref a361), .val (.ref a386), .val (.int ((oP3 qa qb qc).2 - (1 : Int32))), .val (.int (oVal s451)), .val (.int (1 : Int32)), .unset] [(.int (oP5 qa qb qc qd).2)])
    refine gistore B X515 at_186 (Ls' := #[.val (.int p0), .val (.int p1), .val (.int p2), .val (.int p3), .val (.int p4), .val (.int (2 : Int32)), .val (.int qa), .val (.int qb), .val (.int qc), .val (.int qd), .val (.ref a361), .val (.ref a386), .val (.int (oP5 qa qb qc qd).2), .val (.int (oVal s451)), .val (.int (1 : Int32)), .unset]) rfl (pc' := 188) rfl ?_
    refine giload B X515 at_188 rfl (pc' := 190) rfl ?_
    have c190_523 : (0 : Int32) < (oP5 qa qb qc qd).2 := hA.2.2.1
    refine gifN B X515 at_190 ((if0 _ _).trans (tlt c190_523).2.2.2) (pc' := 193) rfl ?_
    refine gaload B X515 at_193 rfl rfl (pc' := 195) rfl ?_
    refine gcallV B X515 F518.1 (hw _ (List.mem_of_getElem? (i := 33) rfl)) (hw _ (List.mem_of_getElem? (i := 34) rfl)) (hw _ (List.mem_of_getElem? (i := 36) rfl)) (hw _ (List.mem_of_getElem? (i := 35) rfl)) (hw _ (List.mem_of_getElem? (i := 3) rfl)) (hw _ (List.mem_of_getElem? (i := 37) rfl)) rfl (by decide) (mt6 l Z a0 hw a361 r374 t375 (2 : Int32) s511 h513 F518 F519 F520 n382 n383 n378 ok_s511) pd___I rfl (argsL := []) (st := []) rfl rfl (W := 0) (Nat.le_of_eq rfl) (by decide) (by decide) (by decide) (by decide) (allS (Or.inr z_a361) (allS (Or.inr z_r374) (allS (Or.inr z_t375) all0))) at_195 (pc' := 198) rfl fun T524 h525 v526 X527 K528 Q529 => ?_
    have F530 := A522.keep K528 (ninS (Ne.symm n391) (ninS (Ne.symm n392) (ninS (Ne.symm n393) nin0)))
    obtain ⟨rfl, O531, A532, A533⟩ := Q529
    generalize e_s534 : oPoll (2 : Int32) s511 = s534 at O531 A532 A533
    have ok_s534 := ok_s511.poll; rw [e_s534] at ok_s534
    show Go p e below s _ _ _ _ _ T524 (mkF m 198 #[.val (.int p0), .val (.int p1), .val (.int p2), .val (.int p3), .val (.int p4), .val (.int (2 : Int32)), .val (.int qa), .val (.int qb), .val (.int qc), .val (.int qd), .val (.ref a361), .val (.ref a386), .val (.int (oP5 qa qb qc qd).2), .val (.int (oVal s451)), .val (.int (1 : Int32)), .unset] [(.int (oVal s511))])
    have q_s534 : s534 = oS6 (2 : Int32) qa qb qc qd := by rw [← e_s534, q_s511]; rfl
    refine gistore B X527 at_198 (Ls' := #[.val (.int p0), .val (.int p1), .val (.int p2), .val (.int p3), .val (.int p4), .val (.int (2 : Int32)), .val (.int qa), .val (.int qb), .val (.int qc), .val (.int qd), .val (.ref a361), .val (.ref a386), .val (.int (oP5 qa qb qc qd).2), .val (.int (oVal s451)), .val (.int (1 : Int32)), .val (.int (oVal s511))]) rfl (pc' := 200) rfl ?_
    refine giload B X527 at_200 rfl (pc' := 202) rfl ?_
    have c202_535 : ¬ ((1 : Int32) = (0 : Int32)) := (by decide)
    refine gifN B X527 at_202 ((if0 _ _).trans (feq c202_535).1) (pc' := 205) rfl ?_
    refine giload B X527 at_205 rfl (pc' := 207) rfl ?_
    refine gaload B X527 at_207 rfl rfl (pc' := 209) rfl ?_
    refine giconst B X527 at_209 (v := (0 : Int32)) rfl (pc' := 210) rfl ?_
    refine giaload B X527 F530 (n := 4) (by rw [List.length_map]; exact hA.1.2.2.2.2.2.2) (by decide) (v := (.int ((oP5 qa qb qc qd).1.getD 0 0))) (own_at (by rw [hA.1.2.2.2.2.2.2]; decide)) at_210 (pc' := 211) rfl ?_
    have c211_536 : (oVal s511) = ((oP5 qa qb qc qd).1.getD 0 0) := by rw [q_s511]; exact hA.2.2.2.1
    refine gicN B X527 at_211 (teq c211_536).2 (pc' := 214) rfl ?_
    refine giconst B X527 at_214 (v := (1 : Int32)) rfl (pc' := 215) rfl ?_
    refine ggoto B X527 (pc' := 219) at_215 (by decide) ?_
    refine gistore B X527 at_219 (Ls' := #[.val (.int p0), .val (.int p1), .val (.int p2), .val (.int p3), .val (.int p4), .val (.int (2 : Int32)), .val (.int qa), .val (.int qb), .val (.int qc), .val (.int qd), .val (.ref a361), .val (.ref a386), .val (.int (oP5 qa qb qc qd).2), .val (.int (oVal s451)), .val (.int (1 : Int32)), .val (.int (oVal s511))]) rfl (pc' := 221) rfl ?_
    refine giload B X527 at_221 rfl (pc' := 223) rfl ?_
    refine giconst B X527 at_223 (v := (1 : Int32)) rfl (pc' := 224) rfl ?_
    by_cases c224_537 : (1 : Int32) < (oP5 qa qb qc qd).2
    · refine gicN B X527 at_224 (tlt c224_537).2.2.2 (pc' := 227) rfl ?_
      refine gaload B X527 at_227 rfl rfl (pc' := 229) rfl ?_
      refine gcallV B X527 O531.1 (hw _ (List.mem_of_getElem? (i := 33) rfl)) (hw _ (List.mem_of_getElem? (i := 34) rfl)) (hw _ (List.mem_of_getElem? (i := 36) rfl)) (hw _ (List.mem_of_getElem? (i := 35) rfl)) (hw _ (List.mem_of_getElem? (i := 3) rfl)) (hw _ (List.mem_of_getElem? (i := 37) rfl)) rfl (by decide) (mt6 l Z a0 hw a361 r374 t375 (2 : Int32) s534 h525 O531 A532 A533 n382 n383 n378 ok_s534) pd___I rfl (argsL := []) (st := []) rfl rfl (W := 0) (Nat.le_of_eq rfl) (by decide) (by decide) (by decide) (by decide) (allS (Or.inr z_a361) (allS (Or.inr z_r374) (allS (Or.inr z_t375) all0))) at_229 (pc' := 232) rfl fun T538 h539 v540 X541 K542 Q543 => ?_
      have F544 := F530.keep K542 (ninS (Ne.symm n391) (ninS (Ne.symm n392) (ninS (Ne.symm n393) nin0)))
      obtain ⟨rfl, O545, A546, A547⟩ := Q543
      generalize e_s548 : oPoll (2 : Int32) s534 = s548 at O545 A546 A547
      have ok_s548 := ok_s534.poll; rw [e_s548] at ok_s548
      show Go p e below s _ _ _ _ _ T538 (mkF m 232 #[.val (.int p0), .val (.int p1), .val (.int p2), .val (.int p3), .val (.int p4), .val (.int (2 : Int32)), .val (.int qa), .val (.int qb), .val (.int qc), .val (.int qd), .val (.ref a361), .val (.ref a386), .val (.int (oP5 qa qb qc qd).2), .val (.int (oVal s451)), .val (.int (1 : Int32)), .val (.int (oVal s511))] [(.int (oVal s534))])
      have q_s548 : s548 = oS7 (2 : Int32) qa qb qc qd := by rw [← e_s548, q_s534]; rfl
      refine gistore B X541 at_232 (Ls' := #[.val (.int p0), .val (.int p1), .val (.int p2), .val (.int p3), .val (.int p4), .val (.int (2 : Int32)), .val (.int qa), .val (.int qb), .val (.int qc), .val (.int qd), .val (.ref a361), .val (.ref a386), .val (.int (oP5 qa qb qc qd).2), .val (.int (oVal s451)), .val (.int (1 : Int32)), .val (.int (oVal s534))]) rfl (pc' := 234) rfl ?_
      refine giload B X541 at_234 rfl (pc' := 236) rfl ?_
      have c236_549 : ¬ ((1 : Int32) = (0 : Int32)) := (by decide)
      refine gifN B X541 at_236 ((if0 _ _).trans (feq c236_549).1) (pc' := 239) rfl ?_
      refine giload B X541 at_239 rfl (pc' := 241) rfl ?_
      refine gaload B X541 at_241 rfl rfl (pc' := 243) rfl ?_
      refine giconst B X541 at_243 (v := (1 : Int32)) rfl (pc' := 244) rfl ?_
      refine giaload B X541 F544 (n := 4) (by rw [List.length_map]; exact hA.1.2.2.2.2.2.2) (by decide) (v := (.int ((oP5 qa qb qc qd).1.getD 1 0))) (own_at (by rw [hA.1.2.2.2.2.2.2]; decide)) at_244 (pc' := 245) rfl ?_
      have c245_550 : (oVal s534) = ((oP5 qa qb qc qd).1.getD 1 0) := by rw [q_s534]; exact hA.2.2.2.2.1.1 c224_537
      refine gicN B X541 at_245 (teq c245_550).2 (pc' := 248) rfl ?_
      refine giconst B X541 at_248 (v := (1 : Int32)) rfl (pc' := 249) rfl ?_
      refine ggoto B X541 (pc' := 253) at_249 (by decide) ?_
      refine gistore B X541 at_253 (Ls' := #[.val (.int p0), .val (.int p1), .val (.int p2), .val (.int p3), .val (.int p4), .val (.int (2 : Int32)), .val (.int qa), .val (.int qb), .val (.int qc), .val (.int qd), .val (.ref a361), .val (.ref a386), .val (.int (oP5 qa qb qc qd).2), .val (.int (oVal s451)), .val (.int (1 : Int32)), .val (.int (oVal s534))]) rfl (pc' := 255) rfl ?_
      refine giload B X541 at_255 rfl (pc' := 257) rfl ?_
      refine giconst B X541 at_257 (v := (2 : Int32)) rfl (pc' := 258) rfl ?_
      by_cases c258_551 : (2 : Int32) < (oP5 qa qb qc qd).2
      · refine gicN B X541 at_258 (tlt c258_551).2.2.2 (pc' := 261) rfl ?_
        refine gaload B X541 at_261 rfl rfl (pc' := 263) rfl ?_
        refine gcallV B X541 O545.1 (hw _ (List.mem_of_getElem? (i := 33) rfl)) (hw _ (List.mem_of_getElem? (i := 34) rfl)) (hw _ (List.mem_of_getElem? (i := 36) rfl)) (hw _ (List.mem_of_getElem? (i := 35) rfl)) (hw _ (List.mem_of_getElem? (i := 3) rfl)) (hw _ (List.mem_of_getElem? (i := 37) rfl)) rfl (by decide) (mt6 l Z a0 hw a361 r374 t375 (2 : Int32) s548 h539 O545 A546 A547 n382 n383 n378 ok_s548) pd___I rfl (argsL := []) (st := []) rfl rfl (W := 0) (Nat.le_of_eq rfl) (by decide) (by decide) (by decide) (by decide) (allS (Or.inr z_a361) (allS (Or.inr z_r374) (allS (Or.inr z_t375) all0))) at_263 (pc' := 266) rfl fun T552 h553 v554 X555 K556 Q557 => ?_
        have F558 := F544.keep K556 (ninS (Ne.symm n391) (ninS (Ne.symm n392) (ninS (Ne.symm n393) nin0)))
        obtain ⟨rfl, O559, A560, A561⟩ := Q557
        generalize e_s562 : oPoll (2 : Int32) s548 = s562 at O559 A560 A561
        have ok_s562 := ok_s548.poll; rw [e_s562] at ok_s562
        show Go p e below s _ _ _ _ _ T552 (mkF m 266 #[.val (.int p0), .val (.int p1), .val (.int p2), .val (.int p3), .val (.int p4), .val (.int (2 : Int32)), .val (.int qa), .val (.int qb), .val (.int qc), .val (.int qd), .val (.ref a361), .val (.ref a386), .val (.int (oP5 qa qb qc qd).2), .val (.int (oVal s451)), .val (.int (1 : Int32)), .val (.int (oVal s534))] [(.int (oVal s548))])
        have q_s562 : s562 = oS8 (2 : Int32) qa qb qc qd := by rw [← e_s562, q_s548]; rfl
        refine gistore B X555 at_266 (Ls' := #[.val (.int p0), .val (.int p1), .val (.int p2), .val (.int p3), .val (.int p4), .val (.int (2 : Int32)), .val (.int qa), .val (.int qb), .val (.int qc), .val (.int qd), .val (.ref a361), .val (.ref a386), .val (.int (oP5 qa qb qc qd).2), .val (.int (oVal s451)), .val (.int (1 : Int32)), .val (.int (oVal s548))]) rfl (pc' := 268) rfl ?_
        refine giload B X555 at_268 rfl (pc' := 270) rfl ?_
        have c270_563 : ¬ ((1 : Int32) = (0 : Int32)) := (by decide)
        refine gifN B X555 at_270 ((if0 _ _).trans (feq c270_563).1) (pc' := 273) rfl ?_
        refine giload B X555 at_273 rfl (pc' := 275) rfl ?_
        refine gaload B X555 at_275 rfl rfl (pc' := 277) rfl ?_
        refine giconst B X555 at_277 (v := (2 : Int32)) rfl (pc' := 278) rfl ?_
        refine giaload B X555 F558 (n := 4) (by rw [List.length_map]; exact hA.1.2.2.2.2.2.2) (by decide) (v := (.int ((oP5 qa qb qc qd).1.getD 2 0))) (own_at (by rw [hA.1.2.2.2.2.2.2]; decide)) at_278 (pc' := 279) rfl ?_
        have c279_564 : (oVal s548) = ((oP5 qa qb qc qd).1.getD 2 0) := by rw [q_s548]; exact hA.2.2.2.2.1.2 c258_551
        refine gicN B X555 at_279 (teq c279_564).2 (pc' := 282) rfl ?_
        refine giconst B X555 at_282 (v := (1 : Int32)) rfl (pc' := 283) rfl ?_
        refine ggoto B X555 (pc' := 287) at_283 (by decide) ?_
        refine gistore B X555 at_287 (Ls' := #[.val (.int p0), .val (.int p1), .val (.int p2), .val (.int p3), .val (.int p4), .val (.int (2 : Int32)), .val (.int qa), .val (.int qb), .val (.int qc), .val (.int qd), .val (.ref a361), .val (.ref a386), .val (.int (oP5 qa qb qc qd).2), .val (.int (oVal s451)), .val (.int (1 : Int32)), .val (.int (oVal s548))]) rfl (pc' := 289) rfl ?_
        refine giload B X555 at_289 rfl (pc' := 291) rfl ?_
        have c291_565 : ¬ ((1 : Int32) = (0 : Int32)) := (by decide)
        refine gifN B X555 at_291 ((if0 _ _).trans (feq c291_565).1) (pc' := 294) rfl ?_
        refine gaload B X555 at_294 rfl rfl (pc' := 296) rfl ?_
        refine gcallV B X555 O559.1 (hw _ (List.mem_of_getElem? (i := 40) rfl)) (hw _ (List.mem_of_getElem? (i := 41) rfl)) (hw _ (List.mem_of_getElem? (i := 43) rfl)) (hw _ (List.mem_of_getElem? (i := 42) rfl)) (hw _ (List.mem_of_getElem? (i := 3) rfl)) (hw _ (List.mem_of_getElem? (i := 44) rfl)) rfl (by decide) (mtemp l Z a0 hw a361 (.ref r374) (.ref t375) (.int s562.2.2.1) (.int s562.2.2.2.1) s562.2.2.2.2 h553 O559) pd___Z rfl (argsL := []) (st := []) rfl rfl (W := 0) (Nat.le_of_eq rfl) (by decide) (by decide) (by decide) (by decide) (fun x q => nomatch q) at_296 (pc' := 299) rfl (pureG rfl rfl fun T566 X567 => ?_)
        have c299_568 : ¬ ((oemp s562.2.2.2.2) = (0 : Int32)) := by rw [q_s562, hA.2.2.2.2.2.2.2 c258_551]; decide
        refine gifN B X567 at_299 ((if0 _ _).trans (feq c299_568).1) (pc' := 302) rfl ?_
        refine giconst B X567 at_302 (v := (1 : Int32)) rfl (pc' := 303) rfl ?_
        refine ggoto B X567 (pc' := 307) at_303 (by decide) ?_
        exact gretN B X567 (z' := (1 : Int32)) (by simp) (rfl) at_307 (by decide) (by decide) (rfl)
      · refine gicY B X541 (pc' := 289) at_258 (flt c258_551).2.2.2 (by decide) ?_
        refine giload B X541 at_289 rfl (pc' := 291) rfl ?_
        have c291_569 : ¬ ((1 : Int32) = (0 : Int32)) := (by decide)
        refine gifN B X541 at_291 ((if0 _ _).trans (feq c291_569).1) (pc' := 294) rfl ?_
        refine gaload B X541 at_294 rfl rfl (pc' := 296) rfl ?_
        refine gcallV B X541 O545.1 (hw _ (List.mem_of_getElem? (i := 40) rfl)) (hw _ (List.mem_of_getElem? (i := 41) rfl)) (hw _ (List.mem_of_getElem? (i := 43) rfl)) (hw _ (List.mem_of_getElem? (i := 42) rfl)) (hw _ (List.mem_of_getElem? (i := 3) rfl)) (hw _ (List.mem_of_getElem? (i := 44) rfl)) rfl (by decide) (mtemp l Z a0 hw a361 (.ref r374) (.ref t375) (.int s548.2.2.1) (.int s548.2.2.2.1) s548.2.2.2.2 h539 O545) pd___Z rfl (argsL := []) (st := []) rfl rfl (W := 0) (Nat.le_of_eq rfl) (by decide) (by decide) (by decide) (by decide) (fun x q => nomatch q) at_296 (pc' := 299) rfl (pureG rfl rfl fun T570 X571 => ?_)
        have c299_572 : ¬ ((oemp s548.2.2.2.2) = (0 : Int32)) := by rw [q_s548, hA.2.2.2.2.2.2.1 c224_537 c258_551]; decide
        refine gifN B X571 at_299 ((if0 _ _).trans (feq c299_572).1) (pc' := 302) rfl ?_
        refine giconst B X571 at_302 (v := (1 : Int32)) rfl (pc' := 303) rfl ?_
        refine ggoto B X571 (pc' := 307) at_303 (by decide) ?_
        exact gretN B X571 (z' := (1 : Int32)) (by simp) (rfl) at_307 (by decide) (by decide) (rfl)
    · refine gicY B X527 (pc' := 255) at_224 (flt c224_537).2.2.2 (by decide) ?_
      refine giload B X527 at_255 rfl (pc' := 257) rfl ?_
      refine giconst B X527 at_257 (v := (2 : Int32)) rfl (pc' := 258) rfl ?_
      have c258_573 : ¬ ((2 : Int32) < (oP5 qa qb qc qd).2) := (hA.2.2.2.2.2.1 c224_537).1
      refine gicY B X527 (pc' := 289) at_258 (flt c258_573).2.2.2 (by decide) ?_
      refine giload B X527 at_289 rfl (pc' := 291) rfl ?_
      have c291_574 : ¬ ((1 : Int32) = (0 : Int32)) := (by decide)
      refine gifN B X527 at_291 ((if0 _ _).trans (feq c291_574).1) (pc' := 294) rfl ?_
      refine gaload B X527 at_294 rfl rfl (pc' := 296) rfl ?_
      refine gcallV B X527 O531.1 (hw _ (List.mem_of_getElem? (i := 40) rfl)) (hw _ (List.mem_of_getElem? (i := 41) rfl)) (hw _ (List.mem_of_getElem? (i := 43) rfl)) (hw _ (List.mem_of_getElem? (i := 42) rfl)) (hw _ (List.mem_of_getElem? (i := 3) rfl)) (hw _ (List.mem_of_getElem? (i := 44) rfl)) rfl (by decide) (mtemp l Z a0 hw a361 (.ref r374) (.ref t375) (.int s534.2.2.1) (.int s534.2.2.2.1) s534.2.2.2.2 h525 O531) pd___Z rfl (argsL := []) (st := []) rfl rfl (W := 0) (Nat.le_of_eq rfl) (by decide) (by decide) (by decide) (by decide) (fun x q => nomatch q) at_296 (pc' := 299) rfl (pureG rfl rfl fun T575 X576 => ?_)
      have c299_577 : ¬ ((oemp s534.2.2.2.2) = (0 : Int32)) := by rw [q_s534, (hA.2.2.2.2.2.1 c224_537).2]; decide
      refine gifN B X576 at_299 ((if0 _ _).trans (feq c299_577).1) (pc' := 302) rfl ?_
      refine giconst B X576 at_302 (v := (1 : Int32)) rfl (pc' := 303) rfl ?_
      refine ggoto B X576 (pc' := 307) at_303 (by decide) ?_
      exact gretN B X576 (z' := (1 : Int32)) (by simp) (rfl) at_307 (by decide) (by decide) (rfl)
  · rw [e_n]
    refine gistore B X at_8 (Ls' := #[.val (.int p0), .val (.int p1), .val (.int p2), .val (.int p3), .val (.int p4), .val (.int (3 : Int32)), .unset, .unset, .unset, .unset, .unset, .unset, .unset, .unset, .unset, .unset]) rfl (pc' := 10) rfl ?_
    refine giloadN B X at_10 rfl (pc' := 11) rfl ?_
    refine gldc B X (v := (2147483647 : Int32)) (hw _ (List.mem_of_getElem? (i := 0) rfl)) at_11 (pc' := 13) rfl ?_
    refine giand B X at_13 rfl (pc' := 14) rfl ?_
    refine giload B X at_14 rfl (pc' := 16) rfl ?_
    refine girem B X at_16 (by decide) rfl (pc' := 17) rfl ?_
    generalize e_qa : ((p1 &&& (2147483647 : Int32)) % (3 : Int32)) = qa
    refine gistore B X at_17 (Ls' := #[.val (.int p0), .val (.int p1), .val (.int p2), .val (.int p3), .val (.int p4), .val (.int (3 : Int32)), .val (.int qa), .unset, .unset, .unset, .unset, .unset, .unset, .unset, .unset, .unset]) rfl (pc' := 19) rfl ?_
    have hqa := own_x p1 (3 : Int32) (by decide); rw [e_qa] at hqa
    refine giloadN B X at_19 rfl (pc' := 20) rfl ?_
    refine gldc B X (v := (2147483647 : Int32)) (hw _ (List.mem_of_getElem? (i := 0) rfl)) at_20 (pc' := 22) rfl ?_
    refine giand B X at_22 rfl (pc' := 23) rfl ?_
    refine giload B X at_23 rfl (pc' := 25) rfl ?_
    refine girem B X at_25 (by decide) rfl (pc' := 26) rfl ?_
    generalize e_qb : ((p2 &&& (2147483647 : Int32)) % (3 : Int32)) = qb
    refine gistore B X at_26 (Ls' := #[.val (.int p0), .val (.int p1), .val (.int p2), .val (.int p3), .val (.int p4), .val (.int (3 : Int32)), .val (.int qa), .val (.int qb), .unset, .unset, .unset, .unset, .unset, .unset, .unset, .unset]) rfl (pc' := 28) rfl ?_
    have hqb := own_x p2 (3 : Int32) (by decide); rw [e_qb] at hqb
    refine giloadN B X at_28 rfl (pc' := 29) rfl ?_
    refine gldc B X (v := (2147483647 : Int32)) (hw _ (List.mem_of_getElem? (i := 0) rfl)) at_29 (pc' := 31) rfl ?_
    refine giand B X at_31 rfl (pc' := 32) rfl ?_
    refine giload B X at_32 rfl (pc' := 34) rfl ?_
    refine girem B X at_34 (by decide) rfl (pc' := 35) rfl ?_
    generalize e_qc : ((p3 &&& (2147483647 : Int32)) % (3 : Int32)) = qc
    refine gistore B X at_35 (Ls' := #[.val (.int p0), .val (.int p1), .val (.int p2), .val (.int p3), .val (.int p4), .val (.int (3 : Int32)), .val (.int qa), .val (.int qb), .val (.int qc), .unset, .unset, .unset, .unset, .unset, .unset, .unset]) rfl (pc' := 37) rfl ?_
    have hqc := own_x p3 (3 : Int32) (by decide); rw [e_qc] at hqc
    refine giload B X at_37 rfl (pc' := 39) rfl ?_
    refine gldc B X (v := (2147483647 : Int32)) (hw _ (List.mem_of_getElem? (i := 0) rfl)) at_39 (pc' := 41) rfl ?_
    refine giand B X at_41 rfl (pc' := 42) rfl ?_
    refine giload B X at_42 rfl (pc' := 44) rfl ?_
    refine girem B X at_44 (by decide) rfl (pc' := 45) rfl ?_
    generalize e_qd : ((p4 &&& (2147483647 : Int32)) % (3 : Int32)) = qd
    refine gistore B X at_45 (Ls' := #[.val (.int p0), .val (.int p1), .val (.int p2), .val (.int p3), .val (.int p4), .val (.int (3 : Int32)), .val (.int qa), .val (.int qb), .val (.int qc), .val (.int qd), .unset, .unset, .unset, .unset, .unset, .unset]) rfl (pc' := 47) rfl ?_
    have hqd := own_x p4 (3 : Int32) (by decide); rw [e_qd] at hqd
    have hA := own_all3 qa qb qc qd hqa hqb hqc hqd
    have ok0 := own_ok0 (3 : Int32) (by decide)
    refine gnew B X (hw _ (List.mem_of_getElem? (i := 1) rfl)) (hw _ (List.mem_of_getElem? (i := 2) rfl)) (hw _ (List.mem_of_getElem? (i := 3) rfl)) (by decide) (by decide) at_47 (pc' := 50) rfl fun T578 h579 a580 X581 q582 E583 z_a580 A584 D585 => ?_
    have O586 : Dq Z h579 a580 .null .null (.int (0 : Int32)) (.int (0 : Int32)) (.int (0 : Int32)) := ⟨A584, D585 (Or.inr (hw _ (List.mem_of_getElem? (i := 12) rfl))) (ty := (.array .int)) (by decide), D585 (Or.inr (hw _ (List.mem_of_getElem? (i := 15) rfl))) (ty := (.array .boolean)) (by decide), D585 (Or.inl (hw _ (List.mem_of_getElem? (i := 39) rfl))) (ty := .int) (by decide), D585 (Or.inl (hw _ (List.mem_of_getElem? (i := 22) rfl))) (ty := .int) (by decide), D585 (Or.inl (hw _ (List.mem_of_getElem? (i := 28) rfl))) (ty := .int) (by decide)⟩
    refine gdup B X581 at_50 rfl (pc' := 51) rfl ?_
    refine giload B X581 at_51 rfl (pc' := 53) rfl ?_
    refine gcallI B X581 rfl rfl (hw _ (List.mem_of_getElem? (i := 4) rfl)) (hw _ (List.mem_of_getElem? (i := 5) rfl)) (hw _ (List.mem_of_getElem? (i := 3) rfl)) (hw _ (List.mem_of_getElem? (i := 6) rfl)) (by decide) (mt1 l Z a0 hw a580 (3 : Int32)  h579 O586 (by decide)) pd__I_V rfl (argsL := [(.int (3 : Int32))]) (st := [(.ref a580)]) rfl rfl (W := 1) (Nat.le_of_eq rfl) (by decide) (by decide) (by decide) (by decide) (allS (Or.inr z_a580) all0) at_53 (pc' := 56) rfl fun T587 h588 v589 X590 K591 Q592 => ?_
    obtain ⟨rfl, r593, t594, y595, y596, n597, O598, A599, A600⟩ := Q592
    have z_r593 : h0.size ≤ r593 := Nat.le_trans X581.kept.1 y595
    have n601 : a580 ≠ r593 := Nat.ne_of_lt (Nat.lt_of_lt_of_le O586.lt y595)
    have z_t594 : h0.size ≤ t594 := Nat.le_trans X581.kept.1 y596
    have n602 : a580 ≠ t594 := Nat.ne_of_lt (Nat.lt_of_lt_of_le O586.lt y596)
    have A599' : VA Z h588 r593 .int ((oS0 (3 : Int32)).1.map Value.int) := A599
    have A600' : VA Z h588 t594 .boolean ((oS0 (3 : Int32)).2.1.map Value.int) := A600
    show Go p e below s _ _ _ _ _ T587 (mkF m 56 #[.val (.int p0), .val (.int p1), .val (.int p2), .val (.int p3), .val (.int p4), .val (.int (3 : Int32)), .val (.int qa), .val (.int qb), .val (.int qc), .val (.int qd), .unset, .unset, .unset, .unset, .unset, .unset] [(.ref a580)])
    refine gastore B X590 at_56 rfl (Ls' := #[.val (.int p0), .val (.int p1), .val (.int p2), .val (.int p3), .val (.int p4), .val (.int (3 : Int32)), .val (.int qa), .val (.int qb), .val (.int qc), .val (.int qd), .val (.ref a580), .unset, .unset, .unset, .unset, .unset]) rfl (pc' := 58) rfl ?_
    refine giconst B X590 at_58 (v := (4 : Int32)) rfl (pc' := 59) rfl ?_
    refine gnewarray B X590 (cap := 4) (vs := [(.int (0 : Int32)), (.int (0 : Int32)), (.int (0 : Int32)), (.int (0 : Int32))]) (ty := .int) rfl rfl (hw _ (List.mem_of_getElem? (i := 10) rfl)) (by decide) (by decide) (by decide) (by decide) (by decide) at_59 (pc' := 61) rfl fun T603 h604 a605 X606 q607 E608 z_a605 A609 => ?_
    have n610 : a580 ≠ a605 := by rw [q607]; exact Nat.ne_of_lt O598.lt
    have n611 : r593 ≠ a605 := by rw [q607]; exact Nat.ne_of_lt A599'.lt
    have n612 : t594 ≠ a605 := by rw [q607]; exact Nat.ne_of_lt A600'.lt
    have F613 := O598.ext E608
    have F614 := A599'.ext E608
    have F615 := A600'.ext E608
    refine gastore B X606 at_61 rfl (Ls' := #[.val (.int p0), .val (.int p1), .val (.int p2), .val (.int p3), .val (.int p4), .val (.int (3 : Int32)), .val (.int qa), .val (.int qb), .val (.int qc), .val (.int qd), .val (.ref a580), .val (.ref a605), .unset, .unset, .unset, .unset]) rfl (pc' := 63) rfl ?_
    refine giconst B X606 at_63 (v := (0 : Int32)) rfl (pc' := 64) rfl ?_
    refine gistore B X606 at_64 (Ls' := #[.val (.int p0), .val (.int p1), .val (.int p2), .val (.int p3), .val (.int p4), .val (.int (3 : Int32)), .val (.int qa), .val (.int qb), .val (.int qc), .val (.int qd), .val (.ref a580), .val (.ref a605), .val (.int (0 : Int32)), .unset, .unset, .unset]) rfl (pc' := 66) rfl ?_
    refine gaload B X606 at_66 rfl rfl (pc' := 68) rfl ?_
    refine giload B X606 at_68 rfl (pc' := 70) rfl ?_
    refine gcallV B X606 F613.1 (hw _ (List.mem_of_getElem? (i := 16) rfl)) (hw _ (List.mem_of_getElem? (i := 17) rfl)) (hw _ (List.mem_of_getElem? (i := 19) rfl)) (hw _ (List.mem_of_getElem? (i := 18) rfl)) (hw _ (List.mem_of_getElem? (i := 3) rfl)) (hw _ (List.mem_of_getElem? (i := 20) rfl)) rfl (by decide) (mt3 l Z a0 hw a580 qa r593 t594 (3 : Int32) (oS0 (3 : Int32)) h604 F613 F614 F615 n601 n602 n597 ok0 hqa) pd__I_V rfl (argsL := [(.int qa)]) (st := []) rfl rfl (W := 0) (Nat.le_of_eq rfl) (by decide) (by decide) (by decide) (by decide) (allS (Or.inr z_a580) (allS (Or.inr z_r593) (allS (Or.inr z_t594) all0))) at_70 (pc' := 73) rfl fun T616 h617 v618 X619 K620 Q621 => ?_
    have F622 := A609.keep K620 (ninS (Ne.symm n610) (ninS (Ne.symm n611) (ninS (Ne.symm n612) nin0)))
    obtain ⟨rfl, O623, A624, A625⟩ := Q621
    generalize e_s626 : oAdd (3 : Int32) (oS0 (3 : Int32)) qa = s626 at O623 A624 A625
    have ok_s626 := ok0.add hqa; rw [e_s626] at ok_s626
    show Go p e below s _ _ _ _ _ T616 (mkF m 73 #[.val (.int p0), .val (.int p1), .val (.int p2), .val (.int p3), .val (.int p4), .val (.int (3 : Int32)), .val (.int qa), .val (.int qb), .val (.int qc), .val (.int qd), .val (.ref a580), .val (.ref a605), .val (.int (0 : Int32)), .unset, .unset, .unset] [])
    have q_s626 : s626 = oS1 (3 : Int32) qa := by rw [← e_s626]; rfl
    refine gaload B X619 at_73 rfl rfl (pc' := 75) rfl ?_
    refine giload B X619 at_75 rfl (pc' := 77) rfl ?_
    refine giload B X619 at_77 rfl (pc' := 79) rfl ?_
    refine gcallS B X619 (hw _ (List.mem_of_getElem? (i := 29) rfl)) (hw _ (List.mem_of_getElem? (i := 30) rfl)) (hw _ (List.mem_of_getElem? (i := 31) rfl)) (hw _ (List.mem_of_getElem? (i := 32) rfl)) (by decide) (mt5 l Z a0 hw a605 (0 : Int32) qa oY0 h617 F622 rfl (by decide)) pd___III_I rfl (argsL := [(.ref a605), (.int (0 : Int32)), (.int qa)]) (st := []) rfl rfl (W := 0) (Nat.le_of_eq rfl) (by decide) (by decide) (by decide) (by decide) (allS (Or.inr z_a605) all0) at_79 (pc' := 82) rfl fun T627 h628 v629 X630 K631 Q632 => ?_
    have F633 := O623.keep K631 (ninS n610 nin0)
    have F634 := A624.keep K631 (ninS n611 nin0)
    have F635 := A625.keep K631 (ninS n612 nin0)
    obtain ⟨rfl, A636⟩ := Q632
    show Go p e below s _ _ _ _ _ T627 (mkF m 82 #[.val (.int p0), .val (.int p1), .val (.int p2), .val (.int p3), .val (.int p4), .val (.int (3 : Int32)), .val (.int qa), .val (.int qb), .val (.int qc), .val (.int qd), .val (.ref a580), .val (.ref a605), .val (.int (0 : Int32)), .unset, .unset, .unset] [(.int (oPut oY0 (0 : Int32) qa).2)])
    have A637 : VA Z h628 a605 .int ((oP1 qa).1.map Value.int) := A636
    show Go p e below s _ _ _ _ _ T627 (mkF m 82 #[.val (.int p0), .val (.int p1), .val (.int p2), .val (.int p3), .val (.int p4), .val (.int (3 : Int32)), .val (.int qa), .val (.int qb), .val (.int qc), .val (.int qd), .val (.ref a580), .val (.ref a605), .val (.int (0 : Int32)), .unset, .unset, .unset] [(.int (oP1 qa).2)])
    refine gistore B X630 at_82 (Ls' := #[.val (.int p0), .val (.int p1), .val (.int p2), .val (.int p3), .val (.int p4), .val (.int (3 : Int32)), .val (.int qa), .val (.int qb), .val (.int qc), .val (.int qd), .val (.ref a580), .val (.ref a605), .val (.int (oP1 qa).2), .unset, .unset, .unset]) rfl (pc' := 84) rfl ?_
    refine gaload B X630 at_84 rfl rfl (pc' := 86) rfl ?_
    refine giload B X630 at_86 rfl (pc' := 88) rfl ?_
    refine gcallV B X630 F633.1 (hw _ (List.mem_of_getElem? (i := 16) rfl)) (hw _ (List.mem_of_getElem? (i := 17) rfl)) (hw _ (List.mem_of_getElem? (i := 19) rfl)) (hw _ (List.mem_of_getElem? (i := 18) rfl)) (hw _ (List.mem_of_getElem? (i := 3) rfl)) (hw _ (List.mem_of_getElem? (i := 20) rfl)) rfl (by decide) (mt3 l Z a0 hw a580 qb r593 t594 (3 : Int32) s626 h628 F633 F634 F635 n601 n602 n597 ok_s626 hqb) pd__I_V rfl (argsL := [(.int qb)]) (st := []) rfl rfl (W := 0) (Nat.le_of_eq rfl) (by decide) (by decide) (by decide) (by decide) (allS (Or.inr z_a580) (allS (Or.inr z_r593) (allS (Or.inr z_t594) all0))) at_88 (pc' := 91) rfl fun T638 h639 v640 X641 K642 Q643 => ?_
    have F644 := A637.keep K642 (ninS (Ne.symm n610) (ninS (Ne.symm n611) (ninS (Ne.symm n612) nin0)))
    obtain ⟨rfl, O645, A646, A647⟩ := Q643
    generalize e_s648 : oAdd (3 : Int32) s626 qb = s648 at O645 A646 A647
    have ok_s648 := ok_s626.add hqb; rw [e_s648] at ok_s648
    show Go p e below s _ _ _ _ _ T638 (mkF m 91 #[.val (.int p0), .val (.int p1), .val (.int p2), .val (.int p3), .val (.int p4), .val (.int (3 : Int32)), .val (.int qa), .val (.int qb), .val (.int qc), .val (.int qd), .val (.ref a580), .val (.ref a605), .val (.int (oP1 qa).2), .unset, .unset, .unset] [])
    have q_s648 : s648 = oS2 (3 : Int32) qa qb := by rw [← e_s648, q_s626]; rfl
    refine gaload B X641 at_91 rfl rfl (pc' := 93) rfl ?_
    refine giload B X641 at_93 rfl (pc' := 95) rfl ?_
    refine giload B X641 at_95 rfl (pc' := 97) rfl ?_
    refine gcallS B X641 (hw _ (List.mem_of_getElem? (i := 29) rfl)) (hw _ (List.mem_of_getElem? (i := 30) rfl)) (hw _ (List.mem_of_getElem? (i := 31) rfl)) (hw _ (List.mem_of_getElem? (i := 32) rfl)) (by decide) (mt5 l Z a0 hw a605 (oP1 qa).2 qb (oP1 qa).1 h639 F644 hA.1.1 hA.1.2.1) pd___III_I rfl (argsL := [(.ref a605), (.int (oP1 qa).2), (.int qb)]) (st := []) rfl rfl (W := 0) (Nat.le_of_eq rfl) (by decide) (by decide) (by decide) (by decide) (allS (Or.inr z_a605) all0) at_97 (pc' := 100) rfl fun T649 h650 v651 X652 K653 Q654 => ?_
    have F655 := O645.keep K653 (ninS n610 nin0)
    have F656 := A646.keep K653 (ninS n611 nin0)
    have F657 := A647.keep K653 (ninS n612 nin0)
    obtain ⟨rfl, A658⟩ := Q654
    show Go p e below s _ _ _ _ _ T649 (mkF m 100 #[.val (.int p0), .val (.int p1), .val (.int p2), .val (.int p3), .val (.int p4), .val (.int (3 : Int32)), .val (.int qa), .val (.int qb), .val (.int qc), .val (.int qd), .val (.ref a580), .val (.ref a605), .val (.int (oP1 qa).2), .unset, .unset, .unset] [(.int (oPut (oP1 qa).1 (oP1 qa).2 qb).2)])
    have A659 : VA Z h650 a605 .int ((oP2 qa qb).1.map Value.int) := A658
    show Go p e below s _ _ _ _ _ T649 (mkF m 100 #[.val (.int p0), .val (.int p1), .val (.int p2), .val (.int p3), .val (.int p4), .val (.int (3 : Int32)), .val (.int qa), .val (.int qb), .val (.int qc), .val (.int qd), .val (.ref a580), .val (.ref a605), .val (.int (oP1 qa).2), .unset, .unset, .unset] [(.int (oP2 qa qb).2)])
    refine gistore B X652 at_100 (Ls' := #[.val (.int p0), .val (.int p1), .val (.int p2), .val (.int p3), .val (.int p4), .val (.int (3 : Int32)), .val (.int qa), .val (.int qb), .val (.int qc), .val (.int qd), .val (.ref a580), .val (.ref a605), .val (.int (oP2 qa qb).2), .unset, .unset, .unset]) rfl (pc' := 102) rfl ?_
    refine gaload B X652 at_102 rfl rfl (pc' := 104) rfl ?_
    refine giload B X652 at_104 rfl (pc' := 106) rfl ?_
    refine gcallV B X652 F655.1 (hw _ (List.mem_of_getElem? (i := 16) rfl)) (hw _ (List.mem_of_getElem? (i := 17) rfl)) (hw _ (List.mem_of_getElem? (i := 19) rfl)) (hw _ (List.mem_of_getElem? (i := 18) rfl)) (hw _ (List.mem_of_getElem? (i := 3) rfl)) (hw _ (List.mem_of_getElem? (i := 20) rfl)) rfl (by decide) (mt3 l Z a0 hw a580 qc r593 t594 (3 : Int32) s648 h650 F655 F656 F657 n601 n602 n597 ok_s648 hqc) pd__I_V rfl (argsL := [(.int qc)]) (st := []) rfl rfl (W := 0) (Nat.le_of_eq rfl) (by decide) (by decide) (by decide) (by decide) (allS (Or.inr z_a580) (allS (Or.inr z_r593) (allS (Or.inr z_t594) all0))) at_106 (pc' := 109) rfl fun T660 h661 v662 X663 K664 Q665 => ?_
    have F666 := A659.keep K664 (ninS (Ne.symm n610) (ninS (Ne.symm n611) (ninS (Ne.symm n612) nin0)))
    obtain ⟨rfl, O667, A668, A669⟩ := Q665
    generalize e_s670 : oAdd (3 : Int32) s648 qc = s670 at O667 A668 A669
    have ok_s670 := ok_s648.add hqc; rw [e_s670] at ok_s670
    show Go p e below s _ _ _ _ _ T660 (mkF m 109 #[.val (.int p0), .val (.int p1), .val (.int p2), .val (.int p3), .val (.int p4), .val (.int (3 : Int32)), .val (.int qa), .val (.int qb), .val (.int qc), .val (.int qd), .val (.ref a580), .val (.ref a605), .val (.int (oP2 qa qb).2), .unset, .unset, .unset] [])
    have q_s670 : s670 = oS3 (3 : Int32) qa qb qc := by rw [← e_s670, q_s648]; rfl
    refine gaload B X663 at_109 rfl rfl (pc' := 111) rfl ?_
    refine giload B X663 at_111 rfl (pc' := 113) rfl ?_
    refine giload B X663 at_113 rfl (pc' := 115) rfl ?_
    refine gcallS B X663 (hw _ (List.mem_of_getElem? (i := 29) rfl)) (hw _ (List.mem_of_getElem? (i := 30) rfl)) (hw _ (List.mem_of_getElem? (i := 31) rfl)) (hw _ (List.mem_of_getElem? (i := 32) rfl)) (by decide) (mt5 l Z a0 hw a605 (oP2 qa qb).2 qc (oP2 qa qb).1 h661 F666 hA.1.2.2.1 hA.1.2.2.2.1) pd___III_I rfl (argsL := [(.ref a605), (.int (oP2 qa qb).2), (.int qc)]) (st := []) rfl rfl (W := 0) (Nat.le_of_eq rfl) (by decide) (by decide) (by decide) (by decide) (allS (Or.inr z_a605) all0) at_115 (pc' := 118) rfl fun T671 h672 v673 X674 K675 Q676 => ?_
    have F677 := O667.keep K675 (ninS n610 nin0)
    have F678 := A668.keep K675 (ninS n611 nin0)
    have F679 := A669.keep K675 (ninS n612 nin0)
    obtain ⟨rfl, A680⟩ := Q676
    show Go p e below s _ _ _ _ _ T671 (mkF m 118 #[.val (.int p0), .val (.int p1), .val (.int p2), .val (.int p3), .val (.int p4), .val (.int (3 : Int32)), .val (.int qa), .val (.int qb), .val (.int qc), .val (.int qd), .val (.ref a580), .val (.ref a605), .val (.int (oP2 qa qb).2), .unset, .unset, .unset] [(.int (oPut (oP2 qa qb).1 (oP2 qa qb).2 qc).2)])
    have A681 : VA Z h672 a605 .int ((oP3 qa qb qc).1.map Value.int) := A680
    show Go p e below s _ _ _ _ _ T671 (mkF m 118 #[.val (.int p0), .val (.int p1), .val (.int p2), .val (.int p3), .val (.int p4), .val (.int (3 : Int32)), .val (.int qa), .val (.int qb), .val (.int qc), .val (.int qd), .val (.ref a580), .val (.ref a605), .val (.int (oP2 qa qb).2), .unset, .unset, .unset] [(.int (oP3 qa qb qc).2)])
    refine gistore B X674 at_118 (Ls' := #[.val (.int p0), .val (.int p1), .val (.int p2), .val (.int p3), .val (.int p4), .val (.int (3 : Int32)), .val (.int qa), .val (.int qb), .val (.int qc), .val (.int qd), .val (.ref a580), .val (.ref a605), .val (.int (oP3 qa qb qc).2), .unset, .unset, .unset]) rfl (pc' := 120) rfl ?_
    refine gaload B X674 at_120 rfl rfl (pc' := 122) rfl ?_
    refine gcallV B X674 F677.1 (hw _ (List.mem_of_getElem? (i := 33) rfl)) (hw _ (List.mem_of_getElem? (i := 34) rfl)) (hw _ (List.mem_of_getElem? (i := 36) rfl)) (hw _ (List.mem_of_getElem? (i := 35) rfl)) (hw _ (List.mem_of_getElem? (i := 3) rfl)) (hw _ (List.mem_of_getElem? (i := 37) rfl)) rfl (by decide) (mt6 l Z a0 hw a580 r593 t594 (3 : Int32) s670 h672 F677 F678 F679 n601 n602 n597 ok_s670) pd___I rfl (argsL := []) (st := []) rfl rfl (W := 0) (Nat.le_of_eq rfl) (by decide) (by decide) (by decide) (by decide) (allS (Or.inr z_a580) (allS (Or.inr z_r593) (allS (Or.inr z_t594) all0))) at_122 (pc' := 125) rfl fun T682 h683 v684 X685 K686 Q687 => ?_
    have F688 := A681.keep K686 (ninS (Ne.symm n610) (ninS (Ne.symm n611) (ninS (Ne.symm n612) nin0)))
    obtain ⟨rfl, O689, A690, A691⟩ := Q687
    generalize e_s692 : oPoll (3 : Int32) s670 = s692 at O689 A690 A691
    have ok_s692 := ok_s670.poll; rw [e_s692] at ok_s692
    show Go p e below s _ _ _ _ _ T682 (mkF m 125 #[.val (.int p0), .val (.int p1), .val (.int p2), .val (.int p3), .val (.int p4), .val (.int (3 : Int32)), .val (.int qa), .val (.int qb), .val (.int qc), .val (.int qd), .val (.ref a580), .val (.ref a605), .val (.int (oP3 qa qb qc).2), .unset, .unset, .unset] [(.int (oVal s670))])
    have q_s692 : s692 = oS4 (3 : Int32) qa qb qc := by rw [← e_s692, q_s670]; rfl
    refine gistore B X685 at_125 (Ls' := #[.val (.int p0), .val (.int p1), .val (.int p2), .val (.int p3), .val (.int p4), .val (.int (3 : Int32)), .val (.int qa), .val (.int qb), .val (.int qc), .val (.int qd), .val (.ref a580), .val (.ref a605), .val (.int (oP3 qa qb qc).2), .val (.int (oVal s670)), .unset, .unset]) rfl (pc' := 127) rfl ?_
    have A693 : VA Z h683 a605 .int [.int ((oP3 qa qb qc).1.getD 0 0), .int ((oP3 qa qb qc).1.getD 1 0), .int ((oP3 qa qb qc).1.getD 2 0), .int ((oP3 qa qb qc).1.getD 3 0)] := by rw [own_list4 hA.1.2.2.2.2.1] at F688; exact F688
    refine giload B X685 at_127 rfl (pc' := 129) rfl ?_
    refine gaload B X685 at_129 rfl rfl (pc' := 131) rfl ?_
    refine giconst B X685 at_131 (v := (0 : Int32)) rfl (pc' := 132) rfl ?_
    refine giaload B X685 (n := 4) A693 rfl (by decide) (v := (.int ((oP3 qa qb qc).1.getD 0 0))) rfl at_132 (pc' := 133) rfl ?_
    have c133_694 : (oVal s670) = ((oP3 qa qb qc).1.getD 0 0) := by rw [q_s670]; exact hA.2.1
    refine gicN B X685 at_133 (teq c133_694).2 (pc' := 136) rfl ?_
    refine giconst B X685 at_136 (v := (1 : Int32)) rfl (pc' := 137) rfl ?_
    refine ggoto B X685 (pc' := 141) at_137 (by decide) ?_
    refine gistore B X685 at_141 (Ls' := #[.val (.int p0), .val (.int p1), .val (.int p2), .val (.int p3), .val (.int p4), .val (.int (3 : Int32)), .val (.int qa), .val (.int qb), .val (.int qc), .val (.int qd), .val (.ref a580), .val (.ref a605), .val (.int (oP3 qa qb qc).2), .val (.int (oVal s670)), .val (.int (1 : Int32)), .unset]) rfl (pc' := 143) rfl ?_
    refine gaload B X685 at_143 rfl rfl (pc' := 145) rfl ?_
    refine giconst B X685 at_145 (v := (0 : Int32)) rfl (pc' := 146) rfl ?_
    refine gaload B X685 at_146 rfl rfl (pc' := 148) rfl ?_
    refine giconst B X685 at_148 (v := (1 : Int32)) rfl (pc' := 149) rfl ?_
    refine giaload B X685 (n := 4) A693 rfl (by decide) (v := (.int ((oP3 qa qb qc).1.getD 1 0))) rfl at_149 (pc' := 150) rfl ?_
    refine giastore B X685 (i := 0) (n := 4) A693 rfl (by decide) rfl (vs' := [(.int ((oP3 qa qb qc).1.getD 1 0)), (.int ((oP3 qa qb qc).1.getD 1 0)), (.int ((oP3 qa qb qc).1.getD 2 0)), (.int ((oP3 qa qb qc).1.getD 3 0))]) rfl (Or.inr z_a605) at_150 (pc' := 151) rfl fun T695 h696 X697 W698 A699 => ?_
    have F700 := O689.other W698 n610
    have F701 := A690.other W698 n611
    have F702 := A691.other W698 n612
    refine gaload B X697 at_151 rfl rfl (pc' := 153) rfl ?_
    refine giconst B X697 at_153 (v := (1 : Int32)) rfl (pc' := 154) rfl ?_
    refine gaload B X697 at_154 rfl rfl (pc' := 156) rfl ?_
    refine giconst B X697 at_156 (v := (2 : Int32)) rfl (pc' := 157) rfl ?_
    refine giaload B X697 (n := 4) A699 rfl (by decide) (v := (.int ((oP3 qa qb qc).1.getD 2 0))) rfl at_157 (pc' := 158) rfl ?_
    refine giastore B X697 (i := 1) (n := 4) A699 rfl (by decide) rfl (vs' := [(.int ((oP3 qa qb qc).1.getD 1 0)), (.int ((oP3 qa qb qc).1.getD 2 0)), (.int ((oP3 qa qb qc).1.getD 2 0)), (.int ((oP3 qa qb qc).1.getD 3 0))]) rfl (Or.inr z_a605) at_158 (pc' := 159) rfl fun T703 h704 X705 W706 A707 => ?_
    have F708 := F700.other W706 n610
    have F709 := F701.other W706 n611
    have F710 := F702.other W706 n612
    refine gaload B X705 at_159 rfl rfl (pc' := 161) rfl ?_
    refine giconst B X705 at_161 (v := (2 : Int32)) rfl (pc' := 162) rfl ?_
    refine giconst B X705 at_162 (v := (0 : Int32)) rfl (pc' := 163) rfl ?_
    refine giastore B X705 (i := 2) (n := 4) A707 rfl (by decide) rfl (vs' := [(.int ((oP3 qa qb qc).1.getD 1 0)), (.int ((oP3 qa qb qc).1.getD 2 0)), (.int (0 : Int32)), (.int ((oP3 qa qb qc).1.getD 3 0))]) rfl (Or.inr z_a605) at_163 (pc' := 164) rfl fun T711 h712 X713 W714 A715 => ?_
    have F716 := F708.other W714 n610
    have F717 := F709.other W714 n611
    have F718 := F710.other W714 n612
    have A719 : VA Z h712 a605 .int ((oY4 qa qb qc).map Value.int) := A715
    refine giload B X713 at_164 rfl (pc' := 166) rfl ?_
    refine giconst B X713 at_166 (v := (1 : Int32)) rfl (pc' := 167) rfl ?_
    refine gisub B X713 at_167 rfl (pc' := 168) rfl ?_
    refine gistore B X713 at_168 (Ls' := #[.val (.int p0), .val (.int p1), .val (.int p2), .val (.int p3), .val (.int p4), .val (.int (3 : Int32)), .val (.int qa), .val (.int qb), .val (.int qc), .val (.int qd), .val (.ref a580), .val (.ref a605), .val (.int ((oP3 qa qb qc).2 - (1 : Int32))), .val (.int (oVal s670)), .val (.int (1 : Int32)), .unset]) rfl (pc' := 170) rfl ?_
    refine gaload B X713 at_170 rfl rfl (pc' := 172) rfl ?_
    refine giload B X713 at_172 rfl (pc' := 174) rfl ?_
    refine gcallV B X713 F716.1 (hw _ (List.mem_of_getElem? (i := 16) rfl)) (hw _ (List.mem_of_getElem? (i := 17) rfl)) (hw _ (List.mem_of_getElem? (i := 19) rfl)) (hw _ (List.mem_of_getElem? (i := 18) rfl)) (hw _ (List.mem_of_getElem? (i := 3) rfl)) (hw _ (List.mem_of_getElem? (i := 20) rfl)) rfl (by decide) (mt3 l Z a0 hw a580 qd r593 t594 (3 : Int32) s692 h712 F716 F717 F718 n601 n602 n597 ok_s692 hqd) pd__I_V rfl (argsL := [(.int qd)]) (st := []) rfl rfl (W := 0) (Nat.le_of_eq rfl) (by decide) (by decide) (by decide) (by decide) (allS (Or.inr z_a580) (allS (Or.inr z_r593) (allS (Or.inr z_t594) all0))) at_174 (pc' := 177) rfl fun T720 h721 v722 X723 K724 Q725 => ?_
    have F726 := A719.keep K724 (ninS (Ne.symm n610) (ninS (Ne.symm n611) (ninS (Ne.symm n612) nin0)))
    obtain ⟨rfl, O727, A728, A729⟩ := Q725
    generalize e_s730 : oAdd (3 : Int32) s692 qd = s730 at O727 A728 A729
    have ok_s730 := ok_s692.add hqd; rw [e_s730] at ok_s730
    show Go p e below s _ _ _ _ _ T720 (mkF m 177 #[.val (.int p0), .val (.int p1), .val (.int p2), .val (.int p3), .val (.int p4), .val (.int (3 : Int32)), .val (.int qa), .val (.int qb), .val (.int qc), .val (.int qd), .val (.ref a580), .val (.ref a605), .val (.int ((oP3 qa qb qc).2 - (1 : Int32))), .val (.int (oVal s670)), .val (.int (1 : Int32)), .unset] [])
    have q_s730 : s730 = oS5 (3 : Int32) qa qb qc qd := by rw [← e_s730, q_s692]; rfl
    refine gaload B X723 at_177 rfl rfl (pc' := 179) rfl ?_
    refine giload B X723 at_179 rfl (pc' := 181) rfl ?_
    refine giload B X723 at_181 rfl (pc' := 183) rfl ?_
    refine gcallS B X723 (hw _ (List.mem_of_getElem? (i := 29) rfl)) (hw _ (List.mem_of_getElem? (i := 30) rfl)) (hw _ (List.mem_of_getElem? (i := 31) rfl)) (hw _ (List.mem_of_getElem? (i := 32) rfl)) (by decide) (mt5 l Z a0 hw a605 ((oP3 qa qb qc).2 - (1 : Int32)) qd (oY4 qa qb qc) h721 F726 (by rfl) hA.1.2.2.2.2.2.1) pd___III_I rfl (argsL := [(.ref a605), (.int ((oP3 qa qb qc).2 - (1 : Int32))), (.int qd)]) (st := []) rfl rfl (W := 0) (Nat.le_of_eq rfl) (by decide) (by decide) (by decide) (by decide) (allS (Or.inr z_a605) all0) at_183 (pc' := 186) rfl fun T731 h732 v733 X734 K735 Q736 => ?_
    have F737 := O727.keep K735 (ninS n610 nin0)
    have F738 := A728.keep K735 (ninS n611 nin0)
    have F739 := A729.keep K735 (ninS n612 nin0)
    obtain ⟨rfl, A740⟩ := Q736
    show Go p e below s _ _ _ _ _ T731 (mkF m 186 #[.val (.int p0), .val (.int p1), .val (.int p2), .val (.int p3), .val (.int p4), .val (.int (3 : Int32)), .val (.int qa), .val (.int qb), .val (.int qc), .val (.int qd), .val (.ref a580), .val (.ref a605), .val (.int ((oP3 qa qb qc).2 - (1 : Int32))), .val (.int (oVal s670)), .val (.int (1 : Int32)), .unset] [(.int (oPut (oY4 qa qb qc) ((oP3 qa qb qc).2 - (1 : Int32)) qd).2)])
    have A741 : VA Z h732 a605 .int ((oP5 qa qb qc qd).1.map Value.int) := A740
    show Go p e below s _ _ _ _ _ T731 (mkF m 186 #[.val (.int p0), .val (.int p1), .val (.int p2), .val (.int p3), .val (.int p4), .val (.int (3 : Int32)), .val (.int qa), .val (.int qb), .val (.int qc), .val (.int qd), .val (.ref a580), .val (.ref a605), .val (.int ((oP3 qa qb qc).2 - (1 : Int32))), .val (.int (oVal s670)), .val (.int (1 : Int32)), .unset] [(.int (oP5 qa qb qc qd).2)])
    refine gistore B X734 at_186 (Ls' := #[.val (.int p0), .val (.int p1), .val (.int p2), .val (.int p3), .val (.int p4), .val (.int (3 : Int32)), .val (.int qa), .val (.int qb), .val (.int qc), .val (.int qd), .val (.ref a580), .val (.ref a605), .val (.int (oP5 qa qb qc qd).2), .val (.int (oVal s670)), .val (.int (1 : Int32)), .unset]) rfl (pc' := 188) rfl ?_
    refine giload B X734 at_188 rfl (pc' := 190) rfl ?_
    have c190_742 : (0 : Int32) < (oP5 qa qb qc qd).2 := hA.2.2.1
    refine gifN B X734 at_190 ((if0 _ _).trans (tlt c190_742).2.2.2) (pc' := 193) rfl ?_
    refine gaload B X734 at_193 rfl rfl (pc' := 195) rfl ?_
    refine gcallV B X734 F737.1 (hw _ (List.mem_of_getElem? (i := 33) rfl)) (hw _ (List.mem_of_getElem? (i := 34) rfl)) (hw _ (List.mem_of_getElem? (i := 36) rfl)) (hw _ (List.mem_of_getElem? (i := 35) rfl)) (hw _ (List.mem_of_getElem? (i := 3) rfl)) (hw _ (List.mem_of_getElem? (i := 37) rfl)) rfl (by decide) (mt6 l Z a0 hw a580 r593 t594 (3 : Int32) s730 h732 F737 F738 F739 n601 n602 n597 ok_s730) pd___I rfl (argsL := []) (st := []) rfl rfl (W := 0) (Nat.le_of_eq rfl) (by decide) (by decide) (by decide) (by decide) (allS (Or.inr z_a580) (allS (Or.inr z_r593) (allS (Or.inr z_t594) all0))) at_195 (pc' := 198) rfl fun T743 h744 v745 X746 K747 Q748 => ?_
    have F749 := A741.keep K747 (ninS (Ne.symm n610) (ninS (Ne.symm n611) (ninS (Ne.symm n612) nin0)))
    obtain ⟨rfl, O750, A751, A752⟩ := Q748
    generalize e_s753 : oPoll (3 : Int32) s730 = s753 at O750 A751 A752
    have ok_s753 := ok_s730.poll; rw [e_s753] at ok_s753
    show Go p e below s _ _ _ _ _ T743 (mkF m 198 #[.val (.int p0), .val (.int p1), .val (.int p2), .val (.int p3), .val (.int p4), .val (.int (3 : Int32)), .val (.int qa), .val (.int qb), .val (.int qc), .val (.int qd), .val (.ref a580), .val (.ref a605), .val (.int (oP5 qa qb qc qd).2), .val (.int (oVal s670)), .val (.int (1 : Int32)), .unset] [(.int (oVal s730))])
    have q_s753 : s753 = oS6 (3 : Int32) qa qb qc qd := by rw [← e_s753, q_s730]; rfl
    refine gistore B X746 at_198 (Ls' := #[.val (.int p0), .val (.int p1), .val (.int p2), .val (.int p3), .val (.int p4), .val (.int (3 : Int32)), .val (.int qa), .val (.int qb), .val (.int qc), .val (.int qd), .val (.ref a580), .val (.ref a605), .val (.int (oP5 qa qb qc qd).2), .val (.int (oVal s670)), .val (.int (1 : Int32)), .val (.int (oVal s730))]) rfl (pc' := 200) rfl ?_
    refine giload B X746 at_200 rfl (pc' := 202) rfl ?_
    have c202_754 : ¬ ((1 : Int32) = (0 : Int32)) := (by decide)
    refine gifN B X746 at_202 ((if0 _ _).trans (feq c202_754).1) (pc' := 205) rfl ?_
    refine giload B X746 at_205 rfl (pc' := 207) rfl ?_
    refine gaload B X746 at_207 rfl rfl (pc' := 209) rfl ?_
    refine giconst B X746 at_209 (v := (0 : Int32)) rfl (pc' := 210) rfl ?_
    refine giaload B X746 F749 (n := 4) (by rw [List.length_map]; exact hA.1.2.2.2.2.2.2) (by decide) (v := (.int ((oP5 qa qb qc qd).1.getD 0 0))) (own_at (by rw [hA.1.2.2.2.2.2.2]; decide)) at_210 (pc' := 211) rfl ?_
    have c211_755 : (oVal s730) = ((oP5 qa qb qc qd).1.getD 0 0) := by rw [q_s730]; exact hA.2.2.2.1
    refine gicN B X746 at_211 (teq c211_755).2 (pc' := 214) rfl ?_
    refine giconst B X746 at_214 (v := (1 : Int32)) rfl (pc' := 215) rfl ?_
    refine ggoto B X746 (pc' := 219) at_215 (by decide) ?_
    refine gistore B X746 at_219 (Ls' := #[.val (.int p0), .val (.int p1), .val (.int p2), .val (.int p3), .val (.int p4), .val (.int (3 : Int32)), .val (.int qa), .val (.int qb), .val (.int qc), .val (.int qd), .val (.ref a580), .val (.ref a605), .val (.int (oP5 qa qb qc qd).2), .val (.int (oVal s670)), .val (.int (1 : Int32)), .val (.int (oVal s730))]) rfl (pc' := 221) rfl ?_
    refine giload B X746 at_221 rfl (pc' := 223) rfl ?_
    refine giconst B X746 at_223 (v := (1 : Int32)) rfl (pc' := 224) rfl ?_
    by_cases c224_756 : (1 : Int32) < (oP5 qa qb qc qd).2
    · refine gicN B X746 at_224 (tlt c224_756).2.2.2 (pc' := 227) rfl ?_
      refine gaload B X746 at_227 rfl rfl (pc' := 229) rfl ?_
      refine gcallV B X746 O750.1 (hw _ (List.mem_of_getElem? (i := 33) rfl)) (hw _ (List.mem_of_getElem? (i := 34) rfl)) (hw _ (List.mem_of_getElem? (i := 36) rfl)) (hw _ (List.mem_of_getElem? (i := 35) rfl)) (hw _ (List.mem_of_getElem? (i := 3) rfl)) (hw _ (List.mem_of_getElem? (i := 37) rfl)) rfl (by decide) (mt6 l Z a0 hw a580 r593 t594 (3 : Int32) s753 h744 O750 A751 A752 n601 n602 n597 ok_s753) pd___I rfl (argsL := []) (st := []) rfl rfl (W := 0) (Nat.le_of_eq rfl) (by decide) (by decide) (by decide) (by decide) (allS (Or.inr z_a580) (allS (Or.inr z_r593) (allS (Or.inr z_t594) all0))) at_229 (pc' := 232) rfl fun T757 h758 v759 X760 K761 Q762 => ?_
      have F763 := F749.keep K761 (ninS (Ne.symm n610) (ninS (Ne.symm n611) (ninS (Ne.symm n612) nin0)))
      obtain ⟨rfl, O764, A765, A766⟩ := Q762
      generalize e_s767 : oPoll (3 : Int32) s753 = s767 at O764 A765 A766
      have ok_s767 := ok_s753.poll; rw [e_s767] at ok_s767
      show Go p e below s _ _ _ _ _ T757 (mkF m 232 #[.val (.int p0), .val (.int p1), .val (.int p2), .val (.int p3), .val (.int p4), .val (.int (3 : Int32)), .val (.int qa), .val (.int qb), .val (.int qc), .val (.int qd), .val (.ref a580), .val (.ref a605), .val (.int (oP5 qa qb qc qd).2), .val (.int (oVal s670)), .val (.int (1 : Int32)), .val (.int (oVal s730))] [(.int (oVal s753))])
      have q_s767 : s767 = oS7 (3 : Int32) qa qb qc qd := by rw [← e_s767, q_s753]; rfl
      refine gistore B X760 at_232 (Ls' := #[.val (.int p0), .val (.int p1), .val (.int p2), .val (.int p3), .val (.int p4), .val (.int (3 : Int32)), .val (.int qa), .val (.int qb), .val (.int qc), .val (.int qd), .val (.ref a580), .val (.ref a605), .val (.int (oP5 qa qb qc qd).2), .val (.int (oVal s670)), .val (.int (1 : Int32)), .val (.int (oVal s753))]) rfl (pc' := 234) rfl ?_
      refine giload B X760 at_234 rfl (pc' := 236) rfl ?_
      have c236_768 : ¬ ((1 : Int32) = (0 : Int32)) := (by decide)
      refine gifN B X760 at_236 ((if0 _ _).trans (feq c236_768).1) (pc' := 239) rfl ?_
      refine giload B X760 at_239 rfl (pc' := 241) rfl ?_
      refine gaload B X760 at_241 rfl rfl (pc' := 243) rfl ?_
      refine giconst B X760 at_243 (v := (1 : Int32)) rfl (pc' := 244) rfl ?_
      refine giaload B X760 F763 (n := 4) (by rw [List.length_map]; exact hA.1.2.2.2.2.2.2) (by decide) (v := (.int ((oP5 qa qb qc qd).1.getD 1 0))) (own_at (by rw [hA.1.2.2.2.2.2.2]; decide)) at_244 (pc' := 245) rfl ?_
      have c245_769 : (oVal s753) = ((oP5 qa qb qc qd).1.getD 1 0) := by rw [q_s753]; exact hA.2.2.2.2.1.1 c224_756
      refine gicN B X760 at_245 (teq c245_769).2 (pc' := 248) rfl ?_
      refine giconst B X760 at_248 (v := (1 : Int32)) rfl (pc' := 249) rfl ?_
      refine ggoto B X760 (pc' := 253) at_249 (by decide) ?_
      refine gistore B X760 at_253 (Ls' := #[.val (.int p0), .val (.int p1), .val (.int p2), .val (.int p3), .val (.int p4), .val (.int (3 : Int32)), .val (.int qa), .val (.int qb), .val (.int qc), .val (.int qd), .val (.ref a580), .val (.ref a605), .val (.int (oP5 qa qb qc qd).2), .val (.int (oVal s670)), .val (.int (1 : Int32)), .val (.int (oVal s753))]) rfl (pc' := 255) rfl ?_
      refine giload B X760 at_255 rfl (pc' := 257) rfl ?_
      refine giconst B X760 at_257 (v := (2 : Int32)) rfl (pc' := 258) rfl ?_
      by_cases c258_770 : (2 : Int32) < (oP5 qa qb qc qd).2
      · refine gicN B X760 at_258 (tlt c258_770).2.2.2 (pc' := 261) rfl ?_
        refine gaload B X760 at_261 rfl rfl (pc' := 263) rfl ?_
        refine gcallV B X760 O764.1 (hw _ (List.mem_of_getElem? (i := 33) rfl)) (hw _ (List.mem_of_getElem? (i := 34) rfl)) (hw _ (List.mem_of_getElem? (i := 36) rfl)) (hw _ (List.mem_of_getElem? (i := 35) rfl)) (hw _ (List.mem_of_getElem? (i := 3) rfl)) (hw _ (List.mem_of_getElem? (i := 37) rfl)) rfl (by decide) (mt6 l Z a0 hw a580 r593 t594 (3 : Int32) s767 h758 O764 A765 A766 n601 n602 n597 ok_s767) pd___I rfl (argsL := []) (st := []) rfl rfl (W := 0) (Nat.le_of_eq rfl) (by decide) (by decide) (by decide) (by decide) (allS (Or.inr z_a580) (allS (Or.inr z_r593) (allS (Or.inr z_t594) all0))) at_263 (pc' := 266) rfl fun T771 h772 v773 X774 K775 Q776 => ?_
        have F777 := F763.keep K775 (ninS (Ne.symm n610) (ninS (Ne.symm n611) (ninS (Ne.symm n612) nin0)))
        obtain ⟨rfl, O778, A779, A780⟩ := Q776
        generalize e_s781 : oPoll (3 : Int32) s767 = s781 at O778 A779 A780
        have ok_s781 := ok_s767.poll; rw [e_s781] at ok_s781
        show Go p e below s _ _ _ _ _ T771 (mkF m 266 #[.val (.int p0), .val (.int p1), .val (.int p2), .val (.int p3), .val (.int p4), .val (.int (3 : Int32)), .val (.int qa), .val (.int qb), .val (.int qc), .val (.int qd), .val (.ref a580), .val (.ref a605), .val (.int (oP5 qa qb qc qd).2), .val (.int (oVal s670)), .val (.int (1 : Int32)), .val (.int (oVal s753))] [(.int (oVal s767))])
        have q_s781 : s781 = oS8 (3 : Int32) qa qb qc qd := by rw [← e_s781, q_s767]; rfl
        refine gistore B X774 at_266 (Ls' := #[.val (.int p0), .val (.int p1), .val (.int p2), .val (.int p3), .val (.int p4), .val (.int (3 : Int32)), .val (.int qa), .val (.int qb), .val (.int qc), .val (.int qd), .val (.ref a580), .val (.ref a605), .val (.int (oP5 qa qb qc qd).2), .val (.int (oVal s670)), .val (.int (1 : Int32)), .val (.int (oVal s767))]) rfl (pc' := 268) rfl ?_
        refine giload B X774 at_268 rfl (pc' := 270) rfl ?_
        have c270_782 : ¬ ((1 : Int32) = (0 : Int32)) := (by decide)
        refine gifN B X774 at_270 ((if0 _ _).trans (feq c270_782).1) (pc' := 273) rfl ?_
        refine giload B X774 at_273 rfl (pc' := 275) rfl ?_
        refine gaload B X774 at_275 rfl rfl (pc' := 277) rfl ?_
        refine giconst B X774 at_277 (v := (2 : Int32)) rfl (pc' := 278) rfl ?_
        refine giaload B X774 F777 (n := 4) (by rw [List.length_map]; exact hA.1.2.2.2.2.2.2) (by decide) (v := (.int ((oP5 qa qb qc qd).1.getD 2 0))) (own_at (by rw [hA.1.2.2.2.2.2.2]; decide)) at_278 (pc' := 279) rfl ?_
        have c279_783 : (oVal s767) = ((oP5 qa qb qc qd).1.getD 2 0) := by rw [q_s767]; exact hA.2.2.2.2.1.2 c258_770
        refine gicN B X774 at_279 (teq c279_783).2 (pc' := 282) rfl ?_
        refine giconst B X774 at_282 (v := (1 : Int32)) rfl (pc' := 283) rfl ?_
        refine ggoto B X774 (pc' := 287) at_283 (by decide) ?_
        refine gistore B X774 at_287 (Ls' := #[.val (.int p0), .val (.int p1), .val (.int p2), .val (.int p3), .val (.int p4), .val (.int (3 : Int32)), .val (.int qa), .val (.int qb), .val (.int qc), .val (.int qd), .val (.ref a580), .val (.ref a605), .val (.int (oP5 qa qb qc qd).2), .val (.int (oVal s670)), .val (.int (1 : Int32)), .val (.int (oVal s767))]) rfl (pc' := 289) rfl ?_
        refine giload B X774 at_289 rfl (pc' := 291) rfl ?_
        have c291_784 : ¬ ((1 : Int32) = (0 : Int32)) := (by decide)
        refine gifN B X774 at_291 ((if0 _ _).trans (feq c291_784).1) (pc' := 294) rfl ?_
        refine gaload B X774 at_294 rfl rfl (pc' := 296) rfl ?_
        refine gcallV B X774 O778.1 (hw _ (List.mem_of_getElem? (i := 40) rfl)) (hw _ (List.mem_of_getElem? (i := 41) rfl)) (hw _ (List.mem_of_getElem? (i := 43) rfl)) (hw _ (List.mem_of_getElem? (i := 42) rfl)) (hw _ (List.mem_of_getElem? (i := 3) rfl)) (hw _ (List.mem_of_getElem? (i := 44) rfl)) rfl (by decide) (mtemp l Z a0 hw a580 (.ref r593) (.ref t594) (.int s781.2.2.1) (.int s781.2.2.2.1) s781.2.2.2.2 h772 O778) pd___Z rfl (argsL := []) (st := []) rfl rfl (W := 0) (Nat.le_of_eq rfl) (by decide) (by decide) (by decide) (by decide) (fun x q => nomatch q) at_296 (pc' := 299) rfl (pureG rfl rfl fun T785 X786 => ?_)
        have c299_787 : ¬ ((oemp s781.2.2.2.2) = (0 : Int32)) := by rw [q_s781, hA.2.2.2.2.2.2.2 c258_770]; decide
        refine gifN B X786 at_299 ((if0 _ _).trans (feq c299_787).1) (pc' := 302) rfl ?_
        refine giconst B X786 at_302 (v := (1 : Int32)) rfl (pc' := 303) rfl ?_
        refine ggoto B X786 (pc' := 307) at_303 (by decide) ?_
        exact gretN B X786 (z' := (1 : Int32)) (by simp) (rfl) at_307 (by decide) (by decide) (rfl)
      · refine gicY B X760 (pc' := 289) at_258 (flt c258_770).2.2.2 (by decide) ?_
        refine giload B X760 at_289 rfl (pc' := 291) rfl ?_
        have c291_788 : ¬ ((1 : Int32) = (0 : Int32)) := (by decide)
        refine gifN B X760 at_291 ((if0 _ _).trans (feq c291_788).1) (pc' := 294) rfl ?_
        refine gaload B X760 at_294 rfl rfl (pc' := 296) rfl ?_
        refine gcallV B X760 O764.1 (hw _ (List.mem_of_getElem? (i := 40) rfl)) (hw _ (List.mem_of_getElem? (i := 41) rfl)) (hw _ (List.mem_of_getElem? (i := 43) rfl)) (hw _ (List.mem_of_getElem? (i := 42) rfl)) (hw _ (List.mem_of_getElem? (i := 3) rfl)) (hw _ (List.mem_of_getElem? (i := 44) rfl)) rfl (by decide) (mtemp l Z a0 hw a580 (.ref r593) (.ref t594) (.int s767.2.2.1) (.int s767.2.2.2.1) s767.2.2.2.2 h758 O764) pd___Z rfl (argsL := []) (st := []) rfl rfl (W := 0) (Nat.le_of_eq rfl) (by decide) (by decide) (by decide) (by decide) (fun x q => nomatch q) at_296 (pc' := 299) rfl (pureG rfl rfl fun T789 X790 => ?_)
        have c299_791 : ¬ ((oemp s767.2.2.2.2) = (0 : Int32)) := by rw [q_s767, hA.2.2.2.2.2.2.1 c224_756 c258_770]; decide
        refine gifN B X790 at_299 ((if0 _ _).trans (feq c299_791).1) (pc' := 302) rfl ?_
        refine giconst B X790 at_302 (v := (1 : Int32)) rfl (pc' := 303) rfl ?_
        refine ggoto B X790 (pc' := 307) at_303 (by decide) ?_
        exact gretN B X790 (z' := (1 : Int32)) (by simp) (rfl) at_307 (by decide) (by decide) (rfl)
    · refine gicY B X746 (pc' := 255) at_224 (flt c224_756).2.2.2 (by decide) ?_
      refine giload B X746 at_255 rfl (pc' := 257) rfl ?_
      refine giconst B X746 at_257 (v := (2 : Int32)) rfl (pc' := 258) rfl ?_
      have c258_792 : ¬ ((2 : Int32) < (oP5 qa qb qc qd).2) := (hA.2.2.2.2.2.1 c224_756).1
      refine gicY B X746 (pc' := 289) at_258 (flt c258_792).2.2.2 (by decide) ?_
      refine giload B X746 at_289 rfl (pc' := 291) rfl ?_
      have c291_793 : ¬ ((1 : Int32) = (0 : Int32)) := (by decide)
      refine gifN B X746 at_291 ((if0 _ _).trans (feq c291_793).1) (pc' := 294) rfl ?_
      refine gaload B X746 at_294 rfl rfl (pc' := 296) rfl ?_
      refine gcallV B X746 O750.1 (hw _ (List.mem_of_getElem? (i := 40) rfl)) (hw _ (List.mem_of_getElem? (i := 41) rfl)) (hw _ (List.mem_of_getElem? (i := 43) rfl)) (hw _ (List.mem_of_getElem? (i := 42) rfl)) (hw _ (List.mem_of_getElem? (i := 3) rfl)) (hw _ (List.mem_of_getElem? (i := 44) rfl)) rfl (by decide) (mtemp l Z a0 hw a580 (.ref r593) (.ref t594) (.int s753.2.2.1) (.int s753.2.2.2.1) s753.2.2.2.2 h744 O750) pd___Z rfl (argsL := []) (st := []) rfl rfl (W := 0) (Nat.le_of_eq rfl) (by decide) (by decide) (by decide) (by decide) (fun x q => nomatch q) at_296 (pc' := 299) rfl (pureG rfl rfl fun T794 X795 => ?_)
      have c299_796 : ¬ ((oemp s753.2.2.2.2) = (0 : Int32)) := by rw [q_s753, (hA.2.2.2.2.2.1 c224_756).2]; decide
      refine gifN B X795 at_299 ((if0 _ _).trans (feq c299_796).1) (pc' := 302) rfl ?_
      refine giconst B X795 at_302 (v := (1 : Int32)) rfl (pc' := 303) rfl ?_
      refine ggoto B X795 (pc' := 307) at_303 (by decide) ?_
      exact gretN B X795 (z' := (1 : Int32)) (by simp) (rfl) at_307 (by decide) (by decide) (rfl)
set_option maxRecDepth 65536 in
set_option maxHeartbeats 4000000 in
theorem comes_1 {Post : Tables → Env → Array Value → State → Outcome → State → Prop} (hpost : ∀ tb e args s v u, (limb_1_1.after args s (.returned v) u = true ∧ limb_1_2.after args s (.returned v) u = true ∧ True) → FrameEnd s (.returned v) u (Jvm.fieldLocs frame_1_writes args s ++ Jvm.arrayLocs frame_1_arrays args s ++ Jvm.staticLocs frame_1_statics s) 16 128 → Post tb e args s (.returned v) u) :
    ArmFor flags0 classFile x code maxLocals ret World_1 tables_1 room_1 Calls_1 rest_1 Pre_1 Post := by
  intro l hfl _ _ p e ha hc hk s m args below hf hA hF happ hP
  obtain ⟨hcalls, hrest, hpre⟩ := hP
  obtain ⟨-, -, -, hnamed, -, -, -, hat⟩ := (Spec.applies_iff hf).mp happ
  obtain ⟨hg, hn⟩ := and_e (Cond.before_iff.mp (show (Jvm.Cond.and given_1 narrow_1).before args s = true from hpre))
  obtain ⟨g2, g3⟩ := and_e hg
  obtain ⟨g4, g5⟩ := and_e g3
  obtain ⟨g6, g7⟩ := and_e g5
  obtain ⟨g8, g9⟩ := and_e g7
  obtain ⟨g10, g11⟩ := and_e g9
  obtain ⟨w0, w1, w2, w3, w4, rfl⟩ : ∃ w0 w1 w2 w3 w4 : Value, args = #[w0, w1, w2, w3, w4] := by
    have hs : args.size = 5 := by simpa [Cond.value, given_1] using g2
    obtain ⟨L⟩ := args
    match L, hs with
    | [w0, w1, w2, w3, w4], _ => exact ⟨w0, w1, w2, w3, w4, rfl⟩
  have hw := fun d (hd : d ∈ tables_1) => atoms_spec (ws := Jvm.Cond.code x code maxLocals ret :: tables_1) hat d (List.mem_cons_of_mem _ hd)
  obtain ⟨i0, ei0⟩ := is_v g4
  obtain rfl : w0 = (.int i0) := Option.some.inj ei0
  obtain ⟨i1, ei1⟩ := is_v g6
  obtain rfl : w1 = (.int i1) := Option.some.inj ei1
  obtain ⟨i2, ei2⟩ := is_v g8
  obtain rfl : w2 = (.int i2) := Option.some.inj ei2
  obtain ⟨i3, ei3⟩ := is_v g10
  obtain rfl : w3 = (.int i3) := Option.some.inj ei3
  obtain ⟨i4, ei4⟩ := is_v g11
  obtain rfl : w4 = (.int i4) := Option.some.inj ei4
  obtain ⟨n, o, h1, h2, h3, _, L, rfl, ⟨rfl, N, N2⟩, hq⟩ := mt0 l s _ hw i0 i1 i2 i3 i4 s.heap tables_1 p e ha hc hk s m _ below hf ((Spec.applies_iff_loose hf).mp happ).1 ⟨rfl, State.Warmed39.refl s, rfl⟩ trivial
  refine ⟨n, _, h1, h2, h3, hpost _ _ _ _ _ _ ⟨Cond.after_iff.mpr rfl, Cond.after_iff.mpr (eq_i res_at (Term.int_eval (1)) rfl), trivial⟩ ⟨hq.1, hq.2.1, (hq.2.2.sift fun y hy => Or.inr ((N2 y hy).elim (fun z => nomatch z) id)).mono (by decide) (by decide)⟩⟩
theorem main_1_1 : Claimed_1_1 := comes_1 fun _ _ _ _ _ _ h hF => ⟨h.1, hF⟩
theorem main_1_2 : Claimed_1_2 := comes_1 fun _ _ _ _ _ _ h hF => ⟨h.2.1, hF⟩
end Jvm.Pilot.@@N@@
namespace Jvm.Pilot.@@N@@
open Jvm Jvm.ClassFile Sem Op Lib Jvm.Free Jvm.Stand Jvm.Pilot.@@N@@.Jvm.D
/-! MADE BY PROGRAM (witnessworld.py) out of the Statement's table words and the real class files: 11 classes; the members and pool entries that the words name. The judged class is class 1, her method 2. -/
namespace start1
open Jvm.ClassFile
def u (s : String) : CpInfo := .utf8 (stringToUtf16 s)
/-- a pool by its gaps: so many unusable entries, then the entry; so many at the end -/
def gap : Nat → List CpInfo → List CpInfo
  | 0, r => r
  | n + 1, r => .unusable :: gap n r
def poolList (es : List (Nat × CpInfo)) (last : Nat) : List CpInfo := es.foldr (fun e r => gap e.1 (e.2 :: r)) (gap last [])
def pool (es : List (Nat × CpInfo)) (last : Nat) : Array CpInfo := ⟨poolList es last⟩
def fileOf (pool : Array CpInfo) (this : Nat) (attrs : Array Attribute := #[]) (ms : Array MethodInfo := #[]) (fl : Nat := 33) (sup : Nat := 0) (ifs : Array Nat := #[]) (fds : Array FieldInfo := #[]) : ClassFile where
  minorVersion := 0
  majorVersion := 65
  constantPool := pool
  accessFlags := fl
  thisClass := this
  superClass := sup
  interfaces := ifs
  fields := fds
  methods := ms
  attributes := attrs
def plain (name : String) (sup : Option ClassId) : Class where
  name := name
  kind := .ordinary
  loader := none
  accessFlags := 33
  super := sup
  interfaces := #[]
  cf := none
  fields := #[]
  methods := #[]
  instanceTypes := #[]
  staticTypes := #[]
  resolved := #[]
  callSites := []
  init := .initialized
  statics := none
  mirror := none

def pool0 : Array CpInfo := pool [(5, u "<init>"), (0, u "()V"), (1, .class_ 10), (1, u "java/lang/Object")] 113

def k0c0 : Code := { maxStack := 0, maxLocals := 1, code := object_method_1_code, exceptionTable := #[], attributes := #[] }
def k0m0 : Method := { name := "<init>", desc := "()V", sig := { parameters := [], returnType := none }, accessFlags := 1, code := some k0c0 }
/-- java/lang/Object -/
def k0 : Class := { plain "java/lang/Object" none with
  accessFlags := 33
  interfaces := #[]
  cf := some (fileOf pool0 8 #[] #[{ accessFlags := 1, nameIndex := 5, descriptorIndex := 6, attributes := #[] }] 33 0 #[] #[])
  fields := #[]
  methods := #[k0m0]
  instanceTypes := #[]
  staticTypes := #[]
  resolved := Array.replicate 124 none
  statics := none }

def pool1 : Array CpInfo := pool [(2, .class_ 4), (1, u "java/lang/Object"), (0, u "<init>"), (0, u "()V"), (0, .integer 2147483647), (0, .class_ 9), (0, u "com/example/glouton/glouton/consistency/DistinctQueue"), (0, .methodref 8 11), (0, .nameAndType 5 12), (0, u "(I)V"), (0, .methodref 8 14), (0, .nameAndType 15 12), (0, u "add"), (0, .methodref 17 18), (0, .class_ 19), (0, .nameAndType 20 21), (0, u "com/example/glouton/glouton/consistency/DistinctQueueAddPinLaw"), (0, u "put"), (0, u "([III)I"), (0, .methodref 8 23), (0, .nameAndType 24 25), (0, u "poll"), (0, u "()I"), (0, .methodref 8 27), (0, .nameAndType 28 29), (0, u "isEmpty"), (0, u "()Z"), (3, u "law"), (0, u "(IIIII)Z")] 4

def k1m0 : Method := { name := "<init>", desc := "()V", sig := { parameters := [], returnType := none }, accessFlags := 1, code := none }
def k1c1 : Code := { maxStack := 3, maxLocals := 4, code := method_2_code, exceptionTable := #[], attributes := #[] }
def k1m1 : Method := { name := "put", desc := "([III)I", sig := { parameters := [(.array .int), .int, .int], returnType := some .int }, accessFlags := 10, code := some k1c1 }
def k1c2 : Code := { maxStack := 4, maxLocals := 16, code := code, exceptionTable := #[], attributes := #[] }
def k1m2 : Method := { name := "law", desc := "(IIIII)Z", sig := { parameters := [.int, .int, .int, .int, .int], returnType := some .boolean }, accessFlags := 9, code := some k1c2 }
/-- com/example/glouton/glouton/consistency/DistinctQueueAddPinLaw -/
def k1 : Class := { plain "com/example/glouton/glouton/consistency/DistinctQueueAddPinLaw" (some 0) with
  accessFlags := 49
  interfaces := #[]
  cf := some (fileOf pool1 17 #[] #[{ accessFlags := 1, nameIndex := 5, descriptorIndex := 6, attributes := #[] }, { accessFlags := 10, nameIndex := 20, descriptorIndex := 21, attributes := #[] }, { accessFlags := 9, nameIndex := 33, descriptorIndex := 34, attributes := #[] }] 49 2 #[] #[])
  fields := #[]
  methods := #[k1m0, k1m1, k1m2]
  instanceTypes := #[]
  staticTypes := #[]
  resolved := Array.replicate 39 none
  statics := none }

def pool2 : Array CpInfo := pool [(1, .methodref 2 3), (0, .class_ 4), (0, .nameAndType 5 6), (0, u "java/lang/Object"), (0, u "<init>"), (0, u "()V"), (0, .fieldref 8 9), (0, .class_ 10), (0, .nameAndType 11 12), (0, u "com/example/glouton/glouton/consistency/DistinctQueue"), (0, u "ring"), (0, u "[I"), (0, .fieldref 8 14), (0, .nameAndType 15 16), (0, u "held"), (0, u "[Z"), (0, .fieldref 8 18), (0, .nameAndType 19 20), (0, u "tail"), (0, u "I"), (0, .methodref 8 22), (0, .nameAndType 23 24), (0, u "following"), (0, u "(I)I"), (0, .fieldref 8 26), (0, .nameAndType 27 20), (0, u "size"), (0, .fieldref 8 29), (0, .nameAndType 30 20), (0, u "head"), (2, u "poll"), (0, u "()I"), (0, u "(I)V"), (2, u "add"), (1, u "isEmpty"), (0, u "()Z")] 3

def k2c0 : Code := { maxStack := 2, maxLocals := 2, code := prog_6_method_1_code, exceptionTable := #[], attributes := #[] }
def k2m0 : Method := { name := "<init>", desc := "(I)V", sig := { parameters := [.int], returnType := none }, accessFlags := 0, code := some k2c0 }
def k2c1 : Code := { maxStack := 3, maxLocals := 2, code := prog_6_method_2_code, exceptionTable := #[], attributes := #[] }
def k2m1 : Method := { name := "add", desc := "(I)V", sig := { parameters := [.int], returnType := none }, accessFlags := 0, code := some k2c1 }
def k2c2 : Code := { maxStack := 3, maxLocals := 2, code := prog_6_method_3_code, exceptionTable := #[], attributes := #[] }
def k2m2 : Method := { name := "poll", desc := "()I", sig := { parameters := [], returnType := some .int }, accessFlags := 0, code := some k2c2 }
def k2c3 : Code := { maxStack := 1, maxLocals := 1, code := prog_6_method_4_code, exceptionTable := #[], attributes := #[] }
def k2m3 : Method := { name := "isEmpty", desc := "()Z", sig := { parameters := [], returnType := some .boolean }, accessFlags := 0, code := some k2c3 }
def k2c4 : Code := { maxStack := 2, maxLocals := 2, code := prog_6_method_6_code, exceptionTable := #[], attributes := #[] }
def k2m4 : Method := { name := "following", desc := "(I)I", sig := { parameters := [.int], returnType := some .int }, accessFlags := 2, code := some k2c4 }
/-- com/example/glouton/glouton/consistency/DistinctQueue -/
def k2 : Class := { plain "com/example/glouton/glouton/consistency/DistinctQueue" (some 0) with
  accessFlags := 48
  interfaces := #[]
  cf := some (fileOf pool2 8 #[] #[{ accessFlags := 0, nameIndex := 5, descriptorIndex := 35, attributes := #[] }, { accessFlags := 0, nameIndex := 38, descriptorIndex := 35, attributes := #[] }, { accessFlags := 0, nameIndex := 33, descriptorIndex := 34, attributes := #[] }, { accessFlags := 0, nameIndex := 40, descriptorIndex := 41, attributes := #[] }, { accessFlags := 2, nameIndex := 23, descriptorIndex := 24, attributes := #[] }] 48 2 #[] #[{ accessFlags := 18, nameIndex := 11, descriptorIndex := 12, attributes := #[] }, { accessFlags := 18, nameIndex := 15, descriptorIndex := 16, attributes := #[] }, { accessFlags := 2, nameIndex := 30, descriptorIndex := 20, attributes := #[] }, { accessFlags := 2, nameIndex := 19, descriptorIndex := 20, attributes := #[] }, { accessFlags := 2, nameIndex := 27, descriptorIndex := 20, attributes := #[] }])
  fields := #[{ name := "ring", type := (.array .int), accessFlags := 18, slot := 0, constantValue := 0 }, { name := "held", type := (.array .boolean), accessFlags := 18, slot := 1, constantValue := 0 }, { name := "head", type := .int, accessFlags := 2, slot := 2, constantValue := 0 }, { name := "tail", type := .int, accessFlags := 2, slot := 3, constantValue := 0 }, { name := "size", type := .int, accessFlags := 2, slot := 4, constantValue := 0 }]
  methods := #[k2m0, k2m1, k2m2, k2m3, k2m4]
  instanceTypes := #[(.array .int), (.array .boolean), .int, .int, .int]
  staticTypes := #[]
  resolved := Array.replicate 45 none
  statics := none }

def pool3 : Array CpInfo := pool [(1, u "java/lang/Cloneable"), (0, .class_ 1), (0, u "java/lang/Object"), (0, .class_ 3)] 3

/-- java/lang/Cloneable -/
def k3 : Class := { plain "java/lang/Cloneable" (some 0) with
  accessFlags := 1537
  interfaces := #[]
  cf := some (fileOf pool3 2 #[] #[] 1537 4 #[] #[])
  fields := #[]
  methods := #[]
  instanceTypes := #[]
  staticTypes := #[]
  resolved := Array.replicate 8 none
  statics := none }

def pool4 : Array CpInfo := pool [(1, u "java/io/Serializable"), (0, .class_ 1), (0, u "java/lang/Object"), (0, .class_ 3)] 3

/-- java/io/Serializable -/
def k4 : Class := { plain "java/io/Serializable" (some 0) with
  accessFlags := 1537
  interfaces := #[]
  cf := some (fileOf pool4 2 #[] #[] 1537 4 #[] #[])
  fields := #[]
  methods := #[]
  instanceTypes := #[]
  staticTypes := #[]
  resolved := Array.replicate 8 none
  statics := none }

/-- the primitive boolean -/
def k5 : Class := { plain "boolean" none with kind := .primitive 'Z', accessFlags := 0x411 }
/-- [Z -/
def k6 : Class := { plain "[Z" (some 0) with kind := .array 5 .boolean, interfaces := #[3, 4], accessFlags := 1041 }

/-- the primitive byte -/
def k7 : Class := { plain "byte" none with kind := .primitive 'B', accessFlags := 0x411 }
/-- [B -/
def k8 : Class := { plain "[B" (some 0) with kind := .array 7 .byte, interfaces := #[3, 4], accessFlags := 1041 }

/-- the primitive int -/
def k9 : Class := { plain "int" none with kind := .primitive 'I', accessFlags := 0x411 }
/-- [I -/
def k10 : Class := { plain "[I" (some 0) with kind := .array 9 .int, interfaces := #[3, 4], accessFlags := 1041 }

def heap : Heap := #[]
def classes : Array Class := #[k0, k1, k2, k3, k4, k5, k6, k7, k8, k9, k10]
def interned : List (Array UInt16 × Addr) := []
def slotsUsed : Nat := 0
def theMethod : MethodId := ⟨1, 2⟩
def args0 : Array Value := #[.int 5, .int 6, .int 7, .int 8, .int 2]
def aboutOver (below : List Frame) : State where
  vm := { classes := classes, interned := interned.toArray }
  heap := heap
  slotsUsed := slotsUsed
  threads := #[{ frames := .invoking theMethod args0 :: below }]
def below0 : List Frame := [.native { method := ⟨0, 0⟩, args := #[] }]
def about1 : State := aboutOver below0
def p0 : Program := .bare "" "" ""
def e0 : Env := launch0.env 0 0 0
theorem w_frames : about1.frames = Frame.invoking theMethod args0 :: below0 := rfl
set_option maxRecDepth 65536 in
theorem w_args : argsFit about1.vm theMethod args0 = true := by decide +kernel
set_option maxRecDepth 65536 in
theorem w_heap : heapFits about1 = true := by decide +kernel
set_option maxRecDepth 65536 in
theorem w_runnable : about1.curStatus? = some .runnable := by decide +kernel
set_option maxRecDepth 65536 in
theorem w_alone : about1.alone = true := by decide +kernel
set_option maxRecDepth 65536 in
theorem w_named : about1.methodNamed? x = some theMethod := by decide +kernel
set_option maxRecDepth 65536 in
theorem w_hears : about1.hears theMethod below0 = true := by decide +kernel
set_option maxRecDepth 65536 in
theorem w_ripe : about1.ripe theMethod args0 below0 = true := by decide +kernel
theorem w_running : about1.status = .running := rfl
set_option maxRecDepth 65536 in
theorem w_room : about1.hasRoom e0.platform room_1 = true :=
  launch0.hasRoom_least _ room_1 (by decide +kernel) (by decide +kernel) (by decide +kernel) (by decide +kernel) (by decide +kernel) (by decide +kernel)
theorem allAtoms_all (ts : List Jvm.Cond) (a : Array Jvm.Value) (st : Jvm.State) : (allAtoms ts).before a st = ts.all (fun c => c.before a st) := by
  induction ts with
  | nil => rfl
  | cons c t ih =>
    show (Jvm.Cond.and c (allAtoms t)).before a st = _
    rw [Jvm.Cond.before_and, ih, List.all_cons]
def words1 : List Jvm.Cond := Jvm.Cond.code x code maxLocals ret :: tables_1
/-- a 'code' word, met by the world's own term for the bytes: nothing is compared byte by byte -/
theorem code_word {y : MethodName} {bytes : ByteArray} {mx : Nat} {rt : Option FieldType} {a : Array Value} {s : State} {m : MethodId} {meth : Method} {c : Code} (h1 : s.methodNamed? y = some m) (h2 : s.vm.method? m = some meth) (h3 : meth.code = some c) (h4 : c.code = bytes)
    (h5 : (c.maxLocals == mx && c.exceptionTable.isEmpty && decide (c.maxStack ≤ mostOperands) && decide (meth.sig.returnType = rt) && !meth.locks && decide (parseMethodDescriptor y.desc = some meth.sig)) = true) : (Jvm.Cond.code y bytes mx rt).before a s = true := by
  simp only [Bool.and_eq_true, beq_iff_eq, Bool.not_eq_true', decide_eq_true_eq] at h5
  obtain ⟨⟨⟨⟨⟨g1, g2⟩, g3⟩, g4⟩, g5⟩, g6⟩ := h5
  simp [Cond.before, Cond.holds, Cond.value, h1, h2, h3, h4, g1, g2, g3, g4, g5, g6]
def isCode : Jvm.Cond → Bool
  | .code _ _ _ _ => true
  | _ => false
theorem all_split {L : List Jvm.Cond} {P : Jvm.Cond → Bool} (h1 : L.all (fun c => isCode c || P c) = true) (h2 : ∀ c ∈ L.filter isCode, P c = true) : L.all P = true := by
  refine List.all_eq_true.mpr fun c hc => ?_
  have h := List.all_eq_true.mp h1 c hc
  rcases Bool.eq_false_or_eq_true (isCode c) with hi | hi
  · exact h2 c (List.mem_filter.mpr ⟨hc, hi⟩)
  · simpa [hi] using h
set_option maxRecDepth 65536 in
theorem w_c0 : (Jvm.Cond.code x code maxLocals ret).before args0 about1 = true := code_word (m := ⟨1, 2⟩) (meth := k1m2) (c := k1c2) (by decide +kernel) rfl rfl rfl (by decide +kernel)
set_option maxRecDepth 65536 in
theorem w_c1 : (Jvm.Cond.code ({ cls := "com/example/glouton/glouton/consistency/DistinctQueue", name := "<init>", desc := "(I)V" } : Jvm.MethodName) prog_6_method_1_code (2 : Nat) (Option.none : Option Jvm.ClassFile.FieldType)).before args0 about1 = true := code_word (m := ⟨2, 0⟩) (meth := k2m0) (c := k2c0) (by decide +kernel) rfl rfl rfl (by decide +kernel)
set_option maxRecDepth 65536 in
theorem w_c2 : (Jvm.Cond.code ({ cls := "java/lang/Object", name := "<init>", desc := "()V" } : Jvm.MethodName) object_method_1_code (1 : Nat) (Option.none : Option Jvm.ClassFile.FieldType)).before args0 about1 = true := code_word (m := ⟨0, 0⟩) (meth := k0m0) (c := k0c0) (by decide +kernel) rfl rfl rfl (by decide +kernel)
set_option maxRecDepth 65536 in
theorem w_c3 : (Jvm.Cond.code ({ cls := "com/example/glouton/glouton/consistency/DistinctQueue", name := "add", desc := "(I)V" } : Jvm.MethodName) prog_6_method_2_code (2 : Nat) (Option.none : Option Jvm.ClassFile.FieldType)).before args0 about1 = true := code_word (m := ⟨2, 1⟩) (meth := k2m1) (c := k2c1) (by decide +kernel) rfl rfl rfl (by decide +kernel)
set_option maxRecDepth 65536 in
theorem w_c4 : (Jvm.Cond.code ({ cls := "com/example/glouton/glouton/consistency/DistinctQueue", name := "following", desc := "(I)I" } : Jvm.MethodName) prog_6_method_6_code (2 : Nat) (Option.some Jvm.ClassFile.FieldType.int)).before args0 about1 = true := code_word (m := ⟨2, 4⟩) (meth := k2m4) (c := k2c4) (by decide +kernel) rfl rfl rfl (by decide +kernel)
set_option maxRecDepth 65536 in
theorem w_c5 : (Jvm.Cond.code ({ cls := "com/example/glouton/glouton/consistency/DistinctQueueAddPinLaw", name := "put", desc := "([III)I" } : Jvm.MethodName) method_2_code (4 : Nat) (Option.some Jvm.ClassFile.FieldType.int)).before args0 about1 = true := code_word (m := ⟨1, 1⟩) (meth := k1m1) (c := k1c1) (by decide +kernel) rfl rfl rfl (by decide +kernel)
set_option maxRecDepth 65536 in
theorem w_c6 : (Jvm.Cond.code ({ cls := "com/example/glouton/glouton/consistency/DistinctQueue", name := "poll", desc := "()I" } : Jvm.MethodName) prog_6_method_3_code (2 : Nat) (Option.some Jvm.ClassFile.FieldType.int)).before args0 about1 = true := code_word (m := ⟨2, 2⟩) (meth := k2m2) (c := k2c2) (by decide +kernel) rfl rfl rfl (by decide +kernel)
set_option maxRecDepth 65536 in
theorem w_c7 : (Jvm.Cond.code ({ cls := "com/example/glouton/glouton/consistency/DistinctQueue", name := "isEmpty", desc := "()Z" } : Jvm.MethodName) prog_6_method_4_code (1 : Nat) (Option.some Jvm.ClassFile.FieldType.boolean)).before args0 about1 = true := code_word (m := ⟨2, 3⟩) (meth := k2m3) (c := k2c3) (by decide +kernel) rfl rfl rfl (by decide +kernel)
def codes1 : List Jvm.Cond := [Jvm.Cond.code x code maxLocals ret, Jvm.Cond.code ({ cls := "com/example/glouton/glouton/consistency/DistinctQueue", name := "<init>", desc := "(I)V" } : Jvm.MethodName) prog_6_method_1_code (2 : Nat) (Option.none : Option Jvm.ClassFile.FieldType), Jvm.Cond.code ({ cls := "java/lang/Object", name := "<init>", desc := "()V" } : Jvm.MethodName) object_method_1_code (1 : Nat) (Option.none : Option Jvm.ClassFile.FieldType), Jvm.Cond.code ({ cls := "com/example/glouton/glouton/consistency/DistinctQueue", name := "add", desc := "(I)V" } : Jvm.MethodName) prog_6_method_2_code (2 : Nat) (Option.none : Option Jvm.ClassFile.FieldType), Jvm.Cond.code ({ cls := "com/example/glouton/glouton/consistency/DistinctQueue", name := "following", desc := "(I)I" } : Jvm.MethodName) prog_6_method_6_code (2 : Nat) (Option.some Jvm.ClassFile.FieldType.int), Jvm.Cond.code ({ cls := "com/example/glouton/glouton/consistency/DistinctQueueAddPinLaw", name := "put", desc := "([III)I" } : Jvm.MethodName) method_2_code (4 : Nat) (Option.some Jvm.ClassFile.FieldType.int), Jvm.Cond.code ({ cls := "com/example/glouton/glouton/consistency/DistinctQueue", name := "poll", desc := "()I" } : Jvm.MethodName) prog_6_method_3_code (2 : Nat) (Option.some Jvm.ClassFile.FieldType.int), Jvm.Cond.code ({ cls := "com/example/glouton/glouton/consistency/DistinctQueue", name := "isEmpty", desc := "()Z" } : Jvm.MethodName) prog_6_method_4_code (1 : Nat) (Option.some Jvm.ClassFile.FieldType.boolean)]
set_option maxRecDepth 65536 in
theorem codes_eq : words1.filter isCode = codes1 := rfl
theorem w_codes : ∀ c ∈ words1.filter isCode, c.before args0 about1 = true := by
  rw [codes_eq]
  intro c hc
  simp only [codes1, List.mem_cons, List.not_mem_nil, or_false] at hc
  rcases hc with rfl | rfl | rfl | rfl | rfl | rfl | rfl | rfl
  · exact w_c0
  · exact w_c1
  · exact w_c2
  · exact w_c3
  · exact w_c4
  · exact w_c5
  · exact w_c6
  · exact w_c7
set_option maxRecDepth 65536 in
theorem w_t1 : (words1.take 24).all (fun c => isCode c || c.before args0 about1) = true := by decide +kernel
set_option maxRecDepth 65536 in
theorem w_t2 : (words1.drop 24).all (fun c => isCode c || c.before args0 about1) = true := by decide +kernel
theorem w_tables : (allAtoms (Jvm.Cond.code x code maxLocals ret :: tables_1)).before args0 about1 = true := by
  rw [allAtoms_all]
  show words1.all (fun c => c.before args0 about1) = true
  refine all_split ?_ w_codes
  rw [← List.take_append_drop 24 words1, List.all_append, w_t1, w_t2]
  rfl
set_option maxRecDepth 65536 in
theorem w_case : (Jvm.Cond.and given_1 narrow_1).before args0 about1 = true := by decide +kernel
theorem w_applies : (headSpec (Jvm.Cond.code x code maxLocals ret :: tables_1) room_1).applies x e0.platform about1 = true :=
  (Spec.applies_iff w_frames).mpr ⟨w_running, w_runnable, w_alone, w_named, w_hears, w_ripe, w_room, w_tables⟩
theorem atStart : AtStart classFile x code maxLocals ret World_1 tables_1 room_1 Calls_1 rest_1 Pre_1 launch0 p0 e0 about1 theMethod args0 below0 :=
  ⟨lists_1, trivial, launch0.admits_env _ _ _, launch0.least_env, fairChoices_fair.cas, fairChoices_fair.clock, w_frames, w_args, w_heap, w_applies, trivial, trivial, w_case⟩
end start1
theorem witness_1 : WitnessClaimed_1 := ⟨start1.p0, start1.e0, start1.about1, start1.theMethod, start1.args0, start1.below0, start1.atStart⟩
end Jvm.Pilot.@@N@@
