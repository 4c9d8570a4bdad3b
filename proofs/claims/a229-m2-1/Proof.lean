import JvmDerived
import JvmDerived.Pilot.@@N@@Statement
import JvmDerived.Pilot.@@N@@Code
set_option linter.unusedVariables false
set_option linter.unusedSimpArgs false
namespace Jvm.OwnKit
open Sem ClassFile Op Lib Jvm.Stand Jvm.Free Jvm.LawKit Jvm.RoadKit
/-- every written place is one of ws or new -/
def FrW (h0 : Heap) (ws : List Addr) (L : List Loc) : Prop := ∀ y ∈ L, y.base ∈ ws ∨ h0.size ≤ y.base
/-- what stays fixed while a body runs -/
def Fix (p : Program) (Z s : State) (m : MethodId) (meth : Method) (c : Code) (bytes : ByteArray) (maxL : Nat) (own nm : String) (ret : Option FieldType) : Prop :=
  p.tables.exec = Jvm.exec ∧ Z.Warmed39 s.vm ∧ c.code = bytes ∧ c.maxLocals = maxL ∧ s.vm.findClass own = some m.cls ∧ meth.name = nm ∧ meth.sig.returnType = ret ∧ meth.locks = false
/-- where the run stands: its heap h, what was kept since h0 -/
def St (p : Program) (l : Launch) (e : Env) (R : Room) (s : State) (m : MethodId) (args : Array Value) (below : List Frame) (meth : Method) (c : Code) (h0 : Heap) (ws : List Addr) (T : State) (h : Heap) (cells slots : Nat) : Prop :=
  ∃ locs, Stand p l e R s m args below meth c T locs cells slots ∧ T.heap = h ∧ Keep h0 h ws ∧ FrW h0 ws locs
/-- from T with the top frame f the body comes to its end, and Q holds there -/
def Go (p : Program) (e : Env) (below : List Frame) (s : State) (K N : Nat) (h0 : Heap) (ws : List Addr) (Q : Option Value → Heap → Prop) (T : State) (f : JFrame) : Prop :=
  ∃ t o, Steps p.tables e below (T.setTop f) t ∧ t.status = .running ∧ Ended t below o ∧ ∃ v L, o = .returned v ∧ (Q v t.heap ∧ Keep h0 t.heap ws ∧ FrW h0 ws L) ∧ FrameEnd s o t L K N
/-- a method's contract: called with as' at the heap h0 it returns, writes ws and new cells alone, and Q holds -/
def Meth (l : Launch) (Z : State) (y : MethodName) (bytes : ByteArray) (maxL : Nat) (ret : Option FieldType) (rm : Room) (as' : Array Value) (h0 : Heap) (ws : List Addr) (Q : Option Value → Heap → Prop) : Prop :=
  ∀ wl, MetFree l y (head1 (Cond.code y bytes maxL ret :: wl) rm) (fun a U => a = as' ∧ Z.Warmed39 U.vm ∧ U.heap = h0) (fun _ _ _ _ _ => True) (fun _ U o U' => ∃ v L, o = .returned v ∧ (Q v U'.heap ∧ Keep h0 U'.heap ws ∧ FrW h0 ws L) ∧ FrameEnd U o U' L rm.cells rm.slots)
/-- an array of the kind ty that holds vs -/
def VA (Z : State) (h : Heap) (a : Addr) (ty : FieldType) (vs : List Value) : Prop := ∃ c : Cell, Arr Z h a c ty ∧ c.slots = vs.toArray ∧ vs.length < 2 ^ 31
section Arrays
variable {Z : State} {h h' : Heap} {a b : Addr} {ty : FieldType} {vs : List Value} {sl : Nat} {v : Value} {ws : List Addr}
theorem VA.lt (F : VA Z h a ty vs) : a < h.size := by obtain ⟨c, A, -⟩ := F; exact A.lt
theorem VA.ext (F : VA Z h a ty vs) (E : Ext h h') : VA Z h' a ty vs := by obtain ⟨c, A, r⟩ := F; exact ⟨c, A.ext E, r⟩
theorem VA.other (F : VA Z h b ty vs) (W : Wr h h' a sl v) (q : b ≠ a) : VA Z h' b ty vs := by obtain ⟨c, A, r⟩ := F; exact ⟨c, A.other W q, r⟩
theorem VA.keep (F : VA Z h a ty vs) (K : Keep h h' ws) (q : a ∉ ws) : VA Z h' a ty vs := by obtain ⟨c, A, r⟩ := F; exact ⟨c, ⟨K.2.1 a c A.1 q, A.2⟩, r⟩
theorem VA.set (F : VA Z h a ty vs) (W : Wr h h' a sl v) : VA Z h' a ty (vs.set sl v) := by
  obtain ⟨c, A, r, n⟩ := F
  refine ⟨_, A.same W, ?_, by simpa using n⟩
  show c.slots.setIfInBounds sl v = _
  rw [r]; simp
theorem VA.new {k : ClassId} {n : Int32} (A : Arr Z h a (newA k ty n) ty) (q : ¬ n < 0) : VA Z h a ty (List.replicate n.toNatClampNeg (defaultValue ty)) :=
  ⟨_, A, by simp [newA], by rw [List.length_replicate]; exact (back32 q).2⟩
theorem VA.len31 (F : VA Z h a ty vs) : vs.length < 2 ^ 31 := by obtain ⟨c, A, r, n⟩ := F; exact n
theorem inb {n : Nat} {j : Int32} (hj : 0 ≤ j.toInt ∧ j.toInt < n) : ¬ (j < 0 ∨ n ≤ j.toNatClampNeg) := by
  simp only [Int32.lt_iff_toInt_lt, Int32.toNatClampNeg, Int32.reduceToInt]; omega
theorem own_at {xs : List Int32} {j : Nat} (hj : j < xs.length) : (xs.map Value.int)[j]? = some (.int (xs.getD j 0)) := by
  simp [List.getElem?_eq_getElem hj]
theorem own_atL {xs : List Int64} {j : Nat} (hj : j < xs.length) : (xs.map Value.long)[j]? = some (.long (xs.getD j 0)) := by
  simp [List.getElem?_eq_getElem hj]
end Arrays
section Go
variable {p : Program} {l : Launch} {e : Env} {R : Room} {s : State} {m : MethodId} {args : Array Value} {below : List Frame} {meth : Method} {c : Code} {Z : State} {bytes : ByteArray} {maxL : Nat} {own nm : String} {ret : Option FieldType} {h0 : Heap} {ws : List Addr} {T T' : State} {locs : List Loc} {h : Heap} {cells slots K N : Nat} {Q : Option Value → Heap → Prop} {pc pc' : Nat} {Ls Ls' : Array Slot} {st : List Value} {a0 : Array Value}
theorem Go.to {f f' : JFrame} (k : ∀ t, Steps p.tables e below (T'.setTop f') t → Steps p.tables e below (T.setTop f) t) (g : Go p e below s K N h0 ws Q T' f') : Go p e below s K N h0 ws Q T f := by
  obtain ⟨t, o, a, r⟩ := g; exact ⟨t, o, k t a, r⟩
theorem Go.mono {Q' : Option Value → Heap → Prop} {f : JFrame} (g : Go p e below s K N h0 ws Q T f) (hq : ∀ v h, Q v h → Q' v h) : Go p e below s K N h0 ws Q' T f := by
  obtain ⟨t, o, a, b, d, v, L, e1, ⟨q, r⟩, z⟩ := g; exact ⟨t, o, a, b, d, v, L, e1, ⟨hq _ _ q, r⟩, z⟩
theorem Go.entry {f f' : JFrame} (q : f = f') (g : Go p e below s K N h0 ws Q T f') : Go p e below s K N h0 ws Q T f := q ▸ g
theorem St.more (X : St p l e R s m args below meth c h0 ws T h cells slots) {cells' slots' : Nat} (h1 : cells ≤ cells') (h2 : slots ≤ slots') : St p l e R s m args below meth c h0 ws T h cells' slots' := by
  obtain ⟨L, X, r⟩ := X; exact ⟨L, X.more h1 h2, r⟩
theorem St.kept (X : St p l e R s m args below meth c h0 ws T h cells slots) : Keep h0 h ws := by obtain ⟨L, X, e1, k, f⟩ := X; exact k
theorem St.here (X : St p l e R s m args below meth c h0 ws T h cells slots) : At T m c below := by obtain ⟨L, X, r⟩ := X; exact X.here
theorem Meth.mono {y : MethodName} {rm : Room} {as' : Array Value} {Q' : Option Value → Heap → Prop} (M : Meth l Z y bytes maxL ret rm as' h0 ws Q) (hq : ∀ v h, Q v h → Q' v h) : Meth l Z y bytes maxL ret rm as' h0 ws Q' := by
  intro wl p e ha hc hk s m args below hf happ hP hK
  obtain ⟨n, o, a, b, d, v, L, e1, ⟨q, r⟩, z⟩ := M wl p e ha hc hk s m args below hf happ hP hK
  exact ⟨n, o, a, b, d, v, L, e1, ⟨hq _ _ q, r⟩, z⟩
theorem Meth.of {y : MethodName} {rm : Room} {as' : Array Value} (hpl : plainFor y = true)
    (body : ∀ (p : Program) (e : Env) (s : State) (m : MethodId) (below : List Frame) (meth : Method) (c : Code) (T : State), Fix p Z s m meth c bytes maxL y.cls y.name ret → St p l e rm s m as' below meth c h0 ws T h0 0 0 → Go p e below s rm.cells rm.slots h0 ws Q T (entryFrame m as' maxL)) :
    Meth l Z y bytes maxL ret rm as' h0 ws Q := by
  intro wl
  refine MetFree.of_bodySF hpl hisR ?_
  intro p e s m args below meth c s₁ Bd hml0 hP hK
  obtain ⟨rfl, hZ, hh⟩ := hP
  have X0 : Stand p l e rm s m _ below meth c s₁ [] 0 0 := Stand.of_body Bd
  have e0 : s₁.heap = h0 := by rw [← hh, Bd.state]; rfl
  exact body p e s m below meth c s₁ ⟨Bd.exec, hZ, Bd.bytes, hml0, findClass_of_methodNamed Bd.named, (name_of_methodNamed Bd.named Bd.method).1, Bd.returns, Bd.notSynchronized⟩ ⟨[], X0, e0, Keep.refl _ _, fun y hy => nomatch hy⟩

theorem giload (B : Fix p Z s m meth c bytes maxL own nm ret) (X : St p l e R s m args below meth c h0 ws T h cells slots) {k : Nat} {v : Int32} (hd : decode bytes pc = .ok (.iload k, 2)) (hl : Ls[k]? = some (.val (.int v))) (hp : pc' = pc + 2) (g : Go p e below s K N h0 ws Q T (mkF m pc' Ls (.int v :: st))) : Go p e below s K N h0 ws Q T (mkF m pc Ls st) := by
  subst hp; obtain ⟨L, X, -⟩ := X; exact Go.to (fun t k => XS.iload X.here B.1 rfl (hb B.2.2.1 hd) hl k) g
theorem giloadN (B : Fix p Z s m meth c bytes maxL own nm ret) (X : St p l e R s m args below meth c h0 ws T h cells slots) {k : Fin 4} {v : Int32} (hd : decode bytes pc = .ok (.iload_n k, 1)) (hl : Ls[k.val]? = some (.val (.int v))) (hp : pc' = pc + 1) (g : Go p e below s K N h0 ws Q T (mkF m pc' Ls (.int v :: st))) : Go p e below s K N h0 ws Q T (mkF m pc Ls st) := by
  subst hp; obtain ⟨L, X, -⟩ := X; exact Go.to (fun t k => XS.iloadN X.here B.1 rfl (hb B.2.2.1 hd) hl k) g
theorem gistore (B : Fix p Z s m meth c bytes maxL own nm ret) (X : St p l e R s m args below meth c h0 ws T h cells slots) {k : Nat} {v : Int32} (hd : decode bytes pc = .ok (.istore k, 2)) (hl : storeLocals Ls k (.int v) = some Ls') (hp : pc' = pc + 2) (g : Go p e below s K N h0 ws Q T (mkF m pc' Ls' st)) : Go p e below s K N h0 ws Q T (mkF m pc Ls (.int v :: st)) := by
  subst hp; obtain ⟨L, X, -⟩ := X; exact Go.to (fun t k => XS.istore X.here B.1 rfl (hb B.2.2.1 hd) rfl hl k) g
theorem gistoreN (B : Fix p Z s m meth c bytes maxL own nm ret) (X : St p l e R s m args below meth c h0 ws T h cells slots) {k : Fin 4} {v : Int32} (hd : decode bytes pc = .ok (.istore_n k, 1)) (hl : storeLocals Ls k.val (.int v) = some Ls') (hp : pc' = pc + 1) (g : Go p e below s K N h0 ws Q T (mkF m pc' Ls' st)) : Go p e below s K N h0 ws Q T (mkF m pc Ls (.int v :: st)) := by
  subst hp; obtain ⟨L, X, -⟩ := X; exact Go.to (fun t k => XS.istoreN X.here B.1 rfl (hb B.2.2.1 hd) rfl hl k) g
theorem glload (B : Fix p Z s m meth c bytes maxL own nm ret) (X : St p l e R s m args below meth c h0 ws T h cells slots) {k : Nat} {v : Int64} (hd : decode bytes pc = .ok (.lload k, 2)) (hl : Ls[k]? = some (.val (.long v))) (hp : pc' = pc + 2) (g : Go p e below s K N h0 ws Q T (mkF m pc' Ls (.long v :: st))) : Go p e below s K N h0 ws Q T (mkF m pc Ls st) := by
  subst hp; obtain ⟨L, X, -⟩ := X; exact Go.to (fun t k => XS.lload X.here B.1 rfl (hb B.2.2.1 hd) hl k) g
theorem glloadN (B : Fix p Z s m meth c bytes maxL own nm ret) (X : St p l e R s m args below meth c h0 ws T h cells slots) {k : Fin 4} {v : Int64} (hd : decode bytes pc = .ok (.lload_n k, 1)) (hl : Ls[k.val]? = some (.val (.long v))) (hp : pc' = pc + 1) (g : Go p e below s K N h0 ws Q T (mkF m pc' Ls (.long v :: st))) : Go p e below s K N h0 ws Q T (mkF m pc Ls st) := by
  subst hp; obtain ⟨L, X, -⟩ := X; exact Go.to (fun t k => XS.lloadN X.here B.1 rfl (hb B.2.2.1 hd) hl k) g
theorem glstore (B : Fix p Z s m meth c bytes maxL own nm ret) (X : St p l e R s m args below meth c h0 ws T h cells slots) {k : Nat} {v : Int64} (hd : decode bytes pc = .ok (.lstore k, 2)) (hl : storeLocals Ls k (.long v) = some Ls') (hp : pc' = pc + 2) (g : Go p e below s K N h0 ws Q T (mkF m pc' Ls' st)) : Go p e below s K N h0 ws Q T (mkF m pc Ls (.long v :: st)) := by
  subst hp; obtain ⟨L, X, -⟩ := X; exact Go.to (fun t k => XS.lstore X.here B.1 rfl (hb B.2.2.1 hd) rfl hl k) g
theorem glstoreN (B : Fix p Z s m meth c bytes maxL own nm ret) (X : St p l e R s m args below meth c h0 ws T h cells slots) {k : Fin 4} {v : Int64} (hd : decode bytes pc = .ok (.lstore_n k, 1)) (hl : storeLocals Ls k.val (.long v) = some Ls') (hp : pc' = pc + 1) (g : Go p e below s K N h0 ws Q T (mkF m pc' Ls' st)) : Go p e below s K N h0 ws Q T (mkF m pc Ls (.long v :: st)) := by
  subst hp; obtain ⟨L, X, -⟩ := X; exact Go.to (fun t k => XS.lstoreN X.here B.1 rfl (hb B.2.2.1 hd) rfl hl k) g
theorem gaload (B : Fix p Z s m meth c bytes maxL own nm ret) (X : St p l e R s m args below meth c h0 ws T h cells slots) {k : Nat} {v : Value} (hd : decode bytes pc = .ok (.aload k, 2)) (hl : Ls[k]? = some (.val v)) (hv : v.isRef = true) (hp : pc' = pc + 2) (g : Go p e below s K N h0 ws Q T (mkF m pc' Ls (v :: st))) : Go p e below s K N h0 ws Q T (mkF m pc Ls st) := by
  subst hp; obtain ⟨L, X, -⟩ := X; exact Go.to (fun t k => XS.aload X.here B.1 rfl (hb B.2.2.1 hd) hl hv k) g
theorem galoadN (B : Fix p Z s m meth c bytes maxL own nm ret) (X : St p l e R s m args below meth c h0 ws T h cells slots) {k : Fin 4} {v : Value} (hd : decode bytes pc = .ok (.aload_n k, 1)) (hl : Ls[k.val]? = some (.val v)) (hv : v.isRef = true) (hp : pc' = pc + 1) (g : Go p e below s K N h0 ws Q T (mkF m pc' Ls (v :: st))) : Go p e below s K N h0 ws Q T (mkF m pc Ls st) := by
  subst hp; obtain ⟨L, X, -⟩ := X; exact Go.to (fun t k => XS.aloadN X.here B.1 rfl (hb B.2.2.1 hd) hl hv k) g
theorem gastore (B : Fix p Z s m meth c bytes maxL own nm ret) (X : St p l e R s m args below meth c h0 ws T h cells slots) {k : Nat} {v : Value} (hd : decode bytes pc = .ok (.astore k, 2)) (hv : v.isRef = true) (hl : storeLocals Ls k v = some Ls') (hp : pc' = pc + 2) (g : Go p e below s K N h0 ws Q T (mkF m pc' Ls' st)) : Go p e below s K N h0 ws Q T (mkF m pc Ls (v :: st)) := by
  subst hp; obtain ⟨L, X, -⟩ := X; exact Go.to (fun t k => XS.astore X.here B.1 rfl (hb B.2.2.1 hd) rfl hv hl k) g
theorem gastoreN (B : Fix p Z s m meth c bytes maxL own nm ret) (X : St p l e R s m args below meth c h0 ws T h cells slots) {k : Fin 4} {v : Value} (hd : decode bytes pc = .ok (.astore_n k, 1)) (hv : v.isRef = true) (hl : storeLocals Ls k.val v = some Ls') (hp : pc' = pc + 1) (g : Go p e below s K N h0 ws Q T (mkF m pc' Ls' st)) : Go p e below s K N h0 ws Q T (mkF m pc Ls (v :: st)) := by
  subst hp; obtain ⟨L, X, -⟩ := X; exact Go.to (fun t k => XS.astoreN X.here B.1 rfl (hb B.2.2.1 hd) rfl hv hl k) g
theorem giconst (B : Fix p Z s m meth c bytes maxL own nm ret) (X : St p l e R s m args below meth c h0 ws T h cells slots) {i : Int} {v : Int32} (hd : decode bytes pc = .ok (.iconst i, 1)) (hv : Int32.ofInt i = v) (hp : pc' = pc + 1) (g : Go p e below s K N h0 ws Q T (mkF m pc' Ls (.int v :: st))) : Go p e below s K N h0 ws Q T (mkF m pc Ls st) := by
  subst hp; subst hv; obtain ⟨L, X, -⟩ := X; exact Go.to (fun t k => XS.iconst X.here B.1 rfl (hb B.2.2.1 hd) k) g
theorem gbipush (B : Fix p Z s m meth c bytes maxL own nm ret) (X : St p l e R s m args below meth c h0 ws T h cells slots) {i : Int} {v : Int32} (hd : decode bytes pc = .ok (.bipush i, 2)) (hv : (Int8.ofInt i).toInt32 = v) (hp : pc' = pc + 2) (g : Go p e below s K N h0 ws Q T (mkF m pc' Ls (.int v :: st))) : Go p e below s K N h0 ws Q T (mkF m pc Ls st) := by
  subst hp; subst hv; obtain ⟨L, X, -⟩ := X; exact Go.to (fun t k => XS.bipush X.here B.1 rfl (hb B.2.2.1 hd) k) g
theorem gsipush (B : Fix p Z s m meth c bytes maxL own nm ret) (X : St p l e R s m args below meth c h0 ws T h cells slots) {i : Int} {v : Int32} (hd : decode bytes pc = .ok (.sipush i, 3)) (hv : (Int16.ofInt i).toInt32 = v) (hp : pc' = pc + 3) (g : Go p e below s K N h0 ws Q T (mkF m pc' Ls (.int v :: st))) : Go p e below s K N h0 ws Q T (mkF m pc Ls st) := by
  subst hp; subst hv; obtain ⟨L, X, -⟩ := X; exact Go.to (fun t k => XS.sipush X.here B.1 rfl (hb B.2.2.1 hd) k) g
theorem glconst (B : Fix p Z s m meth c bytes maxL own nm ret) (X : St p l e R s m args below meth c h0 ws T h cells slots) {k : Fin 2} {v : Int64} (hd : decode bytes pc = .ok (.lconst k, 1)) (hv : Int64.ofNat k = v) (hp : pc' = pc + 1) (g : Go p e below s K N h0 ws Q T (mkF m pc' Ls (.long v :: st))) : Go p e below s K N h0 ws Q T (mkF m pc Ls st) := by
  subst hp; subst hv; obtain ⟨L, X, -⟩ := X; exact Go.to (fun t k => XS.lconst X.here B.1 rfl (hb B.2.2.1 hd) k) g
theorem gnull (B : Fix p Z s m meth c bytes maxL own nm ret) (X : St p l e R s m args below meth c h0 ws T h cells slots)  (hd : decode bytes pc = .ok (.aconst_null, 1))  (hp : pc' = pc + 1) (g : Go p e below s K N h0 ws Q T (mkF m pc' Ls (.null :: st))) : Go p e below s K N h0 ws Q T (mkF m pc Ls st) := by
  subst hp; obtain ⟨L, X, -⟩ := X; exact Go.to (fun t k => XS.aconstNull X.here B.1 rfl (hb B.2.2.1 hd)  k) g
theorem giadd (B : Fix p Z s m meth c bytes maxL own nm ret) (X : St p l e R s m args below meth c h0 ws T h cells slots) {x y : Int32} {v : Int32} (hd : decode bytes pc = .ok (.iadd, 1))  (hv : x + y = v) (hp : pc' = pc + 1) (g : Go p e below s K N h0 ws Q T (mkF m pc' Ls (.int v :: st))) : Go p e below s K N h0 ws Q T (mkF m pc Ls (.int y :: .int x :: st)) := by
  subst hp; subst hv; obtain ⟨L, X, -⟩ := X; exact Go.to (fun t k => XS.iadd X.here B.1 rfl (hb B.2.2.1 hd) rfl k) g
theorem gladd (B : Fix p Z s m meth c bytes maxL own nm ret) (X : St p l e R s m args below meth c h0 ws T h cells slots) {x y : Int64} {v : Int64} (hd : decode bytes pc = .ok (.ladd, 1))  (hv : x + y = v) (hp : pc' = pc + 1) (g : Go p e below s K N h0 ws Q T (mkF m pc' Ls (.long v :: st))) : Go p e below s K N h0 ws Q T (mkF m pc Ls (.long y :: .long x :: st)) := by
  subst hp; subst hv; obtain ⟨L, X, -⟩ := X; exact Go.to (fun t k => XS.ladd X.here B.1 rfl (hb B.2.2.1 hd) rfl k) g
theorem gisub (B : Fix p Z s m meth c bytes maxL own nm ret) (X : St p l e R s m args below meth c h0 ws T h cells slots) {x y : Int32} {v : Int32} (hd : decode bytes pc = .ok (.isub, 1))  (hv : x - y = v) (hp : pc' = pc + 1) (g : Go p e below s K N h0 ws Q T (mkF m pc' Ls (.int v :: st))) : Go p e below s K N h0 ws Q T (mkF m pc Ls (.int y :: .int x :: st)) := by
  subst hp; subst hv; obtain ⟨L, X, -⟩ := X; exact Go.to (fun t k => XS.isub X.here B.1 rfl (hb B.2.2.1 hd) rfl k) g
theorem glsub (B : Fix p Z s m meth c bytes maxL own nm ret) (X : St p l e R s m args below meth c h0 ws T h cells slots) {x y : Int64} {v : Int64} (hd : decode bytes pc = .ok (.lsub, 1))  (hv : x - y = v) (hp : pc' = pc + 1) (g : Go p e below s K N h0 ws Q T (mkF m pc' Ls (.long v :: st))) : Go p e below s K N h0 ws Q T (mkF m pc Ls (.long y :: .long x :: st)) := by
  subst hp; subst hv; obtain ⟨L, X, -⟩ := X; exact Go.to (fun t k => XS.lsub X.here B.1 rfl (hb B.2.2.1 hd) rfl k) g
theorem gimul (B : Fix p Z s m meth c bytes maxL own nm ret) (X : St p l e R s m args below meth c h0 ws T h cells slots) {x y : Int32} {v : Int32} (hd : decode bytes pc = .ok (.imul, 1))  (hv : x * y = v) (hp : pc' = pc + 1) (g : Go p e below s K N h0 ws Q T (mkF m pc' Ls (.int v :: st))) : Go p e below s K N h0 ws Q T (mkF m pc Ls (.int y :: .int x :: st)) := by
  subst hp; subst hv; obtain ⟨L, X, -⟩ := X; exact Go.to (fun t k => XS.imul X.here B.1 rfl (hb B.2.2.1 hd) rfl k) g
theorem glmul (B : Fix p Z s m meth c bytes maxL own nm ret) (X : St p l e R s m args below meth c h0 ws T h cells slots) {x y : Int64} {v : Int64} (hd : decode bytes pc = .ok (.lmul, 1))  (hv : x * y = v) (hp : pc' = pc + 1) (g : Go p e below s K N h0 ws Q T (mkF m pc' Ls (.long v :: st))) : Go p e below s K N h0 ws Q T (mkF m pc Ls (.long y :: .long x :: st)) := by
  subst hp; subst hv; obtain ⟨L, X, -⟩ := X; exact Go.to (fun t k => XS.lmul X.here B.1 rfl (hb B.2.2.1 hd) rfl k) g
theorem giand (B : Fix p Z s m meth c bytes maxL own nm ret) (X : St p l e R s m args below meth c h0 ws T h cells slots) {x y : Int32} {v : Int32} (hd : decode bytes pc = .ok (.iand, 1))  (hv : x &&& y = v) (hp : pc' = pc + 1) (g : Go p e below s K N h0 ws Q T (mkF m pc' Ls (.int v :: st))) : Go p e below s K N h0 ws Q T (mkF m pc Ls (.int y :: .int x :: st)) := by
  subst hp; subst hv; obtain ⟨L, X, -⟩ := X; exact Go.to (fun t k => XS.iand X.here B.1 rfl (hb B.2.2.1 hd) rfl k) g
theorem gland (B : Fix p Z s m meth c bytes maxL own nm ret) (X : St p l e R s m args below meth c h0 ws T h cells slots) {x y : Int64} {v : Int64} (hd : decode bytes pc = .ok (.land, 1))  (hv : x &&& y = v) (hp : pc' = pc + 1) (g : Go p e below s K N h0 ws Q T (mkF m pc' Ls (.long v :: st))) : Go p e below s K N h0 ws Q T (mkF m pc Ls (.long y :: .long x :: st)) := by
  subst hp; subst hv; obtain ⟨L, X, -⟩ := X; exact Go.to (fun t k => XS.land X.here B.1 rfl (hb B.2.2.1 hd) rfl k) g
theorem gior (B : Fix p Z s m meth c bytes maxL own nm ret) (X : St p l e R s m args below meth c h0 ws T h cells slots) {x y : Int32} {v : Int32} (hd : decode bytes pc = .ok (.ior, 1))  (hv : x ||| y = v) (hp : pc' = pc + 1) (g : Go p e below s K N h0 ws Q T (mkF m pc' Ls (.int v :: st))) : Go p e below s K N h0 ws Q T (mkF m pc Ls (.int y :: .int x :: st)) := by
  subst hp; subst hv; obtain ⟨L, X, -⟩ := X; exact Go.to (fun t k => XS.ior X.here B.1 rfl (hb B.2.2.1 hd) rfl k) g
theorem glor (B : Fix p Z s m meth c bytes maxL own nm ret) (X : St p l e R s m args below meth c h0 ws T h cells slots) {x y : Int64} {v : Int64} (hd : decode bytes pc = .ok (.lor, 1))  (hv : x ||| y = v) (hp : pc' = pc + 1) (g : Go p e below s K N h0 ws Q T (mkF m pc' Ls (.long v :: st))) : Go p e below s K N h0 ws Q T (mkF m pc Ls (.long y :: .long x :: st)) := by
  subst hp; subst hv; obtain ⟨L, X, -⟩ := X; exact Go.to (fun t k => XS.lor X.here B.1 rfl (hb B.2.2.1 hd) rfl k) g
theorem gixor (B : Fix p Z s m meth c bytes maxL own nm ret) (X : St p l e R s m args below meth c h0 ws T h cells slots) {x y : Int32} {v : Int32} (hd : decode bytes pc = .ok (.ixor, 1))  (hv : x ^^^ y = v) (hp : pc' = pc + 1) (g : Go p e below s K N h0 ws Q T (mkF m pc' Ls (.int v :: st))) : Go p e below s K N h0 ws Q T (mkF m pc Ls (.int y :: .int x :: st)) := by
  subst hp; subst hv; obtain ⟨L, X, -⟩ := X; exact Go.to (fun t k => XS.ixor X.here B.1 rfl (hb B.2.2.1 hd) rfl k) g
theorem glxor (B : Fix p Z s m meth c bytes maxL own nm ret) (X : St p l e R s m args below meth c h0 ws T h cells slots) {x y : Int64} {v : Int64} (hd : decode bytes pc = .ok (.lxor, 1))  (hv : x ^^^ y = v) (hp : pc' = pc + 1) (g : Go p e below s K N h0 ws Q T (mkF m pc' Ls (.long v :: st))) : Go p e below s K N h0 ws Q T (mkF m pc Ls (.long y :: .long x :: st)) := by
  subst hp; subst hv; obtain ⟨L, X, -⟩ := X; exact Go.to (fun t k => XS.lxor X.here B.1 rfl (hb B.2.2.1 hd) rfl k) g
theorem gidiv (B : Fix p Z s m meth c bytes maxL own nm ret) (X : St p l e R s m args below meth c h0 ws T h cells slots) {x y : Int32} {v : Int32} (hd : decode bytes pc = .ok (.idiv, 1)) (hy : y ≠ 0) (hv : x / y = v) (hp : pc' = pc + 1) (g : Go p e below s K N h0 ws Q T (mkF m pc' Ls (.int v :: st))) : Go p e below s K N h0 ws Q T (mkF m pc Ls (.int y :: .int x :: st)) := by
  subst hp; subst hv; obtain ⟨L, X, -⟩ := X; exact Go.to (fun t k => XS.idiv X.here B.1 rfl (hb B.2.2.1 hd) rfl hy k) g
theorem gldiv (B : Fix p Z s m meth c bytes maxL own nm ret) (X : St p l e R s m args below meth c h0 ws T h cells slots) {x y : Int64} {v : Int64} (hd : decode bytes pc = .ok (.ldiv, 1)) (hy : y ≠ 0) (hv : x / y = v) (hp : pc' = pc + 1) (g : Go p e below s K N h0 ws Q T (mkF m pc' Ls (.long v :: st))) : Go p e below s K N h0 ws Q T (mkF m pc Ls (.long y :: .long x :: st)) := by
  subst hp; subst hv; obtain ⟨L, X, -⟩ := X; exact Go.to (fun t k => XS.ldiv X.here B.1 rfl (hb B.2.2.1 hd) rfl hy k) g
theorem girem (B : Fix p Z s m meth c bytes maxL own nm ret) (X : St p l e R s m args below meth c h0 ws T h cells slots) {x y v : Int32} (hd : decode bytes pc = .ok (.irem, 1)) (hy : y ≠ 0) (hv : x % y = v) (hp : pc' = pc + 1) (g : Go p e below s K N h0 ws Q T (mkF m pc' Ls (.int v :: st))) : Go p e below s K N h0 ws Q T (mkF m pc Ls (.int y :: .int x :: st)) := by
  subst hp; subst hv; obtain ⟨L, X, -⟩ := X; exact Go.to (fun t k => iremM X B.1 rfl (hb B.2.2.1 hd) rfl hy k) g
theorem glrem (B : Fix p Z s m meth c bytes maxL own nm ret) (X : St p l e R s m args below meth c h0 ws T h cells slots) {x y v : Int64} (hd : decode bytes pc = .ok (.lrem, 1)) (hy : y ≠ 0) (hv : x % y = v) (hp : pc' = pc + 1) (g : Go p e below s K N h0 ws Q T (mkF m pc' Ls (.long v :: st))) : Go p e below s K N h0 ws Q T (mkF m pc Ls (.long y :: .long x :: st)) := by
  subst hp; subst hv; obtain ⟨L, X, -⟩ := X; exact Go.to (fun t k => XS.lrem X.here B.1 rfl (hb B.2.2.1 hd) rfl hy (by rw [lrem_mod]; exact k)) g
theorem gishl (B : Fix p Z s m meth c bytes maxL own nm ret) (X : St p l e R s m args below meth c h0 ws T h cells slots) {x y : Int32} {v : Int32} (hd : decode bytes pc = .ok (.ishl, 1))  (hv : x <<< (y &&& 31) = v) (hp : pc' = pc + 1) (g : Go p e below s K N h0 ws Q T (mkF m pc' Ls (.int v :: st))) : Go p e below s K N h0 ws Q T (mkF m pc Ls (.int y :: .int x :: st)) := by
  subst hp; subst hv; obtain ⟨L, X, -⟩ := X; exact Go.to (fun t k => XS.ishl X.here B.1 rfl (hb B.2.2.1 hd) rfl k) g
theorem gishr (B : Fix p Z s m meth c bytes maxL own nm ret) (X : St p l e R s m args below meth c h0 ws T h cells slots) {x y : Int32} {v : Int32} (hd : decode bytes pc = .ok (.ishr, 1))  (hv : x >>> (y &&& 31) = v) (hp : pc' = pc + 1) (g : Go p e below s K N h0 ws Q T (mkF m pc' Ls (.int v :: st))) : Go p e below s K N h0 ws Q T (mkF m pc Ls (.int y :: .int x :: st)) := by
  subst hp; subst hv; obtain ⟨L, X, -⟩ := X; exact Go.to (fun t k => XS.ishr X.here B.1 rfl (hb B.2.2.1 hd) rfl k) g
theorem giushr (B : Fix p Z s m meth c bytes maxL own nm ret) (X : St p l e R s m args below meth c h0 ws T h cells slots) {x y : Int32} {v : Int32} (hd : decode bytes pc = .ok (.iushr, 1))  (hv : (x.toUInt32 >>> (y &&& 31).toUInt32).toInt32 = v) (hp : pc' = pc + 1) (g : Go p e below s K N h0 ws Q T (mkF m pc' Ls (.int v :: st))) : Go p e below s K N h0 ws Q T (mkF m pc Ls (.int y :: .int x :: st)) := by
  subst hp; subst hv; obtain ⟨L, X, -⟩ := X; exact Go.to (fun t k => XS.iushr X.here B.1 rfl (hb B.2.2.1 hd) rfl k) g
theorem glshl (B : Fix p Z s m meth c bytes maxL own nm ret) (X : St p l e R s m args below meth c h0 ws T h cells slots) {x : Int64} {y : Int32} {v : Int64} (hd : decode bytes pc = .ok (.lshl, 1))  (hv : x <<< (y &&& 0x3f).toInt64 = v) (hp : pc' = pc + 1) (g : Go p e below s K N h0 ws Q T (mkF m pc' Ls (.long v :: st))) : Go p e below s K N h0 ws Q T (mkF m pc Ls (.int y :: .long x :: st)) := by
  subst hp; subst hv; obtain ⟨L, X, -⟩ := X; exact Go.to (fun t k => XS.lshl X.here B.1 rfl (hb B.2.2.1 hd) rfl k) g
theorem glshr (B : Fix p Z s m meth c bytes maxL own nm ret) (X : St p l e R s m args below meth c h0 ws T h cells slots) {x : Int64} {y : Int32} {v : Int64} (hd : decode bytes pc = .ok (.lshr, 1))  (hv : x >>> (y &&& 0x3f).toInt64 = v) (hp : pc' = pc + 1) (g : Go p e below s K N h0 ws Q T (mkF m pc' Ls (.long v :: st))) : Go p e below s K N h0 ws Q T (mkF m pc Ls (.int y :: .long x :: st)) := by
  subst hp; subst hv; obtain ⟨L, X, -⟩ := X; exact Go.to (fun t k => XS.lshr X.here B.1 rfl (hb B.2.2.1 hd) rfl k) g
theorem glushr (B : Fix p Z s m meth c bytes maxL own nm ret) (X : St p l e R s m args below meth c h0 ws T h cells slots) {x : Int64} {y : Int32} {v : Int64} (hd : decode bytes pc = .ok (.lushr, 1))  (hv : (x.toUInt64 >>> (y &&& 0x3f).toInt64.toUInt64).toInt64 = v) (hp : pc' = pc + 1) (g : Go p e below s K N h0 ws Q T (mkF m pc' Ls (.long v :: st))) : Go p e below s K N h0 ws Q T (mkF m pc Ls (.int y :: .long x :: st)) := by
  subst hp; subst hv; obtain ⟨L, X, -⟩ := X; exact Go.to (fun t k => XS.lushr X.here B.1 rfl (hb B.2.2.1 hd) rfl k) g
theorem gineg (B : Fix p Z s m meth c bytes maxL own nm ret) (X : St p l e R s m args below meth c h0 ws T h cells slots) {x : Int32} {v : Int32} (hd : decode bytes pc = .ok (.ineg, 1))  (hv : -x = v) (hp : pc' = pc + 1) (g : Go p e below s K N h0 ws Q T (mkF m pc' Ls (.int v :: st))) : Go p e below s K N h0 ws Q T (mkF m pc Ls (.int x :: st)) := by
  subst hp; subst hv; obtain ⟨L, X, -⟩ := X; exact Go.to (fun t k => XS.ineg X.here B.1 rfl (hb B.2.2.1 hd) rfl k) g
theorem glneg (B : Fix p Z s m meth c bytes maxL own nm ret) (X : St p l e R s m args below meth c h0 ws T h cells slots) {x : Int64} {v : Int64} (hd : decode bytes pc = .ok (.lneg, 1))  (hv : -x = v) (hp : pc' = pc + 1) (g : Go p e below s K N h0 ws Q T (mkF m pc' Ls (.long v :: st))) : Go p e below s K N h0 ws Q T (mkF m pc Ls (.long x :: st)) := by
  subst hp; subst hv; obtain ⟨L, X, -⟩ := X; exact Go.to (fun t k => XS.lneg X.here B.1 rfl (hb B.2.2.1 hd) rfl k) g
theorem gi2l (B : Fix p Z s m meth c bytes maxL own nm ret) (X : St p l e R s m args below meth c h0 ws T h cells slots) {x : Int32} {v : Int64} (hd : decode bytes pc = .ok (.i2l, 1))  (hv : x.toInt64 = v) (hp : pc' = pc + 1) (g : Go p e below s K N h0 ws Q T (mkF m pc' Ls (.long v :: st))) : Go p e below s K N h0 ws Q T (mkF m pc Ls (.int x :: st)) := by
  subst hp; subst hv; obtain ⟨L, X, -⟩ := X; exact Go.to (fun t k => XS.i2l X.here B.1 rfl (hb B.2.2.1 hd) rfl k) g
theorem gl2i (B : Fix p Z s m meth c bytes maxL own nm ret) (X : St p l e R s m args below meth c h0 ws T h cells slots) {x : Int64} {v : Int32} (hd : decode bytes pc = .ok (.l2i, 1))  (hv : x.toInt32 = v) (hp : pc' = pc + 1) (g : Go p e below s K N h0 ws Q T (mkF m pc' Ls (.int v :: st))) : Go p e below s K N h0 ws Q T (mkF m pc Ls (.long x :: st)) := by
  subst hp; subst hv; obtain ⟨L, X, -⟩ := X; exact Go.to (fun t k => XS.l2i X.here B.1 rfl (hb B.2.2.1 hd) rfl k) g
theorem gi2b (B : Fix p Z s m meth c bytes maxL own nm ret) (X : St p l e R s m args below meth c h0 ws T h cells slots) {x : Int32} {v : Int32} (hd : decode bytes pc = .ok (.i2b, 1))  (hv : x.toInt8.toInt32 = v) (hp : pc' = pc + 1) (g : Go p e below s K N h0 ws Q T (mkF m pc' Ls (.int v :: st))) : Go p e below s K N h0 ws Q T (mkF m pc Ls (.int x :: st)) := by
  subst hp; subst hv; obtain ⟨L, X, -⟩ := X; exact Go.to (fun t k => XS.i2b X.here B.1 rfl (hb B.2.2.1 hd) rfl k) g
theorem gi2s (B : Fix p Z s m meth c bytes maxL own nm ret) (X : St p l e R s m args below meth c h0 ws T h cells slots) {x : Int32} {v : Int32} (hd : decode bytes pc = .ok (.i2s, 1))  (hv : x.toInt16.toInt32 = v) (hp : pc' = pc + 1) (g : Go p e below s K N h0 ws Q T (mkF m pc' Ls (.int v :: st))) : Go p e below s K N h0 ws Q T (mkF m pc Ls (.int x :: st)) := by
  subst hp; subst hv; obtain ⟨L, X, -⟩ := X; exact Go.to (fun t k => XS.i2s X.here B.1 rfl (hb B.2.2.1 hd) rfl k) g
theorem gi2c (B : Fix p Z s m meth c bytes maxL own nm ret) (X : St p l e R s m args below meth c h0 ws T h cells slots) {x : Int32} {v : Int32} (hd : decode bytes pc = .ok (.i2c, 1))  (hv : x.toUInt32.toUInt16.toUInt32.toInt32 = v) (hp : pc' = pc + 1) (g : Go p e below s K N h0 ws Q T (mkF m pc' Ls (.int v :: st))) : Go p e below s K N h0 ws Q T (mkF m pc Ls (.int x :: st)) := by
  subst hp; subst hv; obtain ⟨L, X, -⟩ := X; exact Go.to (fun t k => XS.i2c X.here B.1 rfl (hb B.2.2.1 hd) rfl k) g
theorem glcmp (B : Fix p Z s m meth c bytes maxL own nm ret) (X : St p l e R s m args below meth c h0 ws T h cells slots) {x y : Int64} (hd : decode bytes pc = .ok (.lcmp, 1))  (hp : pc' = pc + 1) (g : Go p e below s K N h0 ws Q T (mkF m pc' Ls (.int (lcmpW x y) :: st))) : Go p e below s K N h0 ws Q T (mkF m pc Ls (.long y :: .long x :: st)) := by
  subst hp; obtain ⟨L, X, -⟩ := X; exact Go.to (fun t k => XS.lcmp X.here B.1 rfl (hb B.2.2.1 hd) rfl k) g
theorem gdup (B : Fix p Z s m meth c bytes maxL own nm ret) (X : St p l e R s m args below meth c h0 ws T h cells slots) {x : Value} (hd : decode bytes pc = .ok (.dup, 1)) (hc : x.category = 1) (hp : pc' = pc + 1) (g : Go p e below s K N h0 ws Q T (mkF m pc' Ls (x :: x :: st))) : Go p e below s K N h0 ws Q T (mkF m pc Ls (x :: st)) := by
  subst hp; obtain ⟨L, X, -⟩ := X; exact Go.to (fun t k => XS.dup X.here B.1 rfl (hb B.2.2.1 hd) rfl hc k) g
theorem gpop (B : Fix p Z s m meth c bytes maxL own nm ret) (X : St p l e R s m args below meth c h0 ws T h cells slots) {x : Value} (hd : decode bytes pc = .ok (.pop, 1)) (hc : x.category = 1) (hp : pc' = pc + 1) (g : Go p e below s K N h0 ws Q T (mkF m pc' Ls st)) : Go p e below s K N h0 ws Q T (mkF m pc Ls (x :: st)) := by
  subst hp; obtain ⟨L, X, -⟩ := X; exact Go.to (fun t k => XS.pop X.here B.1 rfl (hb B.2.2.1 hd) rfl hc k) g
theorem gdup_x1 (B : Fix p Z s m meth c bytes maxL own nm ret) (X : St p l e R s m args below meth c h0 ws T h cells slots) {x y : Value} (hd : decode bytes pc = .ok (.dup_x1, 1)) (hc : x.category = 1) (hc2 : y.category = 1) (hp : pc' = pc + 1) (g : Go p e below s K N h0 ws Q T (mkF m pc' Ls (x :: y :: x :: st))) : Go p e below s K N h0 ws Q T (mkF m pc Ls (x :: y :: st)) := by
  subst hp; obtain ⟨L, X, -⟩ := X; exact Go.to (fun t k => XS.dupX1 X.here B.1 rfl (hb B.2.2.1 hd) rfl hc hc2 k) g
theorem gdup2 (B : Fix p Z s m meth c bytes maxL own nm ret) (X : St p l e R s m args below meth c h0 ws T h cells slots) {x y : Value} (hd : decode bytes pc = .ok (.dup2, 1)) (hc : x.category = 1) (hc2 : y.category = 1) (hp : pc' = pc + 1) (g : Go p e below s K N h0 ws Q T (mkF m pc' Ls (x :: y :: x :: y :: st))) : Go p e below s K N h0 ws Q T (mkF m pc Ls (x :: y :: st)) := by
  subst hp; obtain ⟨L, X, -⟩ := X; exact Go.to (fun t k => Jvm.Free.XT.dup2 X.here B.1 rfl (hb B.2.2.1 hd) rfl hc hc2 k) g
theorem xdup_x2 {tb : Tables} [Ours tb] {target : State} {g : JFrame} (h : At T m c below) (hx : tb.exec = Jvm.exec) (hg : g.method = m) {x y z : Value} {rest : List Value} (hd : decode c.code g.pc = .ok (.dup_x2, 1)) (hs : g.stack = x :: y :: z :: rest) (hc : x.category = 1) (hc' : y.category = 1) (hc2 : z.category = 1)
    (hr : Steps tb e below (T.setTop { g with pc := g.pc + 1, stack := x :: y :: z :: x :: rest }) target) : Steps tb e below (T.setTop g) target := by
  subst hg
  jvm_step h [h.top, hx, hd, hs, hc, hc', hc2]
  exact hr
theorem gdup_x2 (B : Fix p Z s m meth c bytes maxL own nm ret) (X : St p l e R s m args below meth c h0 ws T h cells slots) {x y z : Value} (hd : decode bytes pc = .ok (.dup_x2, 1)) (hc : x.category = 1) (hc2 : y.category = 1) (hc3 : z.category = 1) (hp : pc' = pc + 1) (g : Go p e below s K N h0 ws Q T (mkF m pc' Ls (x :: y :: z :: x :: st))) : Go p e below s K N h0 ws Q T (mkF m pc Ls (x :: y :: z :: st)) := by
  subst hp; obtain ⟨L, X, -⟩ := X; exact Go.to (fun t k => xdup_x2 X.here B.1 rfl (hb B.2.2.1 hd) rfl hc hc2 hc3 k) g
theorem giinc (B : Fix p Z s m meth c bytes maxL own nm ret) (X : St p l e R s m args below meth c h0 ws T h cells slots) {k : Nat} {cst : Int} {x v : Int32} (hd : decode bytes pc = .ok (.iinc k cst, 3)) (hl : Ls[k]? = some (.val (.int x))) (hv : x + Int32.ofInt cst = v) (hl' : storeLocals Ls k (.int v) = some Ls') (hp : pc' = pc + 3) (g : Go p e below s K N h0 ws Q T (mkF m pc' Ls' st)) : Go p e below s K N h0 ws Q T (mkF m pc Ls st) := by
  subst hp; subst hv; obtain ⟨L, X, -⟩ := X; exact Go.to (fun t k => XS.iinc X.here B.1 rfl (hb B.2.2.1 hd) hl hl' k) g
theorem ggoto (B : Fix p Z s m meth c bytes maxL own nm ret) (X : St p l e R s m args below meth c h0 ws T h cells slots) {o : Int} (hd : decode bytes pc = .ok (.goto o, 3)) (ho : 0 ≤ (pc : Int) + o ∧ ((pc : Int) + o).toNat = pc') (g : Go p e below s K N h0 ws Q T (mkF m pc' Ls st)) : Go p e below s K N h0 ws Q T (mkF m pc Ls st) := by
  obtain ⟨L, X, -⟩ := X; exact Go.to (fun t k => XS.goto X.here B.1 rfl (pc0 := pc) rfl (hb B.2.2.1 hd) ho.1 ho.2 k) g
theorem gifY (B : Fix p Z s m meth c bytes maxL own nm ret) (X : St p l e R s m args below meth c h0 ws T h cells slots) {cd : ClassFile.Cond} {o : Int} {x : Int32} (hd : decode bytes pc = .ok (.ifCond cd o, 3)) (hc : ifCond.holds cd x = true) (ho : 0 ≤ (pc : Int) + o ∧ ((pc : Int) + o).toNat = pc') (g : Go p e below s K N h0 ws Q T (mkF m pc' Ls st)) : Go p e below s K N h0 ws Q T (mkF m pc Ls (.int x :: st)) := by
  obtain ⟨L, X, -⟩ := X; exact Go.to (fun t k => XS.ifYes X.here B.1 rfl (pc0 := pc) rfl (hb B.2.2.1 hd) rfl hc ho.1 ho.2 k) g
theorem gifN (B : Fix p Z s m meth c bytes maxL own nm ret) (X : St p l e R s m args below meth c h0 ws T h cells slots) {cd : ClassFile.Cond} {o : Int} {x : Int32} (hd : decode bytes pc = .ok (.ifCond cd o, 3)) (hc : ifCond.holds cd x = false) (hp : pc' = pc + 3) (g : Go p e below s K N h0 ws Q T (mkF m pc' Ls st)) : Go p e below s K N h0 ws Q T (mkF m pc Ls (.int x :: st)) := by
  subst hp; obtain ⟨L, X, -⟩ := X; exact Go.to (fun t k => XS.ifNo X.here B.1 rfl (hb B.2.2.1 hd) rfl hc k) g
theorem gicY (B : Fix p Z s m meth c bytes maxL own nm ret) (X : St p l e R s m args below meth c h0 ws T h cells slots) {cd : ClassFile.Cond} {o : Int} {x y : Int32} (hd : decode bytes pc = .ok (.if_icmp cd o, 3)) (hc : if_icmp.holds cd x y = true) (ho : 0 ≤ (pc : Int) + o ∧ ((pc : Int) + o).toNat = pc') (g : Go p e below s K N h0 ws Q T (mkF m pc' Ls st)) : Go p e below s K N h0 ws Q T (mkF m pc Ls (.int y :: .int x :: st)) := by
  obtain ⟨L, X, -⟩ := X; exact Go.to (fun t k => XS.icmpYes X.here B.1 rfl (pc0 := pc) rfl (hb B.2.2.1 hd) rfl hc ho.1 ho.2 k) g
theorem gicN (B : Fix p Z s m meth c bytes maxL own nm ret) (X : St p l e R s m args below meth c h0 ws T h cells slots) {cd : ClassFile.Cond} {o : Int} {x y : Int32} (hd : decode bytes pc = .ok (.if_icmp cd o, 3)) (hc : if_icmp.holds cd x y = false) (hp : pc' = pc + 3) (g : Go p e below s K N h0 ws Q T (mkF m pc' Ls st)) : Go p e below s K N h0 ws Q T (mkF m pc Ls (.int y :: .int x :: st)) := by
  subst hp; obtain ⟨L, X, -⟩ := X; exact Go.to (fun t k => XS.icmpNo X.here B.1 rfl (hb B.2.2.1 hd) rfl hc k) g
theorem gnullN (B : Fix p Z s m meth c bytes maxL own nm ret) (X : St p l e R s m args below meth c h0 ws T h cells slots) {a : Addr} {o : Int} (hd : decode bytes pc = .ok (.ifnull o, 3)) (hp : pc' = pc + 3) (g : Go p e below s K N h0 ws Q T (mkF m pc' Ls st)) : Go p e below s K N h0 ws Q T (mkF m pc Ls (.ref a :: st)) := by
  subst hp; obtain ⟨L, X, -⟩ := X; exact Go.to (fun t k => XS.ifnullNo X.here B.1 rfl (hb B.2.2.1 hd) rfl k) g
theorem gldc (B : Fix p Z s m meth c bytes maxL own nm ret) (X : St p l e R s m args below meth c h0 ws T h cells slots) {i : Nat} {v : Int32} (w : (Cond.constant own i v).before a0 Z = true) (hd : decode bytes pc = .ok (.ldc i, 2)) (hp : pc' = pc + 2) (g : Go p e below s K N h0 ws Q T (mkF m pc' Ls (.int v :: st))) : Go p e below s K N h0 ws Q T (mkF m pc Ls st) := by
  subst hp; obtain ⟨L, X, -⟩ := X; exact Go.to (fun t k => X.ldcInt B.1 B.2.2.2.2.1 (mvT B.2.1 w) (g := mkF m pc Ls st) rfl (hb B.2.2.1 hd) t k) g
theorem gldcw (B : Fix p Z s m meth c bytes maxL own nm ret) (X : St p l e R s m args below meth c h0 ws T h cells slots) {i : Nat} {v : Int32} (w : (Cond.constant own i v).before a0 Z = true) (hd : decode bytes pc = .ok (.ldc_w i, 3)) (hp : pc' = pc + 3) (g : Go p e below s K N h0 ws Q T (mkF m pc' Ls (.int v :: st))) : Go p e below s K N h0 ws Q T (mkF m pc Ls st) := by
  subst hp; obtain ⟨L, X, -⟩ := X; exact Go.to (fun t k => X.ldcwInt B.1 B.2.2.2.2.1 (mvT B.2.1 w) (g := mkF m pc Ls st) rfl (hb B.2.2.1 hd) t k) g
theorem gldc2 (B : Fix p Z s m meth c bytes maxL own nm ret) (X : St p l e R s m args below meth c h0 ws T h cells slots) {i : Nat} {v : Int64} (w : (Cond.constantLong own i v).before a0 Z = true) (hd : decode bytes pc = .ok (.ldc2_w i, 3)) (hp : pc' = pc + 3) (g : Go p e below s K N h0 ws Q T (mkF m pc' Ls (.long v :: st))) : Go p e below s K N h0 ws Q T (mkF m pc Ls st) := by
  subst hp; obtain ⟨L, X, -⟩ := X; exact Go.to (fun t k => X.ldc2Long B.1 B.2.2.2.2.1 (mvT B.2.1 w) (g := mkF m pc Ls st) rfl (hb B.2.2.1 hd) t k) g
theorem giaload (B : Fix p Z s m meth c bytes maxL own nm ret) (X : St p l e R s m args below meth c h0 ws T h cells slots) {a : Addr} {vs : List Value} {j : Int32} {v : Value} {n : Nat} (A : VA Z h a .int vs) (hn : vs.length = n) (hj : 0 ≤ j.toInt ∧ j.toInt < n) (hv : vs[j.toNatClampNeg]? = some v) (hd : decode bytes pc = .ok (.iaload, 1)) (hp : pc' = pc + 1) (g : Go p e below s K N h0 ws Q T (mkF m pc' Ls (v :: st))) : Go p e below s K N h0 ws Q T (mkF m pc Ls (.int j :: .ref a :: st)) := by
  subst hp; subst hn; obtain ⟨L, X, eT, -⟩ := X; obtain ⟨cl, A, r, n⟩ := A
  exact Go.to (fun t k => X.iaload B.1 (by rw [eT]; exact A.1) (State.isArrayOf_alike B.2.1.alike A.2.1) A.2.2 (by rw [r]; exact inb (by simpa using hj)) (by rw [r]; simpa using hv) (g := mkF m pc Ls (.int j :: .ref a :: st)) rfl rfl (hb B.2.2.1 hd) t k) g
theorem glaload (B : Fix p Z s m meth c bytes maxL own nm ret) (X : St p l e R s m args below meth c h0 ws T h cells slots) {a : Addr} {vs : List Value} {j : Int32} {v : Value} {n : Nat} (A : VA Z h a .long vs) (hn : vs.length = n) (hj : 0 ≤ j.toInt ∧ j.toInt < n) (hv : vs[j.toNatClampNeg]? = some v) (hd : decode bytes pc = .ok (.laload, 1)) (hp : pc' = pc + 1) (g : Go p e below s K N h0 ws Q T (mkF m pc' Ls (v :: st))) : Go p e below s K N h0 ws Q T (mkF m pc Ls (.int j :: .ref a :: st)) := by
  subst hp; subst hn; obtain ⟨L, X, eT, -⟩ := X; obtain ⟨cl, A, r, n⟩ := A
  exact Go.to (fun t k => X.laload B.1 (by rw [eT]; exact A.1) (State.isArrayOf_alike B.2.1.alike A.2.1) A.2.2 (by rw [r]; exact inb (by simpa using hj)) (by rw [r]; simpa using hv) (g := mkF m pc Ls (.int j :: .ref a :: st)) rfl rfl (hb B.2.2.1 hd) t k) g
theorem gbaload (B : Fix p Z s m meth c bytes maxL own nm ret) (X : St p l e R s m args below meth c h0 ws T h cells slots) {a : Addr} {vs : List Value} {j : Int32} {v : Value} {n : Nat} (A : VA Z h a .byte vs) (hn : vs.length = n) (hj : 0 ≤ j.toInt ∧ j.toInt < n) (hv : vs[j.toNatClampNeg]? = some v) (hd : decode bytes pc = .ok (.baload, 1)) (hp : pc' = pc + 1) (g : Go p e below s K N h0 ws Q T (mkF m pc' Ls (v :: st))) : Go p e below s K N h0 ws Q T (mkF m pc Ls (.int j :: .ref a :: st)) := by
  subst hp; subst hn; obtain ⟨L, X, eT, -⟩ := X; obtain ⟨cl, A, r, n⟩ := A
  exact Go.to (fun t k => X.baloadBytes B.1 (by rw [eT]; exact A.1) (State.isArrayOf_alike B.2.1.alike A.2.1) A.2.2 (by rw [r]; exact inb (by simpa using hj)) (by rw [r]; simpa using hv) (g := mkF m pc Ls (.int j :: .ref a :: st)) rfl rfl (hb B.2.2.1 hd) t k) g
theorem gzaload (B : Fix p Z s m meth c bytes maxL own nm ret) (X : St p l e R s m args below meth c h0 ws T h cells slots) {a : Addr} {vs : List Value} {j : Int32} {v : Value} {n : Nat} (A : VA Z h a .boolean vs) (hn : vs.length = n) (hj : 0 ≤ j.toInt ∧ j.toInt < n) (hv : vs[j.toNatClampNeg]? = some v) (hd : decode bytes pc = .ok (.baload, 1)) (hp : pc' = pc + 1) (g : Go p e below s K N h0 ws Q T (mkF m pc' Ls (v :: st))) : Go p e below s K N h0 ws Q T (mkF m pc Ls (.int j :: .ref a :: st)) := by
  subst hp; subst hn; obtain ⟨L, X, eT, -⟩ := X; obtain ⟨cl, A, r, n⟩ := A
  exact Go.to (fun t k => X.baloadBooleans B.1 (by rw [eT]; exact A.1) (State.isArrayOf_alike B.2.1.alike A.2.1) A.2.2 (by rw [r]; exact inb (by simpa using hj)) (by rw [r]; simpa using hv) (g := mkF m pc Ls (.int j :: .ref a :: st)) rfl rfl (hb B.2.2.1 hd) t k) g
theorem glength (B : Fix p Z s m meth c bytes maxL own nm ret) (X : St p l e R s m args below meth c h0 ws T h cells slots) {a : Addr} {ty : FieldType} {vs : List Value} {n : Int32} {k : Nat} (A : VA Z h a ty vs) (hk : vs.length = k) (hn : n.toInt = k) (hd : decode bytes pc = .ok (.arraylength, 1)) (hp : pc' = pc + 1) (g : Go p e below s K N h0 ws Q T (mkF m pc' Ls (.int n :: st))) : Go p e below s K N h0 ws Q T (mkF m pc Ls (.ref a :: st)) := by
  subst hp; subst hk; obtain ⟨L, X, eT, -⟩ := X; obtain ⟨cl, A, r, q⟩ := A
  have e1 : cl.slots.size.toInt32 = n := by rw [r]; apply Int32.toInt_inj.mp; rw [len_toInt (by simpa using q), hn]; simp
  exact Go.to (fun t k => X.arraylength B.1 (by rw [eT]; exact A.1) (State.isArrayOf_alike B.2.1.alike A.2.1) (g := mkF m pc Ls (.ref a :: st)) rfl rfl (hb B.2.2.1 hd) t (by rw [e1]; exact k)) g
theorem giastore (B : Fix p Z s m meth c bytes maxL own nm ret) (X : St p l e R s m args below meth c h0 ws T h cells slots) {a : Addr} {vs vs' : List Value} {j : Int32} {x : Int32} {i n : Nat} (A : VA Z h a .int vs) (hn : vs.length = n) (hj : 0 ≤ j.toInt ∧ j.toInt < n) (hi : j.toNatClampNeg = i) (hvs : vs.set i (.int x) = vs') (ha : a ∈ ws ∨ h0.size ≤ a) (hd : decode bytes pc = .ok (.iastore, 1)) (hp : pc' = pc + 1) (g : ∀ T' h', St p l e R s m args below meth c h0 ws T' h' cells slots → Wr h h' a i (.int x) → VA Z h' a .int vs' → Go p e below s K N h0 ws Q T' (mkF m pc' Ls st)) : Go p e below s K N h0 ws Q T (mkF m pc Ls (.int x :: .int j :: .ref a :: st)) := by
  subst hp; subst hi; subst hvs; subst hn; obtain ⟨L, X, eT, KK, FF⟩ := X; have A0 := A; obtain ⟨cl, A, r, n⟩ := A
  obtain ⟨T', h', X', e', W, k⟩ := stI X B.1 B.2.1 eT A (by rw [r]; exact inb (by simpa using hj)) (g := mkF m pc Ls (.int x :: .int j :: .ref a :: st)) rfl rfl (hb B.2.2.1 hd)
  exact Go.to k (g T' h' ⟨_, X', e', KK.wr W ha, fun y hy => (List.mem_append.mp hy).elim (FF y) fun q => by cases List.mem_singleton.mp q; exact ha⟩ W (A0.set W))
theorem glastore (B : Fix p Z s m meth c bytes maxL own nm ret) (X : St p l e R s m args below meth c h0 ws T h cells slots) {a : Addr} {vs vs' : List Value} {j : Int32} {x : Int64} {i n : Nat} (A : VA Z h a .long vs) (hn : vs.length = n) (hj : 0 ≤ j.toInt ∧ j.toInt < n) (hi : j.toNatClampNeg = i) (hvs : vs.set i (.long x) = vs') (ha : a ∈ ws ∨ h0.size ≤ a) (hd : decode bytes pc = .ok (.lastore, 1)) (hp : pc' = pc + 1) (g : ∀ T' h', St p l e R s m args below meth c h0 ws T' h' cells slots → Wr h h' a i (.long x) → VA Z h' a .long vs' → Go p e below s K N h0 ws Q T' (mkF m pc' Ls st)) : Go p e below s K N h0 ws Q T (mkF m pc Ls (.long x :: .int j :: .ref a :: st)) := by
  subst hp; subst hi; subst hvs; subst hn; obtain ⟨L, X, eT, KK, FF⟩ := X; have A0 := A; obtain ⟨cl, A, r, n⟩ := A
  obtain ⟨T', h', X', e', W, k⟩ := stJ X B.1 B.2.1 eT A (by rw [r]; exact inb (by simpa using hj)) (g := mkF m pc Ls (.long x :: .int j :: .ref a :: st)) rfl rfl (hb B.2.2.1 hd)
  exact Go.to k (g T' h' ⟨_, X', e', KK.wr W ha, fun y hy => (List.mem_append.mp hy).elim (FF y) fun q => by cases List.mem_singleton.mp q; exact ha⟩ W (A0.set W))
theorem gbastore (B : Fix p Z s m meth c bytes maxL own nm ret) (X : St p l e R s m args below meth c h0 ws T h cells slots) {a : Addr} {vs vs' : List Value} {j : Int32} {x : Int32} {i n : Nat} (A : VA Z h a .byte vs) (hn : vs.length = n) (hj : 0 ≤ j.toInt ∧ j.toInt < n) (hi : j.toNatClampNeg = i) (hvs : vs.set i (.int x.toInt8.toInt32) = vs') (ha : a ∈ ws ∨ h0.size ≤ a) (hd : decode bytes pc = .ok (.bastore, 1)) (hp : pc' = pc + 1) (g : ∀ T' h', St p l e R s m args below meth c h0 ws T' h' cells slots → Wr h h' a i (.int x.toInt8.toInt32) → VA Z h' a .byte vs' → Go p e below s K N h0 ws Q T' (mkF m pc' Ls st)) : Go p e below s K N h0 ws Q T (mkF m pc Ls (.int x :: .int j :: .ref a :: st)) := by
  subst hp; subst hi; subst hvs; subst hn; obtain ⟨L, X, eT, KK, FF⟩ := X; have A0 := A; obtain ⟨cl, A, r, n⟩ := A
  obtain ⟨T', h', X', e', W, k⟩ := stB X B.1 B.2.1 eT A (by rw [r]; exact inb (by simpa using hj)) (g := mkF m pc Ls (.int x :: .int j :: .ref a :: st)) rfl rfl (hb B.2.2.1 hd)
  exact Go.to k (g T' h' ⟨_, X', e', KK.wr W ha, fun y hy => (List.mem_append.mp hy).elim (FF y) fun q => by cases List.mem_singleton.mp q; exact ha⟩ W (A0.set W))
theorem gzastore (B : Fix p Z s m meth c bytes maxL own nm ret) (X : St p l e R s m args below meth c h0 ws T h cells slots) {a : Addr} {vs vs' : List Value} {j : Int32} {x : Int32} {i n : Nat} (A : VA Z h a .boolean vs) (hn : vs.length = n) (hj : 0 ≤ j.toInt ∧ j.toInt < n) (hi : j.toNatClampNeg = i) (hvs : vs.set i (.int (x &&& 1)) = vs') (ha : a ∈ ws ∨ h0.size ≤ a) (hd : decode bytes pc = .ok (.bastore, 1)) (hp : pc' = pc + 1) (g : ∀ T' h', St p l e R s m args below meth c h0 ws T' h' cells slots → Wr h h' a i (.int (x &&& 1)) → VA Z h' a .boolean vs' → Go p e below s K N h0 ws Q T' (mkF m pc' Ls st)) : Go p e below s K N h0 ws Q T (mkF m pc Ls (.int x :: .int j :: .ref a :: st)) := by
  subst hp; subst hi; subst hvs; subst hn; obtain ⟨L, X, eT, KK, FF⟩ := X; have A0 := A; obtain ⟨cl, A, r, n⟩ := A
  obtain ⟨T', h', X', e', W, k⟩ := stZ X B.1 B.2.1 eT A (by rw [r]; exact inb (by simpa using hj)) (g := mkF m pc Ls (.int x :: .int j :: .ref a :: st)) rfl rfl (hb B.2.2.1 hd)
  exact Go.to k (g T' h' ⟨_, X', e', KK.wr W ha, fun y hy => (List.mem_append.mp hy).elim (FF y) fun q => by cases List.mem_singleton.mp q; exact ha⟩ W (A0.set W))
theorem gnewarray (B : Fix p Z s m meth c bytes maxL own nm ret) (X : St p l e R s m args below meth c h0 ws T h cells slots) {aty : ArrayType} {n : Int32} {cap : Nat} {vs : List Value} {ty : FieldType} (hty : newarray.typeOf aty = ty) (hvs : List.replicate n.toNatClampNeg (defaultValue ty) = vs) (w : (Cond.arrayClass ty).before a0 Z = true) (hn : 0 ≤ n.toInt) (hcap : n.toInt ≤ cap) (hb8 : cap * 8 ≤ 536870912) (hc : cells + 1 ≤ R.cells) (hl : slots + cap ≤ R.slots) (hd : decode bytes pc = .ok (.newarray aty, 2)) (hp : pc' = pc + 2) (g : ∀ T' h' a, St p l e R s m args below meth c h0 ws T' h' (cells + 1) (slots + cap) → a = h.size → Ext h h' → h0.size ≤ a → VA Z h' a ty vs → Go p e below s K N h0 ws Q T' (mkF m pc' Ls (.ref a :: st))) : Go p e below s K N h0 ws Q T (mkF m pc Ls (.int n :: st)) := by
  subst hp; subst hty; subst hvs; obtain ⟨L, X, eT, KK, FF⟩ := X
  have hn' : ¬ n < 0 := by rw [Int32.lt_iff_toInt_lt, show (0 : Int32).toInt = 0 from rfl]; omega
  obtain ⟨T', h', cA, X', e', E, A, k⟩ := newP X B.1 B.2.1 w eT (g := mkF m pc Ls (.int n :: st)) rfl (hb B.2.2.1 hd) rfl hn' (cap := cap) (by simp only [Int32.toNatClampNeg]; omega) hb8 hc hl
  exact Go.to k (g T' h' _ ⟨_, X', e', KK.ext E, FF⟩ rfl E KK.1 (VA.new A hn'))
theorem gget (B : Fix p Z s m meth c bytes maxL own nm ret) (X : St p l e R s m args below meth c h0 ws T h cells slots) {a : Addr} {i : Nat} {C n d : String} {v : Value} (w : (Cond.fieldLink own i C n d).before a0 Z = true) (F : Fld Z h a C n d v) (hd : decode bytes pc = .ok (.getfield i, 3)) (hp : pc' = pc + 3) (g : ∀ T', St p l e R s m args below meth c h0 ws T' h cells slots → Go p e below s K N h0 ws Q T' (mkF m pc' Ls (v :: st))) : Go p e below s K N h0 ws Q T (mkF m pc Ls (.ref a :: st)) := by
  subst hp; obtain ⟨L, X, eT, r⟩ := X
  obtain ⟨T', X', e', k⟩ := getF X B.1 B.2.1 B.2.2.2.2.1 (host := "") (Or.inl w) Via.refl eT F (g := mkF m pc Ls (.ref a :: st)) rfl rfl (hb B.2.2.1 hd)
  exact Go.to k (g T' ⟨L, X', e', r⟩)
theorem gput (B : Fix p Z s m meth c bytes maxL own nm ret) (X : St p l e R s m args below meth c h0 ws T h cells slots) {a : Addr} {i kk : Nat} {C O n d : String} {ty : FieldType} {v old : Value} (w : (Cond.fieldLink own i O n d).before a0 Z = true) (F : Fld Z h a O n d old) (E : Exa Z h a C) (L : (Cond.lays C O n d).before a0 Z = true ∨ ((Cond.laysFinal C O n d).before a0 Z = true ∧ own = O ∧ nm = "<init>")) (wi : (Cond.instantiable C kk).before a0 Z = true) (hty : parseFieldDescriptor d = some ty) (hn : narrow ty v = v) (hf : fits ty v = true) (ha : a ∈ ws ∨ h0.size ≤ a) (hd : decode bytes pc = .ok (.putfield i, 3)) (hp : pc' = pc + 3) (g : ∀ T' h', St p l e R s m args below meth c h0 ws T' h' cells slots → Wr h h' a (Jvm.RoadKit.slotOf Z O n d) v → Go p e below s K N h0 ws Q T' (mkF m pc' Ls st)) : Go p e below s K N h0 ws Q T (mkF m pc Ls (v :: .ref a :: st)) := by
  subst hp; obtain ⟨L0, X, eT, KK, FF⟩ := X
  obtain ⟨T', h', X', e', W, k⟩ := putF X B.1 B.2.1 B.2.2.2.2.1 (host := "") (Or.inl w) Via.refl eT F E (L.imp id fun q => ⟨q.1, q.2.1, B.2.2.2.2.2.1.trans q.2.2⟩) wi hty hn hf (g := mkF m pc Ls (v :: .ref a :: st)) rfl rfl (hb B.2.2.1 hd)
  exact Go.to k (g T' h' ⟨_, X', e', KK.wr W ha, fun y hy => (List.mem_append.mp hy).elim (FF y) fun q => by cases List.mem_singleton.mp q; exact ha⟩ W)
theorem gnew (B : Fix p Z s m meth c bytes maxL own nm ret) (X : St p l e R s m args below meth c h0 ws T h cells slots) {i n : Nat} {C : String} (w : (Cond.classLink own i C).before a0 Z = true) (wi : (Cond.instantiable C n).before a0 Z = true) (wz : (Cond.initialized C).before a0 Z = true) (hc : cells + 1 ≤ R.cells) (hl : slots + n ≤ R.slots) (hd : decode bytes pc = .ok (.new i, 3)) (hp : pc' = pc + 3) (g : ∀ T' h' a, St p l e R s m args below meth c h0 ws T' h' (cells + 1) (slots + n) → a = h.size → Ext h h' → h0.size ≤ a → Exa Z h' a C → (∀ {O nm d : String} {ty : FieldType}, Laid Z a0 C O nm d → parseFieldDescriptor d = some ty → Fld Z h' a O nm d (defaultValue ty)) → Go p e below s K N h0 ws Q T' (mkF m pc' Ls (.ref a :: st))) : Go p e below s K N h0 ws Q T (mkF m pc Ls st) := by
  subst hp; obtain ⟨L0, X, eT, KK, FF⟩ := X
  obtain ⟨T', h', X', e', E, A, D, -, k⟩ := newO X B.1 B.2.1 B.2.2.2.2.1 w wi wz eT (g := mkF m pc Ls st) rfl (hb B.2.2.1 hd) hc hl
  exact Go.to k (g T' h' _ ⟨_, X', e', KK.ext E, FF⟩ rfl E KK.1 A D)
theorem ginitO (B : Fix p Z s m meth c bytes maxL own nm ret) (X : St p l e R s m args below meth c h0 ws T h cells slots) {a : Addr} {i W : Nat} (w1 : (Cond.methodLink own i Lib.objectInit).before a0 Z = true) (w2 : (Cond.instanceMethod Lib.objectInit).before a0 Z = true) (w3 : (Cond.code Lib.objectInit ⟨#[0xb1]⟩ 1 none).before a0 Z = true) (hsz : Ls.size = maxL) (hf : 1 ≤ R.frames) (hW : (st.map fun v => v.category).sum ≤ W) (hl : W + 12 ≤ R.locals) (hd : decode bytes pc = .ok (.invokespecial i, 3)) (hp : pc' = pc + 3) (g : ∀ T', St p l e R s m args below meth c h0 ws T' h cells slots → Go p e below s K N h0 ws Q T' (mkF m pc' Ls st)) : Go p e below s K N h0 ws Q T (mkF m pc Ls (.ref a :: st)) := by
  subst hp; obtain ⟨L0, X, eT, r⟩ := X
  obtain ⟨T', X', e', k⟩ := initO X B.1 B.2.1 B.2.2.2.2.1 w1 w2 w3 eT (g := mkF m pc Ls (.ref a :: st)) rfl (hsz.trans B.2.2.2.1.symm) rfl (hb B.2.2.1 hd) hf (W := W) (by show 2 * 0 + _ ≤ _; rw [Nat.mul_zero, Nat.zero_add]; exact hW) hl
  exact Go.to k (g T' ⟨L0, X', e', r⟩)
theorem gcallS (B : Fix p Z s m meth c bytes maxL own nm ret) (X : St p l e R s m args below meth c h0 ws T h cells slots) {y : MethodName} {bytes' : ByteArray} {maxL' : Nat} {ret' : Option FieldType} {rm : Room} {ws' : List Addr} {Q' : Option Value → Heap → Prop} {stk argsL : List Value} {i W : Nat} {ps : List FieldType} {rr : Option FieldType}  (w1 : (Cond.methodLink own i y).before a0 Z = true) (w2 : (Cond.static y).before a0 Z = true) (w3 : (Cond.initialized y.cls).before a0 Z = true) (w4 : (Cond.code y bytes' maxL' ret').before a0 Z = true) (hy : y.cls ≠ "java/lang/invoke/MethodHandle" ∧ y.cls ≠ "java/lang/invoke/VarHandle") (M : Meth l Z y bytes' maxL' ret' rm argsL.toArray h ws' Q') (hpd : parseMethodDescriptor y.desc = some ⟨ps, rr⟩) (hlen : argsL.length = ps.length) (hstk : stk = argsL.reverse ++ st) (hsz : Ls.size = maxL) (hW : (st.map fun v => v.category).sum ≤ W) (hfr : rm.frames + 1 ≤ R.frames) (hlo : W + (maxL' + 11) + rm.locals ≤ R.locals) (hcs : cells + rm.cells ≤ R.cells) (hss : slots + rm.slots ≤ R.slots) (hws : ∀ x ∈ ws', x ∈ ws ∨ h0.size ≤ x) (hd : decode bytes pc = .ok (.invokestatic i, 3)) (hp : pc' = pc + 3)
    (g : ∀ T' h' v, St p l e R s m args below meth c h0 ws T' h' (cells + rm.cells) (slots + rm.slots) → Keep h h' ws' → Q' v h' → Go p e below s K N h0 ws Q T' (mkF m pc' Ls (v.toList ++ st))) : Go p e below s K N h0 ws Q T (mkF m pc Ls stk) := by
  subst hp; subst hstk; obtain ⟨L0, X, eT, KK, FF⟩ := X
  obtain ⟨v2, _, ⟨T2, L2, c2, n2⟩, -, X2, ⟨Lc2, hq, l2, y2, z2⟩, k2⟩ := Jvm.LawKit.callS X B.1 (y := y) B.2.2.2.2.1 (mvT B.2.1 w1) (mvT B.2.1 w2) (mvT B.2.1 w3) (mvT B.2.1 w4) hy (backOf (W := W) (Q := fun v h' L => Q' v h' ∧ Keep h h' ws' ∧ FrW h ws' L) (M []) B.2.1 w4 w3 hfr hlo) (g := mkF m pc Ls (argsL.reverse ++ st)) rfl (hsz.trans B.2.2.2.1.symm) (argsL := argsL) (rest := st) (lenOf hpd hlen) rfl (by show 2 * 0 + _ ≤ _; rw [Nat.mul_zero, Nat.zero_add]; exact hW) (hb B.2.2.1 hd) (fun _ _ => ⟨rfl, eT, hcs, hss⟩)
  dsimp only [Pt.U, Pt.locs, Pt.cells, Pt.slots] at X2 l2 y2 z2 k2 hq
  subst l2 y2 z2
  refine Go.to k2 (g T2 T2.heap v2 ⟨_, X2, rfl, KK.trans hq.2.1 hws, fun y hy => (List.mem_append.mp hy).elim (FF y) fun q => ?_⟩ hq.2.1 hq.1)
  exact (hq.2.2 y q).elim (fun z => hws _ z) fun z => Or.inr (Nat.le_trans KK.1 z)
theorem gcallI (B : Fix p Z s m meth c bytes maxL own nm ret) (X : St p l e R s m args below meth c h0 ws T h cells slots) {y : MethodName} {bytes' : ByteArray} {maxL' : Nat} {ret' : Option FieldType} {rm : Room} {ws' : List Addr} {Q' : Option Value → Heap → Prop} {stk argsL : List Value} {i W : Nat} {ps : List FieldType} {rr : Option FieldType} {a : Addr} (hni : y.name = "<init>") (hret : ret' = none) (w1 : (Cond.methodLink own i y).before a0 Z = true) (w2 : (Cond.instanceMethod y).before a0 Z = true) (w3 : (Cond.initialized y.cls).before a0 Z = true) (w4 : (Cond.code y bytes' maxL' ret').before a0 Z = true) (hy : y.cls ≠ "java/lang/invoke/MethodHandle" ∧ y.cls ≠ "java/lang/invoke/VarHandle") (M : Meth l Z y bytes' maxL' ret' rm (.ref a :: argsL).toArray h ws' Q') (hpd : parseMethodDescriptor y.desc = some ⟨ps, rr⟩) (hlen : argsL.length = ps.length) (hstk : stk = argsL.reverse ++ .ref a :: st) (hsz : Ls.size = maxL) (hW : (st.map fun v => v.category).sum ≤ W) (hfr : rm.frames + 1 ≤ R.frames) (hlo : W + (maxL' + 11) + rm.locals ≤ R.locals) (hcs : cells + rm.cells ≤ R.cells) (hss : slots + rm.slots ≤ R.slots) (hws : ∀ x ∈ ws', x ∈ ws ∨ h0.size ≤ x) (hd : decode bytes pc = .ok (.invokespecial i, 3)) (hp : pc' = pc + 3)
    (g : ∀ T' h' v, St p l e R s m args below meth c h0 ws T' h' (cells + rm.cells) (slots + rm.slots) → Keep h h' ws' → Q' v h' → Go p e below s K N h0 ws Q T' (mkF m pc' Ls (v.toList ++ st))) : Go p e below s K N h0 ws Q T (mkF m pc Ls stk) := by
  subst hp; subst hstk; obtain ⟨L0, X, eT, KK, FF⟩ := X
  subst hret
  obtain ⟨v2, _, ⟨T2, L2, c2, n2⟩, -, X2, ⟨Lc2, hq, l2, y2, z2⟩, k2⟩ := X.specialBack B.1 (y := y) hni B.2.2.2.2.1 (mvT B.2.1 w1) (mvT B.2.1 w2) (mvT B.2.1 w4) hy (backOf (W := W) (Q := fun v h' L => Q' v h' ∧ Keep h h' ws' ∧ FrW h ws' L) (M []) B.2.1 w4 w3 hfr hlo) (g := mkF m pc Ls (argsL.reverse ++ .ref a :: st)) rfl (hsz.trans B.2.2.2.1.symm) (Steps.refl _) (a := a) (argsL := argsL) (rest := st) (lenOf hpd hlen) rfl (by show 2 * 0 + _ ≤ _; rw [Nat.mul_zero, Nat.zero_add]; exact hW) (hb B.2.2.1 hd) (fun _ _ => ⟨rfl, eT, hcs, hss⟩)
  dsimp only [Pt.U, Pt.locs, Pt.cells, Pt.slots] at X2 l2 y2 z2 k2 hq
  subst l2 y2 z2
  refine Go.to (fun t kt => k2.trans kt) (g T2 T2.heap v2 ⟨_, X2, rfl, KK.trans hq.2.1 hws, fun y hy => (List.mem_append.mp hy).elim (FF y) fun q => ?_⟩ hq.2.1 hq.1)
  exact (hq.2.2 y q).elim (fun z => hws _ z) fun z => Or.inr (Nat.le_trans KK.1 z)
theorem gcallV (B : Fix p Z s m meth c bytes maxL own nm ret) (X : St p l e R s m args below meth c h0 ws T h cells slots) {y : MethodName} {bytes' : ByteArray} {maxL' : Nat} {ret' : Option FieldType} {rm : Room} {ws' : List Addr} {Q' : Option Value → Heap → Prop} {stk argsL : List Value} {i W : Nat} {ps : List FieldType} {rr : Option FieldType} {a : Addr} {z : MethodName} {C : String} (E : Exa Z h a C) (w1 : (Cond.methodLink own i y).before a0 Z = true) (w2 : (Cond.declares y).before a0 Z = true) (w5 : (Cond.selects C y z).before a0 Z = true) (w6 : (Cond.instanceMethod z).before a0 Z = true) (w3 : (Cond.initialized z.cls).before a0 Z = true) (w4 : (Cond.code z bytes' maxL' ret').before a0 Z = true) (hyz : y = z) (hy : y.cls ≠ "java/lang/invoke/MethodHandle" ∧ y.cls ≠ "java/lang/invoke/VarHandle") (M : Meth l Z z bytes' maxL' ret' rm (.ref a :: argsL).toArray h ws' Q') (hpd : parseMethodDescriptor y.desc = some ⟨ps, rr⟩) (hlen : argsL.length = ps.length) (hstk : stk = argsL.reverse ++ .ref a :: st) (hsz : Ls.size = maxL) (hW : (st.map fun v => v.category).sum ≤ W) (hfr : rm.frames + 1 ≤ R.frames) (hlo : W + (maxL' + 11) + rm.locals ≤ R.locals) (hcs : cells + rm.cells ≤ R.cells) (hss : slots + rm.slots ≤ R.slots) (hws : ∀ x ∈ ws', x ∈ ws ∨ h0.size ≤ x) (hd : decode bytes pc = .ok (.invokevirtual i, 3)) (hp : pc' = pc + 3)
    (g : ∀ T' h' v, St p l e R s m args below meth c h0 ws T' h' (cells + rm.cells) (slots + rm.slots) → Keep h h' ws' → Q' v h' → Go p e below s K N h0 ws Q T' (mkF m pc' Ls (v.toList ++ st))) : Go p e below s K N h0 ws Q T (mkF m pc Ls stk) := by
  subst hp; subst hstk; obtain ⟨L0, X, eT, KK, FF⟩ := X
  subst hyz
  obtain ⟨cq, kq, qa, qb, qc⟩ := isOf B.2.1 eT E
  obtain ⟨v2, _, ⟨T2, L2, c2, n2⟩, -, X2, ⟨Lc2, hq, l2, y2, z2⟩, k2⟩ := X.virtualBack B.1 (y := y) (z := y) B.2.2.2.2.1 (mvT B.2.1 w1) (mvT B.2.1 w2) (notFace_of_selects (args := #[]) (mvT B.2.1 w5)) (mvT B.2.1 w5) (mvT B.2.1 w6) hy (backOf (W := W) (Q := fun v h' L => Q' v h' ∧ Keep h h' ws' ∧ FrW h ws' L) (M []) B.2.1 w4 w3 hfr hlo) qa qc (g := mkF m pc Ls (argsL.reverse ++ .ref a :: st)) rfl (hsz.trans B.2.2.2.1.symm) (Steps.refl _) (argsL := argsL) (rest := st) (lenOf hpd hlen) rfl (by show 2 * 0 + _ ≤ _; rw [Nat.mul_zero, Nat.zero_add]; exact hW) (hb B.2.2.1 hd) (fun _ _ => ⟨rfl, eT, hcs, hss⟩)
  dsimp only [Pt.U, Pt.locs, Pt.cells, Pt.slots] at X2 l2 y2 z2 k2 hq
  subst l2 y2 z2
  refine Go.to (fun t kt => k2.trans kt) (g T2 T2.heap v2 ⟨_, X2, rfl, KK.trans hq.2.1 hws, fun y hy => (List.mem_append.mp hy).elim (FF y) fun q => ?_⟩ hq.2.1 hq.1)
  exact (hq.2.2 y q).elim (fun z => hws _ z) fun z => Or.inr (Nat.le_trans KK.1 z)
theorem gcallP (B : Fix p Z s m meth c bytes maxL own nm ret) (X : St p l e R s m args below meth c h0 ws T h cells slots) {y : MethodName} {bytes' : ByteArray} {maxL' : Nat} {ret' : Option FieldType} {rm : Room} {ws' : List Addr} {Q' : Option Value → Heap → Prop} {stk argsL : List Value} {i W : Nat} {ps : List FieldType} {rr : Option FieldType} {a : Addr} {C : String} (E : Exa Z h a C) (w1 : (Cond.methodLink own i y).before a0 Z = true) (w2 : (Cond.instanceMethod y).before a0 Z = true) (w5 : (Cond.selects y.cls y y).before a0 Z = true) (w6 : (Cond.privateMethod y).before a0 Z = true) (w3 : (Cond.initialized y.cls).before a0 Z = true) (w4 : (Cond.code y bytes' maxL' ret').before a0 Z = true) (hy : y.cls ≠ "java/lang/invoke/MethodHandle" ∧ y.cls ≠ "java/lang/invoke/VarHandle") (M : Meth l Z y bytes' maxL' ret' rm (.ref a :: argsL).toArray h ws' Q') (hpd : parseMethodDescriptor y.desc = some ⟨ps, rr⟩) (hlen : argsL.length = ps.length) (hstk : stk = argsL.reverse ++ .ref a :: st) (hsz : Ls.size = maxL) (hW : (st.map fun v => v.category).sum ≤ W) (hfr : rm.frames + 1 ≤ R.frames) (hlo : W + (maxL' + 11) + rm.locals ≤ R.locals) (hcs : cells + rm.cells ≤ R.cells) (hss : slots + rm.slots ≤ R.slots) (hws : ∀ x ∈ ws', x ∈ ws ∨ h0.size ≤ x) (hd : decode bytes pc = .ok (.invokevirtual i, 3)) (hp : pc' = pc + 3)
    (g : ∀ T' h' v, St p l e R s m args below meth c h0 ws T' h' (cells + rm.cells) (slots + rm.slots) → Keep h h' ws' → Q' v h' → Go p e below s K N h0 ws Q T' (mkF m pc' Ls (v.toList ++ st))) : Go p e below s K N h0 ws Q T (mkF m pc Ls stk) := by
  subst hp; subst hstk; obtain ⟨L0, X, eT, KK, FF⟩ := X
  obtain ⟨cq, q, q'⟩ := E.cell
  obtain ⟨v2, _, ⟨T2, L2, c2, n2⟩, -, X2, ⟨Lc2, hq, l2, y2, z2⟩, k2⟩ := X.privateBack B.1 (y := y) B.2.2.2.2.1 (mvT B.2.1 w1) (mvT B.2.1 w2) (mvT B.2.1 w5) (Cond.privateMethod_at (mvP B.2.1 w6 (args := #[]))) (mvT B.2.1 w4) hy (backOf (W := W) (Q := fun v h' L => Q' v h' ∧ Keep h h' ws' ∧ FrW h ws' L) (M []) B.2.1 w4 w3 hfr hlo) (g := mkF m pc Ls (argsL.reverse ++ .ref a :: st)) rfl (hsz.trans B.2.2.2.1.symm) (Steps.refl _) (a := a) (by rw [eT]; exact q) q' (argsL := argsL) (rest := st) (lenOf hpd hlen) rfl (by show 2 * 0 + _ ≤ _; rw [Nat.mul_zero, Nat.zero_add]; exact hW) (hb B.2.2.1 hd) (fun _ _ => ⟨rfl, eT, hcs, hss⟩)
  dsimp only [Pt.U, Pt.locs, Pt.cells, Pt.slots] at X2 l2 y2 z2 k2 hq
  subst l2 y2 z2
  refine Go.to (fun t kt => k2.trans kt) (g T2 T2.heap v2 ⟨_, X2, rfl, KK.trans hq.2.1 hws, fun y hy => (List.mem_append.mp hy).elim (FF y) fun q => ?_⟩ hq.2.1 hq.1)
  exact (hq.2.2 y q).elim (fun z => hws _ z) fun z => Or.inr (Nat.le_trans KK.1 z)
theorem pureG {rm : Room} {r : Value} {ws' : List Addr} (hc : rm.cells = 0) (hs : rm.slots = 0) (g : ∀ T', St p l e R s m args below meth c h0 ws T' h cells slots → Go p e below s K N h0 ws Q T' (mkF m pc' Ls (r :: st))) : ∀ T' h' v, St p l e R s m args below meth c h0 ws T' h' (cells + rm.cells) (slots + rm.slots) → Keep h h' ws' → (v = some r ∧ h' = h) → Go p e below s K N h0 ws Q T' (mkF m pc' Ls (v.toList ++ st)) := by
  rintro T' h' v X k ⟨rfl, rfl⟩
  rw [hc, hs] at X; exact g T' X
theorem pureV {rm : Room} {r : Value} {ws' : List Addr} (hc : rm.cells = 0) (hs : rm.slots = 0) (g : ∀ T', St p l e R s m args below meth c h0 ws T' h cells slots → Go p e below s K N h0 ws Q T' (mkF m pc' Ls st)) : ∀ T' h' v, St p l e R s m args below meth c h0 ws T' h' (cells + rm.cells) (slots + rm.slots) → Keep h h' ws' → (v = none ∧ h' = h) → Go p e below s K N h0 ws Q T' (mkF m pc' Ls (v.toList ++ st)) := by
  rintro T' h' v X k ⟨rfl, rfl⟩
  rw [hc, hs] at X; exact g T' X
theorem nbb (x : Int32) : x.toInt8.toInt32.toInt8.toInt32 = x.toInt8.toInt32 := by simp
theorem nb (x : Int32) : nar .byte x.toInt8.toInt32 = x.toInt8.toInt32 := by simp [nar]
theorem retI (X : Stand p l e R s m args below meth c T locs cells slots) (hx : p.tables.exec = Jvm.exec) {z : Int32} {rest : List Value} (hret : meth.sig.returnType = some .int) (hd : decode c.code pc = .ok (.ireturn, 1)) {fs : List Frame}
    (hl : ∀ (f : JFrame) (acts : List Action), f.method = m → f.locked = none → f.entered = [] → (doReturn e (T.setTop f) acts (some (.int z))).1 = T.setFrames fs) : Steps p.tables e below (T.setTop (mkF m pc Ls (.int z :: rest))) (T.setFrames fs) := by
  have hm' : T.vm.method? m = some meth := X.method'
  have hn : narrow .int (.int z) = .int z := rfl
  show Steps p.tables e below (T.setTop { method := m, pc := pc, locals := Ls, stack := _ :: rest, locked := none }) _
  jvm_step X.here [X.here.top, hx, hd, hm', hret, hn]
  first | (intro acts; rw [hl _ acts rfl rfl rfl]) | rw [hl _ _ rfl rfl rfl]
  exact Steps.refl _
theorem gretI (B : Fix p Z s m meth c bytes maxL own nm (some .int)) (X : St p l e R s m args below meth c h0 ws T h cells slots) {z : Int32} (hd : decode bytes pc = .ok (.ireturn, 1)) (hk : cells ≤ K) (hn : slots ≤ N) (hQ : Q (some (.int z)) h) : Go p e below s K N h0 ws Q T (mkF m pc Ls (.int z :: st)) := by
  obtain ⟨L0, X, eT, KK, FF⟩ := X; have hlk := B.2.2.2.2.2.2.2; have hrt := B.2.2.2.2.2.2.1
  obtain ⟨fs, hr, hrun, hended, hW, hsame⟩ := X.leave (v := some (.int z)) (fun h => by rw [hrt] at h; cases h) hlk
  exact ⟨_, _, retI X B.1 hrt (hb B.2.2.1 hd) hr, hrun, hended, _, _, rfl, ⟨by show Q _ T.heap; rw [eT]; exact hQ, by show Keep h0 T.heap ws; rw [eT]; exact KK, FF⟩, ⟨_, rfl⟩, hW, hsame.mono hk hn⟩
theorem gretN {t : FieldType} (B : Fix p Z s m meth c bytes maxL own nm (some t)) (X : St p l e R s m args below meth c h0 ws T h cells slots) {z z' : Int32} (ht : t = .boolean ∨ t = .byte ∨ t = .char ∨ t = .short) (hz : nar t z = z') (hd : decode bytes pc = .ok (.ireturn, 1)) (hk : cells ≤ K) (hn : slots ≤ N) (hQ : Q (some (.int z')) h) : Go p e below s K N h0 ws Q T (mkF m pc Ls (.int z :: st)) := by
  subst hz; obtain ⟨L0, X, eT, KK, FF⟩ := X; have hlk := B.2.2.2.2.2.2.2; have hrt := B.2.2.2.2.2.2.1
  obtain ⟨fs, hr, hrun, hended, hW, hsame⟩ := X.leave (v := some (.int (nar t z))) (fun h => by rw [hrt] at h; cases h) hlk
  exact ⟨_, _, retN X B.1 hrt ht (hb B.2.2.1 hd) hr, hrun, hended, _, _, rfl, ⟨by show Q _ T.heap; rw [eT]; exact hQ, by show Keep h0 T.heap ws; rw [eT]; exact KK, FF⟩, ⟨_, rfl⟩, hW, hsame.mono hk hn⟩
theorem gretL (B : Fix p Z s m meth c bytes maxL own nm (some .long)) (X : St p l e R s m args below meth c h0 ws T h cells slots) {z : Int64} (hd : decode bytes pc = .ok (.lreturn, 1)) (hk : cells ≤ K) (hn : slots ≤ N) (hQ : Q (some (.long z)) h) : Go p e below s K N h0 ws Q T (mkF m pc Ls (.long z :: st)) := by
  obtain ⟨L0, X, eT, KK, FF⟩ := X; have hlk := B.2.2.2.2.2.2.2; have hrt := B.2.2.2.2.2.2.1
  obtain ⟨fs, hr, hrun, hended, hW, hsame⟩ := X.leave (v := some (.long z)) (fun h => by rw [hrt] at h; cases h) hlk
  exact ⟨_, _, retOut X B.1 hrt rfl (Or.inr (Or.inl ⟨rfl, rfl, _, rfl⟩)) (hb B.2.2.1 hd) hr, hrun, hended, _, _, rfl, ⟨by show Q _ T.heap; rw [eT]; exact hQ, by show Keep h0 T.heap ws; rw [eT]; exact KK, FF⟩, ⟨_, rfl⟩, hW, hsame.mono hk hn⟩
theorem gretA {t : FieldType} (B : Fix p Z s m meth c bytes maxL own nm (some t)) (X : St p l e R s m args below meth c h0 ws T h cells slots) {a : Addr} (ht : t.isReference = true) (hnn : narrow t (.ref a) = .ref a) (hd : decode bytes pc = .ok (.areturn, 1)) (hk : cells ≤ K) (hn : slots ≤ N) (hQ : Q (some (.ref a)) h) : Go p e below s K N h0 ws Q T (mkF m pc Ls (.ref a :: st)) := by
  obtain ⟨L0, X, eT, KK, FF⟩ := X; have hlk := B.2.2.2.2.2.2.2; have hrt := B.2.2.2.2.2.2.1
  obtain ⟨fs, hr, hrun, hended, hW, hsame⟩ := X.leave (v := some (.ref a)) (fun h => by rw [hrt] at h; cases h) hlk
  exact ⟨_, _, retOut X B.1 hrt hnn (Or.inr (Or.inr (Or.inr (Or.inr ⟨rfl, ht, rfl⟩)))) (hb B.2.2.1 hd) hr, hrun, hended, _, _, rfl, ⟨by show Q _ T.heap; rw [eT]; exact hQ, by show Keep h0 T.heap ws; rw [eT]; exact KK, FF⟩, ⟨_, rfl⟩, hW, hsame.mono hk hn⟩
theorem gretV (B : Fix p Z s m meth c bytes maxL own nm none) (X : St p l e R s m args below meth c h0 ws T h cells slots)  (hd : decode bytes pc = .ok (.return_, 1)) (hk : cells ≤ K) (hn : slots ≤ N) (hQ : Q (none) h) : Go p e below s K N h0 ws Q T (mkF m pc Ls []) := by
  obtain ⟨L0, X, eT, KK, FF⟩ := X; have hlk := B.2.2.2.2.2.2.2; have hrt := B.2.2.2.2.2.2.1
  obtain ⟨fs, hr, hrun, hended, hW, hsame⟩ := X.leave (v := none) (fun h => rfl) hlk
  exact ⟨_, _, X.returnOut B.1 hrt (hb B.2.2.1 hd) hr, hrun, hended, _, _, rfl, ⟨by show Q _ T.heap; rw [eT]; exact hQ, by show Keep h0 T.heap ws; rw [eT]; exact KK, FF⟩, ⟨_, rfl⟩, hW, hsame.mono hk hn⟩
end Go
end Jvm.OwnKit
namespace Jvm.Pilot.@@N@@
open Jvm Jvm.ClassFile Sem Op Lib Jvm.Free Jvm.Stand Jvm.LawKit Jvm.RoadKit Jvm.OwnKit Bundle Jvm.Pilot.@@N@@.Jvm.D
def own_M : Int64 := -7046029254386353131
def own_g (h x : Int64) : Int64 := (h ^^^ x) * (-7046029254386353131 : Int64)
def own_st (h x : Int64) : Int64 := own_g h x ^^^ ((own_g h x).toUInt64 >>> (((29 : Int32) &&& 0x3f).toInt64).toUInt64).toInt64
theorem d1_0 : decode method_2_code 0 = .ok (.iload_n 2, 1) := by decide +kernel
theorem d1_1 : decode method_2_code 1 = .ok (.iload_n 3, 1) := by decide +kernel
theorem d1_2 : decode method_2_code 2 = .ok (.if_icmp .lt 9, 3) := by decide +kernel
theorem d1_5 : decode method_2_code 5 = .ok (.lload_n 0, 1) := by decide +kernel
theorem d1_6 : decode method_2_code 6 = .ok (.ldc2_w 7, 3) := by decide +kernel
theorem d1_9 : decode method_2_code 9 = .ok (.lxor, 1) := by decide +kernel
theorem d1_10 : decode method_2_code 10 = .ok (.lreturn, 1) := by decide +kernel
theorem d1_11 : decode method_2_code 11 = .ok (.iload_n 2, 1) := by decide +kernel
theorem d1_12 : decode method_2_code 12 = .ok (.iload 4, 2) := by decide +kernel
theorem d1_14 : decode method_2_code 14 = .ok (.if_icmp .ne 8, 3) := by decide +kernel
theorem d1_17 : decode method_2_code 17 = .ok (.lload_n 0, 1) := by decide +kernel
theorem d1_18 : decode method_2_code 18 = .ok (.lload 5, 2) := by decide +kernel
theorem d1_20 : decode method_2_code 20 = .ok (.lxor, 1) := by decide +kernel
theorem d1_21 : decode method_2_code 21 = .ok (.lreturn, 1) := by decide +kernel
theorem d1_22 : decode method_2_code 22 = .ok (.lload_n 0, 1) := by decide +kernel
theorem d1_23 : decode method_2_code 23 = .ok (.lreturn, 1) := by decide +kernel
theorem pn1 : plainFor (⟨"com/example/bisim_for_markov/bisimformarkov/analysis/RowTableHashPinLaw", "other", "(JIIIJ)J"⟩ : MethodName) = true := plainFor_of_name (by first | (simp [plainName, overriddenIn]; done) | decide +kernel)
theorem ef1_JIIIJ (m : MethodId) (x0 : Int64) (x1 : Int32) (x2 : Int32) (x3 : Int32) (x4 : Int64) : entryFrame m #[(.long x0), (.int x1), (.int x2), (.int x3), (.long x4)] 7 = mkF m 0 #[.val (.long x0), .second, .val (.int x1), .val (.int x2), .val (.int x3), .val (.long x4), .second] [] := by first | (simp [entryFrame, mkF, argsToLocals, Value.category]; done) | rfl
def f1 (v : Int64) (j : Int32) (len : Int32) (q : Int32) (d : Int64) : Int64 := if j < len then (if j = q then (v ^^^ d) else (v)) else ((v ^^^ (-1 : Int64)))
def rmr1 : Room := { frames := 0, cells := 0, slots := 0, locals := 0 }
set_option maxRecDepth 65536 in
set_option maxHeartbeats 4000000 in
theorem mt1 (l : Launch) (Z : State) (a0 : Array Value) (hw : ∀ d ∈ tables_1, d.before a0 Z = true) (v : Int64) (j : Int32) (len : Int32) (q : Int32) (d : Int64)  (h0 : Heap) : Meth l Z (⟨"com/example/bisim_for_markov/bisimformarkov/analysis/RowTableHashPinLaw", "other", "(JIIIJ)J"⟩ : MethodName) method_2_code 7 (some .long) rmr1 #[(.long v), (.int j), (.int len), (.int q), (.long d)] h0 [] (fun vr h' => vr = some (.long (f1 v j len q d)) ∧ h' = h0) := by
  refine Meth.of pn1 ?_
  intro p e s m below meth c T B X
  refine Go.entry (ef1_JIIIJ m v j len q d) ?_
  refine giloadN B X d1_0 rfl (pc' := 1) rfl ?_
  refine giloadN B X d1_1 rfl (pc' := 2) rfl ?_
  by_cases c2_1 : j < len
  · refine gicY B X (pc' := 11) d1_2 (tlt c2_1).1 (by decide) ?_
    refine giloadN B X d1_11 rfl (pc' := 12) rfl ?_
    refine giload B X d1_12 rfl (pc' := 14) rfl ?_
    by_cases c14_2 : j = q
    · refine gicN B X d1_14 (teq c14_2).2 (pc' := 17) rfl ?_
      refine glloadN B X d1_17 rfl (pc' := 18) rfl ?_
      refine glload B X d1_18 rfl (pc' := 20) rfl ?_
      refine glxor B X d1_20 rfl (pc' := 21) rfl ?_
      exact gretL B X d1_21 (by decide) (by decide) (⟨by rw [f1, if_pos c2_1, if_pos c14_2], rfl⟩)
    · refine gicY B X (pc' := 22) d1_14 (feq c14_2).2 (by decide) ?_
      refine glloadN B X d1_22 rfl (pc' := 23) rfl ?_
      exact gretL B X d1_23 (by decide) (by decide) (⟨by rw [f1, if_pos c2_1, if_neg c14_2], rfl⟩)
  · refine gicN B X d1_2 (flt c2_1).1 (pc' := 5) rfl ?_
    refine glloadN B X d1_5 rfl (pc' := 6) rfl ?_
    refine gldc2 B X (v := (-1 : Int64)) (hw _ (List.mem_of_getElem? (i := 5) rfl)) d1_6 (pc' := 9) rfl ?_
    refine glxor B X d1_9 rfl (pc' := 10) rfl ?_
    exact gretL B X d1_10 (by decide) (by decide) (⟨by rw [f1, if_neg c2_1], rfl⟩)
theorem d2_0 : decode prog_64_method_6_code 0 = .ok (.lload_n 0, 1) := by decide +kernel
theorem d2_1 : decode prog_64_method_6_code 1 = .ok (.ldc2_w 82, 3) := by decide +kernel
theorem d2_4 : decode prog_64_method_6_code 4 = .ok (.lmul, 1) := by decide +kernel
theorem d2_5 : decode prog_64_method_6_code 5 = .ok (.lstore 4, 2) := by decide +kernel
theorem d2_7 : decode prog_64_method_6_code 7 = .ok (.iconst 0, 1) := by decide +kernel
theorem d2_8 : decode prog_64_method_6_code 8 = .ok (.istore 6, 2) := by decide +kernel
theorem d2_10 : decode prog_64_method_6_code 10 = .ok (.iload 6, 2) := by decide +kernel
theorem d2_12 : decode prog_64_method_6_code 12 = .ok (.iload_n 3, 1) := by decide +kernel
theorem d2_13 : decode prog_64_method_6_code 13 = .ok (.if_icmp .ge 32, 3) := by decide +kernel
theorem d2_16 : decode prog_64_method_6_code 16 = .ok (.lload 4, 2) := by decide +kernel
theorem d2_18 : decode prog_64_method_6_code 18 = .ok (.aload_n 2, 1) := by decide +kernel
theorem d2_19 : decode prog_64_method_6_code 19 = .ok (.iload 6, 2) := by decide +kernel
theorem d2_21 : decode prog_64_method_6_code 21 = .ok (.laload, 1) := by decide +kernel
theorem d2_22 : decode prog_64_method_6_code 22 = .ok (.lxor, 1) := by decide +kernel
theorem d2_23 : decode prog_64_method_6_code 23 = .ok (.ldc2_w 82, 3) := by decide +kernel
theorem d2_26 : decode prog_64_method_6_code 26 = .ok (.lmul, 1) := by decide +kernel
theorem d2_27 : decode prog_64_method_6_code 27 = .ok (.lstore 4, 2) := by decide +kernel
theorem d2_29 : decode prog_64_method_6_code 29 = .ok (.lload 4, 2) := by decide +kernel
theorem d2_31 : decode prog_64_method_6_code 31 = .ok (.lload 4, 2) := by decide +kernel
theorem d2_33 : decode prog_64_method_6_code 33 = .ok (.bipush 29, 2) := by decide +kernel
theorem d2_35 : decode prog_64_method_6_code 35 = .ok (.lushr, 1) := by decide +kernel
theorem d2_36 : decode prog_64_method_6_code 36 = .ok (.lxor, 1) := by decide +kernel
theorem d2_37 : decode prog_64_method_6_code 37 = .ok (.lstore 4, 2) := by decide +kernel
theorem d2_39 : decode prog_64_method_6_code 39 = .ok (.iinc 6 1, 3) := by decide +kernel
theorem d2_42 : decode prog_64_method_6_code 42 = .ok (.goto (-32), 3) := by decide +kernel
theorem d2_45 : decode prog_64_method_6_code 45 = .ok (.lload 4, 2) := by decide +kernel
theorem d2_47 : decode prog_64_method_6_code 47 = .ok (.lreturn, 1) := by decide +kernel
theorem pn2 : plainFor (⟨"com/example/bisim_for_markov/bisimformarkov/analysis/RowTable", "hash", "(J[JI)J"⟩ : MethodName) = true := plainFor_of_name (by first | (simp [plainName, overriddenIn]; done) | decide +kernel)
theorem ef2_JRI (m : MethodId) (x0 : Int64) (x1 : Addr) (x2 : Int32) : entryFrame m #[(.long x0), (.ref x1), (.int x2)] 7 = mkF m 0 #[.val (.long x0), .second, .val (.ref x1), .val (.int x2), .unset, .unset, .unset] [] := by first | (simp [entryFrame, mkF, argsToLocals, Value.category]; done) | rfl
def f2 (t : Int64) (x0 : Int64) (x1 : Int64) (x2 : Int64) (len : Int32) : Int64 := if (0 : Int32) < len then (if (1 : Int32) < len then (if (2 : Int32) < len then (own_st (own_st (own_st (t * (-7046029254386353131 : Int64)) x0) x1) x2) else ((own_st (own_st (t * (-7046029254386353131 : Int64)) x0) x1))) else ((own_st (t * (-7046029254386353131 : Int64)) x0))) else ((t * (-7046029254386353131 : Int64)))
def rmr2 : Room := { frames := 0, cells := 0, slots := 0, locals := 0 }
set_option maxRecDepth 65536 in
set_option maxHeartbeats 4000000 in
theorem mt2 (l : Launch) (Z : State) (a0 : Array Value) (hw : ∀ d ∈ tables_1, d.before a0 Z = true) (t : Int64) (a : Addr) (len : Int32) (x0 x1 x2 x3 : Int64) (h0 : Heap) (F : VA Z h0 a .long [.long x0, .long x1, .long x2, .long x3]) (hl : ¬ (3 : Int32) < len) : Meth l Z (⟨"com/example/bisim_for_markov/bisimformarkov/analysis/RowTable", "hash", "(J[JI)J"⟩ : MethodName) prog_64_method_6_code 7 (some .long) rmr2 #[(.long t), (.ref a), (.int len)] h0 [] (fun vr h' => vr = some (.long (f2 t x0 x1 x2 len)) ∧ h' = h0) := by
  refine Meth.of pn2 ?_
  intro p e s m below meth c T B X
  refine Go.entry (ef2_JRI m t a len) ?_
  refine glloadN B X d2_0 rfl (pc' := 1) rfl ?_
  refine gldc2 B X (v := (-7046029254386353131 : Int64)) (hw _ (List.mem_of_getElem? (i := 10) rfl)) d2_1 (pc' := 4) rfl ?_
  refine glmul B X d2_4 rfl (pc' := 5) rfl ?_
  refine glstore B X d2_5 (Ls' := #[.val (.long t), .second, .val (.ref a), .val (.int len), .val (.long (t * (-7046029254386353131 : Int64))), .second, .unset]) rfl (pc' := 7) rfl ?_
  refine giconst B X d2_7 (v := (0 : Int32)) rfl (pc' := 8) rfl ?_
  refine gistore B X d2_8 (Ls' := #[.val (.long t), .second, .val (.ref a), .val (.int len), .val (.long (t * (-7046029254386353131 : Int64))), .second, .val (.int (0 : Int32))]) rfl (pc' := 10) rfl ?_
  refine giload B X d2_10 rfl (pc' := 12) rfl ?_
  refine giloadN B X d2_12 rfl (pc' := 13) rfl ?_
  by_cases c13_3 : (0 : Int32) < len
  · refine gicN B X d2_13 (tlt c13_3).2.1 (pc' := 16) rfl ?_
    refine glload B X d2_16 rfl (pc' := 18) rfl ?_
    refine galoadN B X d2_18 rfl rfl (pc' := 19) rfl ?_
    refine giload B X d2_19 rfl (pc' := 21) rfl ?_
    refine glaload B X (n := 4) F rfl (by decide) (v := (.long x0)) rfl d2_21 (pc' := 22) rfl ?_
    refine glxor B X d2_22 rfl (pc' := 23) rfl ?_
    refine gldc2 B X (v := (-7046029254386353131 : Int64)) (hw _ (List.mem_of_getElem? (i := 10) rfl)) d2_23 (pc' := 26) rfl ?_
    refine glmul B X d2_26 (v := (own_g (t * (-7046029254386353131 : Int64)) x0)) (rfl) (pc' := 27) rfl ?_
    refine glstore B X d2_27 (Ls' := #[.val (.long t), .second, .val (.ref a), .val (.int len), .val (.long (own_g (t * (-7046029254386353131 : Int64)) x0)), .second, .val (.int (0 : Int32))]) rfl (pc' := 29) rfl ?_
    refine glload B X d2_29 rfl (pc' := 31) rfl ?_
    refine glload B X d2_31 rfl (pc' := 33) rfl ?_
    refine gbipush B X d2_33 (v := (29 : Int32)) rfl (pc' := 35) rfl ?_
    refine glushr B X d2_35 rfl (pc' := 36) rfl ?_
    refine glxor B X d2_36 (v := (own_st (t * (-7046029254386353131 : Int64)) x0)) (rfl) (pc' := 37) rfl ?_
    refine glstore B X d2_37 (Ls' := #[.val (.long t), .second, .val (.ref a), .val (.int len), .val (.long (own_st (t * (-7046029254386353131 : Int64)) x0)), .second, .val (.int (0 : Int32))]) rfl (pc' := 39) rfl ?_
    refine giinc B X d2_39 rfl (v := (1 : Int32)) (by decide) (Ls' := #[.val (.long t), .second, .val (.ref a), .val (.int len), .val (.long (own_st (t * (-7046029254386353131 : Int64)) x0)), .second, .val (.int (1 : Int32))]) rfl (pc' := 42) rfl ?_
    refine ggoto B X (pc' := 10) d2_42 (by decide) ?_
    refine giload B X d2_10 rfl (pc' := 12) rfl ?_
    refine giloadN B X d2_12 rfl (pc' := 13) rfl ?_
    by_cases c13_4 : (1 : Int32) < len
    · refine gicN B X d2_13 (tlt c13_4).2.1 (pc' := 16) rfl ?_
      refine glload B X d2_16 rfl (pc' := 18) rfl ?_
      refine galoadN B X d2_18 rfl rfl (pc' := 19) rfl ?_
      refine giload B X d2_19 rfl (pc' := 21) rfl ?_
      refine glaload B X (n := 4) F rfl (by decide) (v := (.long x1)) rfl d2_21 (pc' := 22) rfl ?_
      refine glxor B X d2_22 rfl (pc' := 23) rfl ?_
      refine gldc2 B X (v := (-7046029254386353131 : Int64)) (hw _ (List.mem_of_getElem? (i := 10) rfl)) d2_23 (pc' := 26) rfl ?_
      refine glmul B X d2_26 (v := (own_g (own_st (t * (-7046029254386353131 : Int64)) x0) x1)) (rfl) (pc' := 27) rfl ?_
      refine glstore B X d2_27 (Ls' := #[.val (.long t), .second, .val (.ref a), .val (.int len), .val (.long (own_g (own_st (t * (-7046029254386353131 : Int64)) x0) x1)), .second, .val (.int (1 : Int32))]) rfl (pc' := 29) rfl ?_
      refine glload B X d2_29 rfl (pc' := 31) rfl ?_
      refine glload B X d2_31 rfl (pc' := 33) rfl ?_
      refine gbipush B X d2_33 (v := (29 : Int32)) rfl (pc' := 35) rfl ?_
      refine glushr B X d2_35 rfl (pc' := 36) rfl ?_
      refine glxor B X d2_36 (v := (own_st (own_st (t * (-7046029254386353131 : Int64)) x0) x1)) (rfl) (pc' := 37) rfl ?_
      refine glstore B X d2_37 (Ls' := #[.val (.long t), .second, .val (.ref a), .val (.int len), .val (.long (own_st (own_st (t * (-7046029254386353131 : Int64)) x0) x1)), .second, .val (.int (1 : Int32))]) rfl (pc' := 39) rfl ?_
      refine giinc B X d2_39 rfl (v := (2 : Int32)) (by decide) (Ls' := #[.val (.long t), .second, .val (.ref a), .val (.int len), .val (.long (own_st (own_st (t * (-7046029254386353131 : Int64)) x0) x1)), .second, .val (.int (2 : Int32))]) rfl (pc' := 42) rfl ?_
      refine ggoto B X (pc' := 10) d2_42 (by decide) ?_
      refine giload B X d2_10 rfl (pc' := 12) rfl ?_
      refine giloadN B X d2_12 rfl (pc' := 13) rfl ?_
      by_cases c13_5 : (2 : Int32) < len
      · refine gicN B X d2_13 (tlt c13_5).2.1 (pc' := 16) rfl ?_
        refine glload B X d2_16 rfl (pc' := 18) rfl ?_
        refine galoadN B X d2_18 rfl rfl (pc' := 19) rfl ?_
        refine giload B X d2_19 rfl (pc' := 21) rfl ?_
        refine glaload B X (n := 4) F rfl (by decide) (v := (.long x2)) rfl d2_21 (pc' := 22) rfl ?_
        refine glxor B X d2_22 rfl (pc' := 23) rfl ?_
        refine gldc2 B X (v := (-7046029254386353131 : Int64)) (hw _ (List.mem_of_getElem? (i := 10) rfl)) d2_23 (pc' := 26) rfl ?_
        refine glmul B X d2_26 (v := (own_g (own_st (own_st (t * (-7046029254386353131 : Int64)) x0) x1) x2)) (rfl) (pc' := 27) rfl ?_
        refine glstore B X d2_27 (Ls' := #[.val (.long t), .second, .val (.ref a), .val (.int len), .val (.long (own_g (own_st (own_st (t * (-7046029254386353131 : Int64)) x0) x1) x2)), .second, .val (.int (2 : Int32))]) rfl (pc' := 29) rfl ?_
        refine glload B X d2_29 rfl (pc' := 31) rfl ?_
        refine glload B X d2_31 rfl (pc' := 33) rfl ?_
        refine gbipush B X d2_33 (v := (29 : Int32)) rfl (pc' := 35) rfl ?_
        refine glushr B X d2_35 rfl (pc' := 36) rfl ?_
        refine glxor B X d2_36 (v := (own_st (own_st (own_st (t * (-7046029254386353131 : Int64)) x0) x1) x2)) (rfl) (pc' := 37) rfl ?_
        refine glstore B X d2_37 (Ls' := #[.val (.long t), .second, .val (.ref a), .val (.int len), .val (.long (own_st (own_st (own_st (t * (-7046029254386353131 : Int64)) x0) x1) x2)), .second, .val (.int (2 : Int32))]) rfl (pc' := 39) rfl ?_
        refine giinc B X d2_39 rfl (v := (3 : Int32)) (by decide) (Ls' := #[.val (.long t), .second, .val (.ref a), .val (.int len), .val (.long (own_st (own_st (own_st (t * (-7046029254386353131 : Int64)) x0) x1) x2)), .second, .val (.int (3 : Int32))]) rfl (pc' := 42) rfl ?_
        refine ggoto B X (pc' := 10) d2_42 (by decide) ?_
        refine giload B X d2_10 rfl (pc' := 12) rfl ?_
        refine giloadN B X d2_12 rfl (pc' := 13) rfl ?_
        have c13_6 : ¬ ((3 : Int32) < len) := hl
        refine gicY B X (pc' := 45) d2_13 (flt c13_6).2.1 (by decide) ?_
        refine glload B X d2_45 rfl (pc' := 47) rfl ?_
        exact gretL B X d2_47 (by decide) (by decide) (⟨by rw [f2, if_pos c13_3, if_pos c13_4, if_pos c13_5], rfl⟩)
      · refine gicY B X (pc' := 45) d2_13 (flt c13_5).2.1 (by decide) ?_
        refine glload B X d2_45 rfl (pc' := 47) rfl ?_
        exact gretL B X d2_47 (by decide) (by decide) (⟨by rw [f2, if_pos c13_3, if_pos c13_4, if_neg c13_5], rfl⟩)
    · refine gicY B X (pc' := 45) d2_13 (flt c13_4).2.1 (by decide) ?_
      refine glload B X d2_45 rfl (pc' := 47) rfl ?_
      exact gretL B X d2_47 (by decide) (by decide) (⟨by rw [f2, if_pos c13_3, if_neg c13_4], rfl⟩)
  · refine gicY B X (pc' := 45) d2_13 (flt c13_3).2.1 (by decide) ?_
    refine glload B X d2_45 rfl (pc' := 47) rfl ?_
    exact gretL B X d2_47 (by decide) (by decide) (⟨by rw [f2, if_neg c13_3], rfl⟩)
theorem own_xs (x : BitVec 64) : x = (x ^^^ (x >>> 29)) ^^^ ((x ^^^ (x >>> 29)) >>> 29) ^^^ ((x ^^^ (x >>> 29)) >>> 58) := by
  apply BitVec.eq_of_getLsbD_eq
  intro i hi
  simp only [BitVec.getLsbD_xor, BitVec.getLsbD_ushiftRight]
  have e1 : 29 + (29 + i) = 58 + i := by omega
  have e2 : x.getLsbD (29 + (58 + i)) = false := BitVec.getLsbD_of_ge _ _ (by omega)
  rw [e1, e2]
  cases x.getLsbD i <;> cases x.getLsbD (29 + i) <;> cases x.getLsbD (58 + i) <;> rfl
theorem own_sh (g : Int64) : ((g.toUInt64 >>> (((29 : Int32) &&& 0x3f).toInt64).toUInt64).toInt64).toBitVec = g.toBitVec >>> 29 := rfl
theorem own_inj {g g' : Int64} (h : g ^^^ (g.toUInt64 >>> (((29 : Int32) &&& 0x3f).toInt64).toUInt64).toInt64 = g' ^^^ (g'.toUInt64 >>> (((29 : Int32) &&& 0x3f).toInt64).toUInt64).toInt64) : g = g' := by
  have h2 := congrArg Int64.toBitVec h
  rw [Int64.toBitVec_xor, Int64.toBitVec_xor, own_sh, own_sh] at h2
  apply Int64.toBitVec_inj.mp
  rw [own_xs g.toBitVec, own_xs g'.toBitVec, h2]
theorem own_mul {a b : Int64} (h : a * (-7046029254386353131 : Int64) = b * (-7046029254386353131 : Int64)) : a = b := by
  have h2 : a * (-7046029254386353131 : Int64) * (-1018231460777725123 : Int64) = b * (-7046029254386353131 : Int64) * (-1018231460777725123 : Int64) := by rw [h]
  rw [Int64.mul_assoc, Int64.mul_assoc, show (-7046029254386353131 : Int64) * (-1018231460777725123 : Int64) = 1 from by decide +kernel, Int64.mul_one, Int64.mul_one] at h2
  exact h2
theorem own_xr {a b c : Int64} (h : a ^^^ c = b ^^^ c) : a = b := by
  have h2 : a ^^^ c ^^^ c = b ^^^ c ^^^ c := by rw [h]
  simpa [Int64.xor_assoc] using h2
theorem own_xl {a b c : Int64} (h : c ^^^ a = c ^^^ b) : a = b := own_xr (c := c) (by rw [Int64.xor_comm a, Int64.xor_comm b]; exact h)
theorem own_sti {h h' x : Int64} (e : own_st h x = own_st h' x) : h = h' := own_xr (own_mul (own_inj e))
theorem own_stx {h x x' : Int64} (e : own_st h x = own_st h x') : x = x' := own_xl (own_mul (own_inj e))
theorem own_d {x d : Int64} (e : x = x ^^^ d) : d = 0 := by
  refine (own_xl (c := x) ?_).symm
  rw [← e, Int64.xor_zero]
theorem own_13 (t t' x0 x1 x2 : Int64) (len : Int32) (e : f2 t x0 x1 x2 len = f2 t' x0 x1 x2 len) : t = t' := by
  unfold f2 at e
  split at e
  · split at e
    · split at e
      · exact own_mul (own_sti (own_sti (own_sti e)))
      · exact own_mul (own_sti (own_sti e))
    · exact own_mul (own_sti e)
  · exact own_mul e
theorem own_12 (t x0 x1 x2 : Int64) (len q : Int32) (d : Int64) (h0 : 0 ≤ len.toInt ∧ len.toInt ≤ 3) (hl : ¬ len = 0) (hq : 0 ≤ q.toInt ∧ q.toInt < len.toInt) (e : f2 t x0 x1 x2 len = f2 t (f1 x0 0 len q d) (f1 x1 1 len q d) (f1 x2 2 len q d) len) : d = 0 := by
  have z : len = 0 ↔ len.toInt = 0 := by rw [← Int32.toInt_inj]; rfl
  have q0 : (0 : Int32) = q ↔ q.toInt = 0 := by rw [← Int32.toInt_inj]; exact ⟨fun h => h.symm, fun h => h.symm⟩
  have q1 : (1 : Int32) = q ↔ q.toInt = 1 := by rw [← Int32.toInt_inj]; exact ⟨fun h => h.symm, fun h => h.symm⟩
  have q2 : (2 : Int32) = q ↔ q.toInt = 2 := by rw [← Int32.toInt_inj]; exact ⟨fun h => h.symm, fun h => h.symm⟩
  unfold f1 at e
  unfold f2 at e
  simp only [Int32.lt_iff_toInt_lt, Int32.reduceToInt, z, q0, q1, q2] at *
  have c : (len.toInt = 1 ∧ q.toInt = 0) ∨ (len.toInt = 2 ∧ q.toInt = 0) ∨ (len.toInt = 2 ∧ q.toInt = 1) ∨ (len.toInt = 3 ∧ q.toInt = 0) ∨ (len.toInt = 3 ∧ q.toInt = 1) ∨ (len.toInt = 3 ∧ q.toInt = 2) := by omega
  rcases c with ⟨a, b⟩ | ⟨a, b⟩ | ⟨a, b⟩ | ⟨a, b⟩ | ⟨a, b⟩ | ⟨a, b⟩ <;> simp [a, b] at e
  · exact own_d (own_stx e)
  · exact own_d (own_stx (own_sti e))
  · exact own_d (own_stx e)
  · exact own_d (own_stx (own_sti (own_sti e)))
  · exact own_d (own_stx (own_sti e))
  · exact own_d (own_stx e)
theorem own_same0 (t x0 x1 x2 y0 y1 y2 : Int64) (len : Int32) (hl : len = 0) : f2 t x0 x1 x2 len = f2 t y0 y1 y2 len := by
  subst hl; unfold f2; rw [if_neg (by decide), if_neg (by decide)]
theorem own_same (t x0 x1 x2 : Int64) (len q : Int32) (d : Int64) (h0 : 0 ≤ len.toInt ∧ len.toInt ≤ 3) (hd : d = 0) : f2 t x0 x1 x2 len = f2 t (f1 x0 0 len q d) (f1 x1 1 len q d) (f1 x2 2 len q d) len := by
  subst hd
  unfold f2 f1
  by_cases a : (0 : Int32) < len <;> by_cases b : (1 : Int32) < len <;> by_cases c : (2 : Int32) < len <;> simp [a, b, c]
theorem own_len (n : Int32) : 0 ≤ (n &&& 3).toInt ∧ (n &&& 3).toInt ≤ 3 := by
  have h := c_mask n 3 2 (by decide) (by decide)
  rw [h]; omega
theorem own_p (n len : Int32) (h0 : 0 ≤ len.toInt ∧ len.toInt ≤ 3) (hl : ¬ len = 0) : 0 ≤ (((n.toUInt32 >>> ((2 : Int32) &&& 31).toUInt32).toInt32) % len).toInt ∧ (((n.toUInt32 >>> ((2 : Int32) &&& 31).toUInt32).toInt32) % len).toInt < len.toInt := by
  have z : len = 0 ↔ len.toInt = 0 := by rw [← Int32.toInt_inj]; rfl
  have h1 := c_iushr n 2 2 (by decide) (by decide)
  rw [z] at hl
  have h2 := (c_irem ((n.toUInt32 >>> ((2 : Int32) &&& 31).toUInt32).toInt32) len len.toInt rfl).1 (by rw [h1]; omega)
  rw [h2]
  exact ⟨Int.emod_nonneg _ (by omega), Int.emod_lt_of_pos _ (by omega)⟩
theorem own_f20 (t x0 x1 x2 : Int64) (len : Int32) (hl : len = 0) : f2 t x0 x1 x2 len = t * (-7046029254386353131 : Int64) := by
  subst hl; unfold f2; rw [if_neg (by decide)]
theorem pn0 : plainFor (⟨"com/example/bisim_for_markov/bisimformarkov/analysis/RowTableHashPinLaw", "law", "(JJJJJI)Z"⟩ : MethodName) = true := plainFor_of_name (by first | (simp [plainName, overriddenIn]; done) | decide +kernel)
theorem ef0_JJJJJI (m : MethodId) (x0 : Int64) (x1 : Int64) (x2 : Int64) (x3 : Int64) (x4 : Int64) (x5 : Int32) : entryFrame m #[(.long x0), (.long x1), (.long x2), (.long x3), (.long x4), (.int x5)] 25 = mkF m 0 #[.val (.long x0), .second, .val (.long x1), .second, .val (.long x2), .second, .val (.long x3), .second, .val (.long x4), .second, .val (.int x5), .unset, .unset, .unset, .unset, .unset, .unset, .unset, .unset, .unset, .unset, .unset, .unset, .unset, .unset] [] := by first | (simp [entryFrame, mkF, argsToLocals, Value.category]; done) | rfl
theorem pd__JIIIJ_J : parseMethodDescriptor "(JIIIJ)J" = some ⟨[.long, .int, .int, .int, .long], some .long⟩ := by decide +kernel
theorem pd__J_JI_J : parseMethodDescriptor "(J[JI)J" = some ⟨[.long, (.array .long), .int], some .long⟩ := by decide +kernel
set_option maxRecDepth 65536 in
set_option maxHeartbeats 4000000 in
theorem mt0 (l : Launch) (Z : State) (a0 : Array Value) (hw : ∀ d ∈ tables_1, d.before a0 Z = true) (p0 : Int64) (p1 : Int64) (p2 : Int64) (p3 : Int64) (p4 : Int64) (p5 : Int32) (h0 : Heap) : Meth l Z x code maxLocals ret room_1 #[(.long p0), (.long p1), (.long p2), (.long p3), (.long p4), (.int p5)] h0 [] (fun v h' => v = some (.int 1)) := by
  refine Meth.of pn0 ?_
  intro p e s m below meth c T B X
  have B : Fix p Z s m meth c code 25 "com/example/bisim_for_markov/bisimformarkov/analysis/RowTableHashPinLaw" "law" (some .boolean) := B
  refine Go.entry (ef0_JJJJJI m p0 p1 p2 p3 p4 p5) ?_
  refine giload B X at_0 rfl (pc' := 2) rfl ?_
  refine giconst B X at_2 (v := (3 : Int32)) rfl (pc' := 3) rfl ?_
  refine giand B X at_3 rfl (pc' := 4) rfl ?_
  generalize e_len : (p5 &&& (3 : Int32)) = len
  have hL := own_len p5
  rw [e_len] at hL
  have hl : ¬ (3 : Int32) < len := by simp only [Int32.lt_iff_toInt_lt, Int32.reduceToInt]; omega
  refine gistore B X at_4 (Ls' := #[.val (.long p0), .second, .val (.long p1), .second, .val (.long p2), .second, .val (.long p3), .second, .val (.long p4), .second, .val (.int p5), .val (.int len), .unset, .unset, .unset, .unset, .unset, .unset, .unset, .unset, .unset, .unset, .unset, .unset, .unset]) rfl (pc' := 6) rfl ?_
  refine giload B X at_6 rfl (pc' := 8) rfl ?_
  by_cases c8_7 : len = (0 : Int32)
  · refine gifN B X at_8 ((if0 _ _).trans (teq c8_7).2) (pc' := 11) rfl ?_
    refine giconst B X at_11 (v := (0 : Int32)) rfl (pc' := 12) rfl ?_
    refine ggoto B X (pc' := 22) at_12 (by decide) ?_
    refine gistore B X at_22 (Ls' := #[.val (.long p0), .second, .val (.long p1), .second, .val (.long p2), .second, .val (.long p3), .second, .val (.long p4), .second, .val (.int p5), .val (.int len), .val (.int (0 : Int32)), .unset, .unset, .unset, .unset, .unset, .unset, .unset, .unset, .unset, .unset, .unset, .unset]) rfl (pc' := 24) rfl ?_
    refine giconst B X at_24 (v := (4 : Int32)) rfl (pc' := 25) rfl ?_
    refine gnewarray B X (cap := 4) (vs := [(.long (0 : Int64)), (.long (0 : Int64)), (.long (0 : Int64)), (.long (0 : Int64))]) (ty := .long) rfl rfl (hw _ (List.mem_of_getElem? (i := 0) rfl)) (by decide) (by decide) (by decide) (by decide) (by decide) at_25 (pc' := 27) rfl fun T8 h9 a10 X11 q12 E13 z_a10 A14 => ?_
    refine gastore B X11 at_27 rfl (Ls' := #[.val (.long p0), .second, .val (.long p1), .second, .val (.long p2), .second, .val (.long p3), .second, .val (.long p4), .second, .val (.int p5), .val (.int len), .val (.int (0 : Int32)), .val (.ref a10), .unset, .unset, .unset, .unset, .unset, .unset, .unset, .unset, .unset, .unset, .unset]) rfl (pc' := 29) rfl ?_
    refine gaload B X11 at_29 rfl rfl (pc' := 31) rfl ?_
    refine giconst B X11 at_31 (v := (0 : Int32)) rfl (pc' := 32) rfl ?_
    refine glload B X11 at_32 rfl (pc' := 34) rfl ?_
    refine glastore B X11 (i := 0) (n := 4) A14 rfl (by decide) rfl (vs' := [(.long p2), (.long (0 : Int64)), (.long (0 : Int64)), (.long (0 : Int64))]) rfl (Or.inr z_a10) at_34 (pc' := 35) rfl fun T15 h16 X17 W18 A19 => ?_
    refine gaload B X17 at_35 rfl rfl (pc' := 37) rfl ?_
    refine giconst B X17 at_37 (v := (1 : Int32)) rfl (pc' := 38) rfl ?_
    refine glload B X17 at_38 rfl (pc' := 40) rfl ?_
    refine glastore B X17 (i := 1) (n := 4) A19 rfl (by decide) rfl (vs' := [(.long p2), (.long p3), (.long (0 : Int64)), (.long (0 : Int64))]) rfl (Or.inr z_a10) at_40 (pc' := 41) rfl fun T20 h21 X22 W23 A24 => ?_
    refine gaload B X22 at_41 rfl rfl (pc' := 43) rfl ?_
    refine giconst B X22 at_43 (v := (2 : Int32)) rfl (pc' := 44) rfl ?_
    refine glloadN B X22 at_44 rfl (pc' := 45) rfl ?_
    refine glastore B X22 (i := 2) (n := 4) A24 rfl (by decide) rfl (vs' := [(.long p2), (.long p3), (.long p1), (.long (0 : Int64))]) rfl (Or.inr z_a10) at_45 (pc' := 46) rfl fun T25 h26 X27 W28 A29 => ?_
    refine gaload B X27 at_46 rfl rfl (pc' := 48) rfl ?_
    refine giconst B X27 at_48 (v := (3 : Int32)) rfl (pc' := 49) rfl ?_
    refine glload B X27 at_49 rfl (pc' := 51) rfl ?_
    refine glload B X27 at_51 rfl (pc' := 53) rfl ?_
    refine glxor B X27 at_53 rfl (pc' := 54) rfl ?_
    refine glastore B X27 (i := 3) (n := 4) A29 rfl (by decide) rfl (vs' := [(.long p2), (.long p3), (.long p1), (.long (p2 ^^^ p3))]) rfl (Or.inr z_a10) at_54 (pc' := 55) rfl fun T30 h31 X32 W33 A34 => ?_
    refine giconst B X32 at_55 (v := (4 : Int32)) rfl (pc' := 56) rfl ?_
    refine gnewarray B X32 (cap := 4) (vs := [(.long (0 : Int64)), (.long (0 : Int64)), (.long (0 : Int64)), (.long (0 : Int64))]) (ty := .long) rfl rfl (hw _ (List.mem_of_getElem? (i := 0) rfl)) (by decide) (by decide) (by decide) (by decide) (by decide) at_56 (pc' := 58) rfl fun T35 h36 a37 X38 q39 E40 z_a37 A41 => ?_
    have n42 : a10 ≠ a37 := by rw [q39]; exact Nat.ne_of_lt A34.lt
    have F43 := A34.ext E40
    refine gastore B X38 at_58 rfl (Ls' := #[.val (.long p0), .second, .val (.long p1), .second, .val (.long p2), .second, .val (.long p3), .second, .val (.long p4), .second, .val (.int p5), .val (.int len), .val (.int (0 : Int32)), .val (.ref a10), .val (.ref a37), .unset, .unset, .unset, .unset, .unset, .unset, .unset, .unset, .unset, .unset]) rfl (pc' := 60) rfl ?_
    refine gaload B X38 at_60 rfl rfl (pc' := 62) rfl ?_
    refine giconst B X38 at_62 (v := (0 : Int32)) rfl (pc' := 63) rfl ?_
    refine gaload B X38 at_63 rfl rfl (pc' := 65) rfl ?_
    refine giconst B X38 at_65 (v := (0 : Int32)) rfl (pc' := 66) rfl ?_
    refine glaload B X38 (n := 4) F43 rfl (by decide) (v := (.long p2)) rfl at_66 (pc' := 67) rfl ?_
    refine giconst B X38 at_67 (v := (0 : Int32)) rfl (pc' := 68) rfl ?_
    refine giload B X38 at_68 rfl (pc' := 70) rfl ?_
    refine giload B X38 at_70 rfl (pc' := 72) rfl ?_
    refine glload B X38 at_72 rfl (pc' := 74) rfl ?_
    refine gcallS B X38 (hw _ (List.mem_of_getElem? (i := 1) rfl)) (hw _ (List.mem_of_getElem? (i := 2) rfl)) (hw _ (List.mem_of_getElem? (i := 3) rfl)) (hw _ (List.mem_of_getElem? (i := 4) rfl)) (by decide) (mt1 l Z a0 hw p2 (0 : Int32) len (0 : Int32) p4  h36 ) pd__JIIIJ_J rfl (argsL := [(.long p2), (.int (0 : Int32)), (.int len), (.int (0 : Int32)), (.long p4)]) (st := [(.int (0 : Int32)), (.ref a37)]) rfl rfl (W := 2) (Nat.le_of_eq rfl) (by decide) (by decide) (by decide) (by decide) (fun x q => nomatch q) at_74 rfl (pureG rfl rfl fun T44 X45 => ?_)
    refine glastore B X45 (i := 0) (n := 4) A41 rfl (by decide) rfl (vs' := [(.long (f1 p2 (0 : Int32) len (0 : Int32) p4)), (.long (0 : Int64)), (.long (0 : Int64)), (.long (0 : Int64))]) rfl (Or.inr z_a37) at_77 (pc' := 78) rfl fun T46 h47 X48 W49 A50 => ?_
    have F51 := F43.other W49 n42
    refine gaload B X48 at_78 rfl rfl (pc' := 80) rfl ?_
    refine giconst B X48 at_80 (v := (1 : Int32)) rfl (pc' := 81) rfl ?_
    refine gaload B X48 at_81 rfl rfl (pc' := 83) rfl ?_
    refine giconst B X48 at_83 (v := (1 : Int32)) rfl (pc' := 84) rfl ?_
    refine glaload B X48 (n := 4) F51 rfl (by decide) (v := (.long p3)) rfl at_84 (pc' := 85) rfl ?_
    refine giconst B X48 at_85 (v := (1 : Int32)) rfl (pc' := 86) rfl ?_
    refine giload B X48 at_86 rfl (pc' := 88) rfl ?_
    refine giload B X48 at_88 rfl (pc' := 90) rfl ?_
    refine glload B X48 at_90 rfl (pc' := 92) rfl ?_
    refine gcallS B X48 (hw _ (List.mem_of_getElem? (i := 1) rfl)) (hw _ (List.mem_of_getElem? (i := 2) rfl)) (hw _ (List.mem_of_getElem? (i := 3) rfl)) (hw _ (List.mem_of_getElem? (i := 4) rfl)) (by decide) (mt1 l Z a0 hw p3 (1 : Int32) len (0 : Int32) p4  h47 ) pd__JIIIJ_J rfl (argsL := [(.long p3), (.int (1 : Int32)), (.int len), (.int (0 : Int32)), (.long p4)]) (st := [(.int (1 : Int32)), (.ref a37)]) rfl rfl (W := 2) (Nat.le_of_eq rfl) (by decide) (by decide) (by decide) (by decide) (fun x q => nomatch q) at_92 rfl (pureG rfl rfl fun T52 X53 => ?_)
    refine glastore B X53 (i := 1) (n := 4) A50 rfl (by decide) rfl (vs' := [(.long (f1 p2 (0 : Int32) len (0 : Int32) p4)), (.long (f1 p3 (1 : Int32) len (0 : Int32) p4)), (.long (0 : Int64)), (.long (0 : Int64))]) rfl (Or.inr z_a37) at_95 (pc' := 96) rfl fun T54 h55 X56 W57 A58 => ?_
    have F59 := F51.other W57 n42
    refine gaload B X56 at_96 rfl rfl (pc' := 98) rfl ?_
    refine giconst B X56 at_98 (v := (2 : Int32)) rfl (pc' := 99) rfl ?_
    refine gaload B X56 at_99 rfl rfl (pc' := 101) rfl ?_
    refine giconst B X56 at_101 (v := (2 : Int32)) rfl (pc' := 102) rfl ?_
    refine glaload B X56 (n := 4) F59 rfl (by decide) (v := (.long p1)) rfl at_102 (pc' := 103) rfl ?_
    refine giconst B X56 at_103 (v := (2 : Int32)) rfl (pc' := 104) rfl ?_
    refine giload B X56 at_104 rfl (pc' := 106) rfl ?_
    refine giload B X56 at_106 rfl (pc' := 108) rfl ?_
    refine glload B X56 at_108 rfl (pc' := 110) rfl ?_
    refine gcallS B X56 (hw _ (List.mem_of_getElem? (i := 1) rfl)) (hw _ (List.mem_of_getElem? (i := 2) rfl)) (hw _ (List.mem_of_getElem? (i := 3) rfl)) (hw _ (List.mem_of_getElem? (i := 4) rfl)) (by decide) (mt1 l Z a0 hw p1 (2 : Int32) len (0 : Int32) p4  h55 ) pd__JIIIJ_J rfl (argsL := [(.long p1), (.int (2 : Int32)), (.int len), (.int (0 : Int32)), (.long p4)]) (st := [(.int (2 : Int32)), (.ref a37)]) rfl rfl (W := 2) (Nat.le_of_eq rfl) (by decide) (by decide) (by decide) (by decide) (fun x q => nomatch q) at_110 rfl (pureG rfl rfl fun T60 X61 => ?_)
    refine glastore B X61 (i := 2) (n := 4) A58 rfl (by decide) rfl (vs' := [(.long (f1 p2 (0 : Int32) len (0 : Int32) p4)), (.long (f1 p3 (1 : Int32) len (0 : Int32) p4)), (.long (f1 p1 (2 : Int32) len (0 : Int32) p4)), (.long (0 : Int64))]) rfl (Or.inr z_a37) at_113 (pc' := 114) rfl fun T62 h63 X64 W65 A66 => ?_
    have F67 := F59.other W65 n42
    refine gaload B X64 at_114 rfl rfl (pc' := 116) rfl ?_
    refine giconst B X64 at_116 (v := (3 : Int32)) rfl (pc' := 117) rfl ?_
    refine gaload B X64 at_117 rfl rfl (pc' := 119) rfl ?_
    refine giconst B X64 at_119 (v := (3 : Int32)) rfl (pc' := 120) rfl ?_
    refine glaload B X64 (n := 4) F67 rfl (by decide) (v := (.long (p2 ^^^ p3))) rfl at_120 (pc' := 121) rfl ?_
    refine giconst B X64 at_121 (v := (3 : Int32)) rfl (pc' := 122) rfl ?_
    refine giload B X64 at_122 rfl (pc' := 124) rfl ?_
    refine giload B X64 at_124 rfl (pc' := 126) rfl ?_
    refine glload B X64 at_126 rfl (pc' := 128) rfl ?_
    refine gcallS B X64 (hw _ (List.mem_of_getElem? (i := 1) rfl)) (hw _ (List.mem_of_getElem? (i := 2) rfl)) (hw _ (List.mem_of_getElem? (i := 3) rfl)) (hw _ (List.mem_of_getElem? (i := 4) rfl)) (by decide) (mt1 l Z a0 hw (p2 ^^^ p3) (3 : Int32) len (0 : Int32) p4  h63 ) pd__JIIIJ_J rfl (argsL := [(.long (p2 ^^^ p3)), (.int (3 : Int32)), (.int len), (.int (0 : Int32)), (.long p4)]) (st := [(.int (3 : Int32)), (.ref a37)]) rfl rfl (W := 2) (Nat.le_of_eq rfl) (by decide) (by decide) (by decide) (by decide) (fun x q => nomatch q) at_128 rfl (pureG rfl rfl fun T68 X69 => ?_)
    refine glastore B X69 (i := 3) (n := 4) A66 rfl (by decide) rfl (vs' := [(.long (f1 p2 (0 : Int32) len (0 : Int32) p4)), (.long (f1 p3 (1 : Int32) len (0 : Int32) p4)), (.long (f1 p1 (2 : Int32) len (0 : Int32) p4)), (.long (f1 (p2 ^^^ p3) (3 : Int32) len (0 : Int32) p4))]) rfl (Or.inr z_a37) at_131 (pc' := 132) rfl fun T70 h71 X72 W73 A74 => ?_
    have F75 := F67.other W73 n42
    refine glloadN B X72 at_132 rfl (pc' := 133) rfl ?_
    refine gaload B X72 at_133 rfl rfl (pc' := 135) rfl ?_
    refine giload B X72 at_135 rfl (pc' := 137) rfl ?_
    refine gcallS B X72 (hw _ (List.mem_of_getElem? (i := 6) rfl)) (hw _ (List.mem_of_getElem? (i := 7) rfl)) (hw _ (List.mem_of_getElem? (i := 8) rfl)) (hw _ (List.mem_of_getElem? (i := 9) rfl)) (by decide) (mt2 l Z a0 hw p0 a10 len p2 p3 p1 (p2 ^^^ p3) h71 F75 hl) pd__J_JI_J rfl (argsL := [(.long p0), (.ref a10), (.int len)]) (st := []) rfl rfl (W := 0) (Nat.le_of_eq rfl) (by decide) (by decide) (by decide) (by decide) (fun x q => nomatch q) at_137 rfl (pureG rfl rfl fun T76 X77 => ?_)
    refine glstore B X77 at_140 (Ls' := #[.val (.long p0), .second, .val (.long p1), .second, .val (.long p2), .second, .val (.long p3), .second, .val (.long p4), .second, .val (.int p5), .val (.int len), .val (.int (0 : Int32)), .val (.ref a10), .val (.ref a37), .val (.long (f2 p0 p2 p3 p1 len)), .second, .unset, .unset, .unset, .unset, .unset, .unset, .unset, .unset]) rfl (pc' := 142) rfl ?_
    refine glloadN B X77 at_142 rfl (pc' := 143) rfl ?_
    refine gaload B X77 at_143 rfl rfl (pc' := 145) rfl ?_
    refine giload B X77 at_145 rfl (pc' := 147) rfl ?_
    refine gcallS B X77 (hw _ (List.mem_of_getElem? (i := 6) rfl)) (hw _ (List.mem_of_getElem? (i := 7) rfl)) (hw _ (List.mem_of_getElem? (i := 8) rfl)) (hw _ (List.mem_of_getElem? (i := 9) rfl)) (by decide) (mt2 l Z a0 hw p0 a37 len (f1 p2 (0 : Int32) len (0 : Int32) p4) (f1 p3 (1 : Int32) len (0 : Int32) p4) (f1 p1 (2 : Int32) len (0 : Int32) p4) (f1 (p2 ^^^ p3) (3 : Int32) len (0 : Int32) p4) h71 A74 hl) pd__J_JI_J rfl (argsL := [(.long p0), (.ref a37), (.int len)]) (st := []) rfl rfl (W := 0) (Nat.le_of_eq rfl) (by decide) (by decide) (by decide) (by decide) (fun x q => nomatch q) at_147 rfl (pureG rfl rfl fun T78 X79 => ?_)
    refine glstore B X79 at_150 (Ls' := #[.val (.long p0), .second, .val (.long p1), .second, .val (.long p2), .second, .val (.long p3), .second, .val (.long p4), .second, .val (.int p5), .val (.int len), .val (.int (0 : Int32)), .val (.ref a10), .val (.ref a37), .val (.long (f2 p0 p2 p3 p1 len)), .second, .val (.long (f2 p0 (f1 p2 (0 : Int32) len (0 : Int32) p4) (f1 p3 (1 : Int32) len (0 : Int32) p4) (f1 p1 (2 : Int32) len (0 : Int32) p4) len)), .second, .unset, .unset, .unset, .unset, .unset, .unset]) rfl (pc' := 152) rfl ?_
    refine glloadN B X79 at_152 rfl (pc' := 153) rfl ?_
    refine gaload B X79 at_153 rfl rfl (pc' := 155) rfl ?_
    refine giload B X79 at_155 rfl (pc' := 157) rfl ?_
    refine gcallS B X79 (hw _ (List.mem_of_getElem? (i := 6) rfl)) (hw _ (List.mem_of_getElem? (i := 7) rfl)) (hw _ (List.mem_of_getElem? (i := 8) rfl)) (hw _ (List.mem_of_getElem? (i := 9) rfl)) (by decide) (mt2 l Z a0 hw p1 a10 len p2 p3 p1 (p2 ^^^ p3) h71 F75 hl) pd__J_JI_J rfl (argsL := [(.long p1), (.ref a10), (.int len)]) (st := []) rfl rfl (W := 0) (Nat.le_of_eq rfl) (by decide) (by decide) (by decide) (by decide) (fun x q => nomatch q) at_157 rfl (pureG rfl rfl fun T80 X81 => ?_)
    refine glstore B X81 at_160 (Ls' := #[.val (.long p0), .second, .val (.long p1), .second, .val (.long p2), .second, .val (.long p3), .second, .val (.long p4), .second, .val (.int p5), .val (.int len), .val (.int (0 : Int32)), .val (.ref a10), .val (.ref a37), .val (.long (f2 p0 p2 p3 p1 len)), .second, .val (.long (f2 p0 (f1 p2 (0 : Int32) len (0 : Int32) p4) (f1 p3 (1 : Int32) len (0 : Int32) p4) (f1 p1 (2 : Int32) len (0 : Int32) p4) len)), .second, .val (.long (f2 p1 p2 p3 p1 len)), .second, .unset, .unset, .unset, .unset]) rfl (pc' := 162) rfl ?_
    refine giload B X81 at_162 rfl (pc' := 164) rfl ?_
    refine gifY B X81 (pc' := 174) at_164 ((if0 _ _).trans (teq c8_7).1) (by decide) ?_
    refine giconst B X81 at_174 (v := (1 : Int32)) rfl (pc' := 175) rfl ?_
    refine ggoto B X81 (pc' := 179) at_175 (by decide) ?_
    refine gistore B X81 at_179 (Ls' := #[.val (.long p0), .second, .val (.long p1), .second, .val (.long p2), .second, .val (.long p3), .second, .val (.long p4), .second, .val (.int p5), .val (.int len), .val (.int (0 : Int32)), .val (.ref a10), .val (.ref a37), .val (.long (f2 p0 p2 p3 p1 len)), .second, .val (.long (f2 p0 (f1 p2 (0 : Int32) len (0 : Int32) p4) (f1 p3 (1 : Int32) len (0 : Int32) p4) (f1 p1 (2 : Int32) len (0 : Int32) p4) len)), .second, .val (.long (f2 p1 p2 p3 p1 len)), .second, .val (.int (1 : Int32)), .unset, .unset, .unset]) rfl (pc' := 181) rfl ?_
    refine glload B X81 at_181 rfl (pc' := 183) rfl ?_
    refine glload B X81 at_183 rfl (pc' := 185) rfl ?_
    refine glcmp B X81 at_185 (pc' := 186) rfl ?_
    have c186_82 : (f2 p0 p2 p3 p1 len) = (f2 p0 (f1 p2 (0 : Int32) len (0 : Int32) p4) (f1 p3 (1 : Int32) len (0 : Int32) p4) (f1 p1 (2 : Int32) len (0 : Int32) p4) len) := own_same0 _ _ _ _ _ _ _ len c8_7
    refine gifN B X81 at_186 ((if0 _ _).trans (teq (((lw_eq (f2 p0 p2 p3 p1 len) (f2 p0 (f1 p2 (0 : Int32) len (0 : Int32) p4) (f1 p3 (1 : Int32) len (0 : Int32) p4) (f1 p1 (2 : Int32) len (0 : Int32) p4) len))).mpr c186_82)).2) (pc' := 189) rfl ?_
    refine giconst B X81 at_189 (v := (1 : Int32)) rfl (pc' := 190) rfl ?_
    refine ggoto B X81 (pc' := 194) at_190 (by decide) ?_
    refine giload B X81 at_194 rfl (pc' := 196) rfl ?_
    have c196_83 : (1 : Int32) = (1 : Int32) := (by decide)
    refine gicN B X81 at_196 (teq c196_83).2 (pc' := 199) rfl ?_
    refine giconst B X81 at_199 (v := (1 : Int32)) rfl (pc' := 200) rfl ?_
    refine ggoto B X81 (pc' := 204) at_200 (by decide) ?_
    refine gistore B X81 at_204 (Ls' := #[.val (.long p0), .second, .val (.long p1), .second, .val (.long p2), .second, .val (.long p3), .second, .val (.long p4), .second, .val (.int p5), .val (.int len), .val (.int (0 : Int32)), .val (.ref a10), .val (.ref a37), .val (.long (f2 p0 p2 p3 p1 len)), .second, .val (.long (f2 p0 (f1 p2 (0 : Int32) len (0 : Int32) p4) (f1 p3 (1 : Int32) len (0 : Int32) p4) (f1 p1 (2 : Int32) len (0 : Int32) p4) len)), .second, .val (.long (f2 p1 p2 p3 p1 len)), .second, .val (.int (1 : Int32)), .val (.int (1 : Int32)), .unset, .unset]) rfl (pc' := 206) rfl ?_
    refine glload B X81 at_206 rfl (pc' := 208) rfl ?_
    refine glload B X81 at_208 rfl (pc' := 210) rfl ?_
    refine glcmp B X81 at_210 (pc' := 211) rfl ?_
    by_cases c211_84 : (f2 p0 p2 p3 p1 len) = (f2 p1 p2 p3 p1 len)
    · refine gifN B X81 at_211 ((if0 _ _).trans (teq (((lw_eq (f2 p0 p2 p3 p1 len) (f2 p1 p2 p3 p1 len))).mpr c211_84)).2) (pc' := 214) rfl ?_
      refine giconst B X81 at_214 (v := (1 : Int32)) rfl (pc' := 215) rfl ?_
      refine ggoto B X81 (pc' := 219) at_215 (by decide) ?_
      refine glloadN B X81 at_219 rfl (pc' := 220) rfl ?_
      refine glloadN B X81 at_220 rfl (pc' := 221) rfl ?_
      refine glcmp B X81 at_221 (pc' := 222) rfl ?_
      have c222_85 : p0 = p1 := own_13 _ _ _ _ _ len c211_84
      refine gifN B X81 at_222 ((if0 _ _).trans (teq (((lw_eq p0 p1)).mpr c222_85)).2) (pc' := 225) rfl ?_
      refine giconst B X81 at_225 (v := (1 : Int32)) rfl (pc' := 226) rfl ?_
      refine ggoto B X81 (pc' := 230) at_226 (by decide) ?_
      have c230_86 : (1 : Int32) = (1 : Int32) := (by decide)
      refine gicN B X81 at_230 (teq c230_86).2 (pc' := 233) rfl ?_
      refine giconst B X81 at_233 (v := (1 : Int32)) rfl (pc' := 234) rfl ?_
      refine ggoto B X81 (pc' := 238) at_234 (by decide) ?_
      refine gistore B X81 at_238 (Ls' := #[.val (.long p0), .second, .val (.long p1), .second, .val (.long p2), .second, .val (.long p3), .second, .val (.long p4), .second, .val (.int p5), .val (.int len), .val (.int (0 : Int32)), .val (.ref a10), .val (.ref a37), .val (.long (f2 p0 p2 p3 p1 len)), .second, .val (.long (f2 p0 (f1 p2 (0 : Int32) len (0 : Int32) p4) (f1 p3 (1 : Int32) len (0 : Int32) p4) (f1 p1 (2 : Int32) len (0 : Int32) p4) len)), .second, .val (.long (f2 p1 p2 p3 p1 len)), .second, .val (.int (1 : Int32)), .val (.int (1 : Int32)), .val (.int (1 : Int32)), .unset]) rfl (pc' := 240) rfl ?_
      refine giload B X81 at_240 rfl (pc' := 242) rfl ?_
      refine gifN B X81 at_242 ((if0 _ _).trans (teq c8_7).2) (pc' := 245) rfl ?_
      refine glload B X81 at_245 rfl (pc' := 247) rfl ?_
      refine glloadN B X81 at_247 rfl (pc' := 248) rfl ?_
      refine gldc2 B X81 (v := (-7046029254386353131 : Int64)) (hw _ (List.mem_of_getElem? (i := 11) rfl)) at_248 (pc' := 251) rfl ?_
      refine glmul B X81 at_251 rfl (pc' := 252) rfl ?_
      refine glcmp B X81 at_252 (pc' := 253) rfl ?_
      have c253_87 : (f2 p0 p2 p3 p1 len) = (p0 * (-7046029254386353131 : Int64)) := own_f20 _ _ _ _ len c8_7
      refine gifN B X81 at_253 ((if0 _ _).trans (teq (((lw_eq (f2 p0 p2 p3 p1 len) (p0 * (-7046029254386353131 : Int64)))).mpr c253_87)).2) (pc' := 256) rfl ?_
      refine giconst B X81 at_256 (v := (1 : Int32)) rfl (pc' := 257) rfl ?_
      refine ggoto B X81 (pc' := 261) at_257 (by decide) ?_
      refine gistore B X81 at_261 (Ls' := #[.val (.long p0), .second, .val (.long p1), .second, .val (.long p2), .second, .val (.long p3), .second, .val (.long p4), .second, .val (.int p5), .val (.int len), .val (.int (0 : Int32)), .val (.ref a10), .val (.ref a37), .val (.long (f2 p0 p2 p3 p1 len)), .second, .val (.long (f2 p0 (f1 p2 (0 : Int32) len (0 : Int32) p4) (f1 p3 (1 : Int32) len (0 : Int32) p4) (f1 p1 (2 : Int32) len (0 : Int32) p4) len)), .second, .val (.long (f2 p1 p2 p3 p1 len)), .second, .val (.int (1 : Int32)), .val (.int (1 : Int32)), .val (.int (1 : Int32)), .val (.int (1 : Int32))]) rfl (pc' := 263) rfl ?_
      refine giload B X81 at_263 rfl (pc' := 265) rfl ?_
      have c265_88 : ¬ ((1 : Int32) = (0 : Int32)) := (by decide)
      refine gifN B X81 at_265 ((if0 _ _).trans (feq c265_88).1) (pc' := 268) rfl ?_
      refine giload B X81 at_268 rfl (pc' := 270) rfl ?_
      have c270_89 : ¬ ((1 : Int32) = (0 : Int32)) := (by decide)
      refine gifN B X81 at_270 ((if0 _ _).trans (feq c270_89).1) (pc' := 273) rfl ?_
      refine giload B X81 at_273 rfl (pc' := 275) rfl ?_
      have c275_90 : ¬ ((1 : Int32) = (0 : Int32)) := (by decide)
      refine gifN B X81 at_275 ((if0 _ _).trans (feq c275_90).1) (pc' := 278) rfl ?_
      refine giconst B X81 at_278 (v := (1 : Int32)) rfl (pc' := 279) rfl ?_
      refine ggoto B X81 (pc' := 283) at_279 (by decide) ?_
      exact gretN B X81 (z' := (1 : Int32)) (by simp) (rfl) at_283 (by decide) (by decide) (rfl)
    · refine gifY B X81 (pc' := 218) at_211 ((if0 _ _).trans (feq (mt ((lw_eq (f2 p0 p2 p3 p1 len) (f2 p1 p2 p3 p1 len))).mp c211_84)).2) (by decide) ?_
      refine giconst B X81 at_218 (v := (0 : Int32)) rfl (pc' := 219) rfl ?_
      refine glloadN B X81 at_219 rfl (pc' := 220) rfl ?_
      refine glloadN B X81 at_220 rfl (pc' := 221) rfl ?_
      refine glcmp B X81 at_221 (pc' := 222) rfl ?_
      have c222_91 : ¬ (p0 = p1) := fun z => c211_84 (by rw [z])
      refine gifY B X81 (pc' := 229) at_222 ((if0 _ _).trans (feq (mt ((lw_eq p0 p1)).mp c222_91)).2) (by decide) ?_
      refine giconst B X81 at_229 (v := (0 : Int32)) rfl (pc' := 230) rfl ?_
      have c230_92 : (0 : Int32) = (0 : Int32) := (by decide)
      refine gicN B X81 at_230 (teq c230_92).2 (pc' := 233) rfl ?_
      refine giconst B X81 at_233 (v := (1 : Int32)) rfl (pc' := 234) rfl ?_
      refine ggoto B X81 (pc' := 238) at_234 (by decide) ?_
      refine gistore B X81 at_238 (Ls' := #[.val (.long p0), .second, .val (.long p1), .second, .val (.long p2), .second, .val (.long p3), .second, .val (.long p4), .second, .val (.int p5), .val (.int len), .val (.int (0 : Int32)), .val (.ref a10), .val (.ref a37), .val (.long (f2 p0 p2 p3 p1 len)), .second, .val (.long (f2 p0 (f1 p2 (0 : Int32) len (0 : Int32) p4) (f1 p3 (1 : Int32) len (0 : Int32) p4) (f1 p1 (2 : Int32) len (0 : Int32) p4) len)), .second, .val (.long (f2 p1 p2 p3 p1 len)), .second, .val (.int (1 : Int32)), .val (.int (1 : Int32)), .val (.int (1 : Int32)), .unset]) rfl (pc' := 240) rfl ?_
      refine giload B X81 at_240 rfl (pc' := 242) rfl ?_
      refine gifN B X81 at_242 ((if0 _ _).trans (teq c8_7).2) (pc' := 245) rfl ?_
      refine glload B X81 at_245 rfl (pc' := 247) rfl ?_
      refine glloadN B X81 at_247 rfl (pc' := 248) rfl ?_
      refine gldc2 B X81 (v := (-7046029254386353131 : Int64)) (hw _ (List.mem_of_getElem? (i := 11) rfl)) at_248 (pc' := 251) rfl ?_
      refine glmul B X81 at_251 rfl (pc' := 252) rfl ?_
      refine glcmp B X81 at_252 (pc' := 253) rfl ?_
      have c253_93 : (f2 p0 p2 p3 p1 len) = (p0 * (-7046029254386353131 : Int64)) := own_f20 _ _ _ _ len c8_7
      refine gifN B X81 at_253 ((if0 _ _).trans (teq (((lw_eq (f2 p0 p2 p3 p1 len) (p0 * (-7046029254386353131 : Int64)))).mpr c253_93)).2) (pc' := 256) rfl ?_
      refine giconst B X81 at_256 (v := (1 : Int32)) rfl (pc' := 257) rfl ?_
      refine ggoto B X81 (pc' := 261) at_257 (by decide) ?_
      refine gistore B X81 at_261 (Ls' := #[.val (.long p0), .second, .val (.long p1), .second, .val (.long p2), .second, .val (.long p3), .second, .val (.long p4), .second, .val (.int p5), .val (.int len), .val (.int (0 : Int32)), .val (.ref a10), .val (.ref a37), .val (.long (f2 p0 p2 p3 p1 len)), .second, .val (.long (f2 p0 (f1 p2 (0 : Int32) len (0 : Int32) p4) (f1 p3 (1 : Int32) len (0 : Int32) p4) (f1 p1 (2 : Int32) len (0 : Int32) p4) len)), .second, .val (.long (f2 p1 p2 p3 p1 len)), .second, .val (.int (1 : Int32)), .val (.int (1 : Int32)), .val (.int (1 : Int32)), .val (.int (1 : Int32))]) rfl (pc' := 263) rfl ?_
      refine giload B X81 at_263 rfl (pc' := 265) rfl ?_
      have c265_94 : ¬ ((1 : Int32) = (0 : Int32)) := (by decide)
      refine gifN B X81 at_265 ((if0 _ _).trans (feq c265_94).1) (pc' := 268) rfl ?_
      refine giload B X81 at_268 rfl (pc' := 270) rfl ?_
      have c270_95 : ¬ ((1 : Int32) = (0 : Int32)) := (by decide)
      refine gifN B X81 at_270 ((if0 _ _).trans (feq c270_95).1) (pc' := 273) rfl ?_
      refine giload B X81 at_273 rfl (pc' := 275) rfl ?_
      have c275_96 : ¬ ((1 : Int32) = (0 : Int32)) := (by decide)
      refine gifN B X81 at_275 ((if0 _ _).trans (feq c275_96).1) (pc' := 278) rfl ?_
      refine giconst B X81 at_278 (v := (1 : Int32)) rfl (pc' := 279) rfl ?_
      refine ggoto B X81 (pc' := 283) at_279 (by decide) ?_
      exact gretN B X81 (z' := (1 : Int32)) (by simp) (rfl) at_283 (by decide) (by decide) (rfl)
  · refine gifY B X (pc' := 15) at_8 ((if0 _ _).trans (feq c8_7).2) (by decide) ?_
    refine giload B X at_15 rfl (pc' := 17) rfl ?_
    refine giconst B X at_17 (v := (2 : Int32)) rfl (pc' := 18) rfl ?_
    refine giushr B X at_18 rfl (pc' := 19) rfl ?_
    refine giload B X at_19 rfl (pc' := 21) rfl ?_
    refine girem B X at_21 c8_7 rfl (pc' := 22) rfl ?_
    have hq := own_p p5 len hL c8_7
    generalize (((p5.toUInt32 >>> ((2 : Int32) &&& 31).toUInt32).toInt32) % len) = q at hq ⊢
    refine gistore B X at_22 (Ls' := #[.val (.long p0), .second, .val (.long p1), .second, .val (.long p2), .second, .val (.long p3), .second, .val (.long p4), .second, .val (.int p5), .val (.int len), .val (.int q), .unset, .unset, .unset, .unset, .unset, .unset, .unset, .unset, .unset, .unset, .unset, .unset]) rfl (pc' := 24) rfl ?_
    refine giconst B X at_24 (v := (4 : Int32)) rfl (pc' := 25) rfl ?_
    refine gnewarray B X (cap := 4) (vs := [(.long (0 : Int64)), (.long (0 : Int64)), (.long (0 : Int64)), (.long (0 : Int64))]) (ty := .long) rfl rfl (hw _ (List.mem_of_getElem? (i := 0) rfl)) (by decide) (by decide) (by decide) (by decide) (by decide) at_25 (pc' := 27) rfl fun T97 h98 a99 X100 q101 E102 z_a99 A103 => ?_
    refine gastore B X100 at_27 rfl (Ls' := #[.val (.long p0), .second, .val (.long p1), .second, .val (.long p2), .second, .val (.long p3), .second, .val (.long p4), .second, .val (.int p5), .val (.int len), .val (.int q), .val (.ref a99), .unset, .unset, .unset, .unset, .unset, .unset, .unset, .unset, .unset, .unset, .unset]) rfl (pc' := 29) rfl ?_
    refine gaload B X100 at_29 rfl rfl (pc' := 31) rfl ?_
    refine giconst B X100 at_31 (v := (0 : Int32)) rfl (pc' := 32) rfl ?_
    refine glload B X100 at_32 rfl (pc' := 34) rfl ?_
    refine glastore B X100 (i := 0) (n := 4) A103 rfl (by decide) rfl (vs' := [(.long p2), (.long (0 : Int64)), (.long (0 : Int64)), (.long (0 : Int64))]) rfl (Or.inr z_a99) at_34 (pc' := 35) rfl fun T104 h105 X106 W107 A108 => ?_
    refine gaload B X106 at_35 rfl rfl (pc' := 37) rfl ?_
    refine giconst B X106 at_37 (v := (1 : Int32)) rfl (pc' := 38) rfl ?_
    refine glload B X106 at_38 rfl (pc' := 40) rfl ?_
    refine glastore B X106 (i := 1) (n := 4) A108 rfl (by decide) rfl (vs' := [(.long p2), (.long p3), (.long (0 : Int64)), (.long (0 : Int64))]) rfl (Or.inr z_a99) at_40 (pc' := 41) rfl fun T109 h110 X111 W112 A113 => ?_
    refine gaload B X111 at_41 rfl rfl (pc' := 43) rfl ?_
    refine giconst B X111 at_43 (v := (2 : Int32)) rfl (pc' := 44) rfl ?_
    refine glloadN B X111 at_44 rfl (pc' := 45) rfl ?_
    refine glastore B X111 (i := 2) (n := 4) A113 rfl (by decide) rfl (vs' := [(.long p2), (.long p3), (.long p1), (.long (0 : Int64))]) rfl (Or.inr z_a99) at_45 (pc' := 46) rfl fun T114 h115 X116 W117 A118 => ?_
    refine gaload B X116 at_46 rfl rfl (pc' := 48) rfl ?_
    refine giconst B X116 at_48 (v := (3 : Int32)) rfl (pc' := 49) rfl ?_
    refine glload B X116 at_49 rfl (pc' := 51) rfl ?_
    refine glload B X116 at_51 rfl (pc' := 53) rfl ?_
    refine glxor B X116 at_53 rfl (pc' := 54) rfl ?_
    refine glastore B X116 (i := 3) (n := 4) A118 rfl (by decide) rfl (vs' := [(.long p2), (.long p3), (.long p1), (.long (p2 ^^^ p3))]) rfl (Or.inr z_a99) at_54 (pc' := 55) rfl fun T119 h120 X121 W122 A123 => ?_
    refine giconst B X121 at_55 (v := (4 : Int32)) rfl (pc' := 56) rfl ?_
    refine gnewarray B X121 (cap := 4) (vs := [(.long (0 : Int64)), (.long (0 : Int64)), (.long (0 : Int64)), (.long (0 : Int64))]) (ty := .long) rfl rfl (hw _ (List.mem_of_getElem? (i := 0) rfl)) (by decide) (by decide) (by decide) (by decide) (by decide) at_56 (pc' := 58) rfl fun T124 h125 a126 X127 q128 E129 z_a126 A130 => ?_
    have n131 : a99 ≠ a126 := by rw [q128]; exact Nat.ne_of_lt A123.lt
    have F132 := A123.ext E129
    refine gastore B X127 at_58 rfl (Ls' := #[.val (.long p0), .second, .val (.long p1), .second, .val (.long p2), .second, .val (.long p3), .second, .val (.long p4), .second, .val (.int p5), .val (.int len), .val (.int q), .val (.ref a99), .val (.ref a126), .unset, .unset, .unset, .unset, .unset, .unset, .unset, .unset, .unset, .unset]) rfl (pc' := 60) rfl ?_
    refine gaload B X127 at_60 rfl rfl (pc' := 62) rfl ?_
    refine giconst B X127 at_62 (v := (0 : Int32)) rfl (pc' := 63) rfl ?_
    refine gaload B X127 at_63 rfl rfl (pc' := 65) rfl ?_
    refine giconst B X127 at_65 (v := (0 : Int32)) rfl (pc' := 66) rfl ?_
    refine glaload B X127 (n := 4) F132 rfl (by decide) (v := (.long p2)) rfl at_66 (pc' := 67) rfl ?_
    refine giconst B X127 at_67 (v := (0 : Int32)) rfl (pc' := 68) rfl ?_
    refine giload B X127 at_68 rfl (pc' := 70) rfl ?_
    refine giload B X127 at_70 rfl (pc' := 72) rfl ?_
    refine glload B X127 at_72 rfl (pc' := 74) rfl ?_
    refine gcallS B X127 (hw _ (List.mem_of_getElem? (i := 1) rfl)) (hw _ (List.mem_of_getElem? (i := 2) rfl)) (hw _ (List.mem_of_getElem? (i := 3) rfl)) (hw _ (List.mem_of_getElem? (i := 4) rfl)) (by decide) (mt1 l Z a0 hw p2 (0 : Int32) len q p4  h125 ) pd__JIIIJ_J rfl (argsL := [(.long p2), (.int (0 : Int32)), (.int len), (.int q), (.long p4)]) (st := [(.int (0 : Int32)), (.ref a126)]) rfl rfl (W := 2) (Nat.le_of_eq rfl) (by decide) (by decide) (by decide) (by decide) (fun x q => nomatch q) at_74 rfl (pureG rfl rfl fun T133 X134 => ?_)
    refine glastore B X134 (i := 0) (n := 4) A130 rfl (by decide) rfl (vs' := [(.long (f1 p2 (0 : Int32) len q p4)), (.long (0 : Int64)), (.long (0 : Int64)), (.long (0 : Int64))]) rfl (Or.inr z_a126) at_77 (pc' := 78) rfl fun T135 h136 X137 W138 A139 => ?_
    have F140 := F132.other W138 n131
    refine gaload B X137 at_78 rfl rfl (pc' := 80) rfl ?_
    refine giconst B X137 at_80 (v := (1 : Int32)) rfl (pc' := 81) rfl ?_
    refine gaload B X137 at_81 rfl rfl (pc' := 83) rfl ?_
    refine giconst B X137 at_83 (v := (1 : Int32)) rfl (pc' := 84) rfl ?_
    refine glaload B X137 (n := 4) F140 rfl (by decide) (v := (.long p3)) rfl at_84 (pc' := 85) rfl ?_
    refine giconst B X137 at_85 (v := (1 : Int32)) rfl (pc' := 86) rfl ?_
    refine giload B X137 at_86 rfl (pc' := 88) rfl ?_
    refine giload B X137 at_88 rfl (pc' := 90) rfl ?_
    refine glload B X137 at_90 rfl (pc' := 92) rfl ?_
    refine gcallS B X137 (hw _ (List.mem_of_getElem? (i := 1) rfl)) (hw _ (List.mem_of_getElem? (i := 2) rfl)) (hw _ (List.mem_of_getElem? (i := 3) rfl)) (hw _ (List.mem_of_getElem? (i := 4) rfl)) (by decide) (mt1 l Z a0 hw p3 (1 : Int32) len q p4  h136 ) pd__JIIIJ_J rfl (argsL := [(.long p3), (.int (1 : Int32)), (.int len), (.int q), (.long p4)]) (st := [(.int (1 : Int32)), (.ref a126)]) rfl rfl (W := 2) (Nat.le_of_eq rfl) (by decide) (by decide) (by decide) (by decide) (fun x q => nomatch q) at_92 rfl (pureG rfl rfl fun T141 X142 => ?_)
    refine glastore B X142 (i := 1) (n := 4) A139 rfl (by decide) rfl (vs' := [(.long (f1 p2 (0 : Int32) len q p4)), (.long (f1 p3 (1 : Int32) len q p4)), (.long (0 : Int64)), (.long (0 : Int64))]) rfl (Or.inr z_a126) at_95 (pc' := 96) rfl fun T143 h144 X145 W146 A147 => ?_
    have F148 := F140.other W146 n131
    refine gaload B X145 at_96 rfl rfl (pc' := 98) rfl ?_
    refine giconst B X145 at_98 (v := (2 : Int32)) rfl (pc' := 99) rfl ?_
    refine gaload B X145 at_99 rfl rfl (pc' := 101) rfl ?_
    refine giconst B X145 at_101 (v := (2 : Int32)) rfl (pc' := 102) rfl ?_
    refine glaload B X145 (n := 4) F148 rfl (by decide) (v := (.long p1)) rfl at_102 (pc' := 103) rfl ?_
    refine giconst B X145 at_103 (v := (2 : Int32)) rfl (pc' := 104) rfl ?_
    refine giload B X145 at_104 rfl (pc' := 106) rfl ?_
    refine giload B X145 at_106 rfl (pc' := 108) rfl ?_
    refine glload B X145 at_108 rfl (pc' := 110) rfl ?_
    refine gcallS B X145 (hw _ (List.mem_of_getElem? (i := 1) rfl)) (hw _ (List.mem_of_getElem? (i := 2) rfl)) (hw _ (List.mem_of_getElem? (i := 3) rfl)) (hw _ (List.mem_of_getElem? (i := 4) rfl)) (by decide) (mt1 l Z a0 hw p1 (2 : Int32) len q p4  h144 ) pd__JIIIJ_J rfl (argsL := [(.long p1), (.int (2 : Int32)), (.int len), (.int q), (.long p4)]) (st := [(.int (2 : Int32)), (.ref a126)]) rfl rfl (W := 2) (Nat.le_of_eq rfl) (by decide) (by decide) (by decide) (by decide) (fun x q => nomatch q) at_110 rfl (pureG rfl rfl fun T149 X150 => ?_)
    refine glastore B X150 (i := 2) (n := 4) A147 rfl (by decide) rfl (vs' := [(.long (f1 p2 (0 : Int32) len q p4)), (.long (f1 p3 (1 : Int32) len q p4)), (.long (f1 p1 (2 : Int32) len q p4)), (.long (0 : Int64))]) rfl (Or.inr z_a126) at_113 (pc' := 114) rfl fun T151 h152 X153 W154 A155 => ?_
    have F156 := F148.other W154 n131
    refine gaload B X153 at_114 rfl rfl (pc' := 116) rfl ?_
    refine giconst B X153 at_116 (v := (3 : Int32)) rfl (pc' := 117) rfl ?_
    refine gaload B X153 at_117 rfl rfl (pc' := 119) rfl ?_
    refine giconst B X153 at_119 (v := (3 : Int32)) rfl (pc' := 120) rfl ?_
    refine glaload B X153 (n := 4) F156 rfl (by decide) (v := (.long (p2 ^^^ p3))) rfl at_120 (pc' := 121) rfl ?_
    refine giconst B X153 at_121 (v := (3 : Int32)) rfl (pc' := 122) rfl ?_
    refine giload B X153 at_122 rfl (pc' := 124) rfl ?_
    refine giload B X153 at_124 rfl (pc' := 126) rfl ?_
    refine glload B X153 at_126 rfl (pc' := 128) rfl ?_
    refine gcallS B X153 (hw _ (List.mem_of_getElem? (i := 1) rfl)) (hw _ (List.mem_of_getElem? (i := 2) rfl)) (hw _ (List.mem_of_getElem? (i := 3) rfl)) (hw _ (List.mem_of_getElem? (i := 4) rfl)) (by decide) (mt1 l Z a0 hw (p2 ^^^ p3) (3 : Int32) len q p4  h152 ) pd__JIIIJ_J rfl (argsL := [(.long (p2 ^^^ p3)), (.int (3 : Int32)), (.int len), (.int q), (.long p4)]) (st := [(.int (3 : Int32)), (.ref a126)]) rfl rfl (W := 2) (Nat.le_of_eq rfl) (by decide) (by decide) (by decide) (by decide) (fun x q => nomatch q) at_128 rfl (pureG rfl rfl fun T157 X158 => ?_)
    refine glastore B X158 (i := 3) (n := 4) A155 rfl (by decide) rfl (vs' := [(.long (f1 p2 (0 : Int32) len q p4)), (.long (f1 p3 (1 : Int32) len q p4)), (.long (f1 p1 (2 : Int32) len q p4)), (.long (f1 (p2 ^^^ p3) (3 : Int32) len q p4))]) rfl (Or.inr z_a126) at_131 (pc' := 132) rfl fun T159 h160 X161 W162 A163 => ?_
    have F164 := F156.other W162 n131
    refine glloadN B X161 at_132 rfl (pc' := 133) rfl ?_
    refine gaload B X161 at_133 rfl rfl (pc' := 135) rfl ?_
    refine giload B X161 at_135 rfl (pc' := 137) rfl ?_
    refine gcallS B X161 (hw _ (List.mem_of_getElem? (i := 6) rfl)) (hw _ (List.mem_of_getElem? (i := 7) rfl)) (hw _ (List.mem_of_getElem? (i := 8) rfl)) (hw _ (List.mem_of_getElem? (i := 9) rfl)) (by decide) (mt2 l Z a0 hw p0 a99 len p2 p3 p1 (p2 ^^^ p3) h160 F164 hl) pd__J_JI_J rfl (argsL := [(.long p0), (.ref a99), (.int len)]) (st := []) rfl rfl (W := 0) (Nat.le_of_eq rfl) (by decide) (by decide) (by decide) (by decide) (fun x q => nomatch q) at_137 rfl (pureG rfl rfl fun T165 X166 => ?_)
    refine glstore B X166 at_140 (Ls' := #[.val (.long p0), .second, .val (.long p1), .second, .val (.long p2), .second, .val (.long p3), .second, .val (.long p4), .second, .val (.int p5), .val (.int len), .val (.int q), .val (.ref a99), .val (.ref a126), .val (.long (f2 p0 p2 p3 p1 len)), .second, .unset, .unset, .unset, .unset, .unset, .unset, .unset, .unset]) rfl (pc' := 142) rfl ?_
    refine glloadN B X166 at_142 rfl (pc' := 143) rfl ?_
    refine gaload B X166 at_143 rfl rfl (pc' := 145) rfl ?_
    refine giload B X166 at_145 rfl (pc' := 147) rfl ?_
    refine gcallS B X166 (hw _ (List.mem_of_getElem? (i := 6) rfl)) (hw _ (List.mem_of_getElem? (i := 7) rfl)) (hw _ (List.mem_of_getElem? (i := 8) rfl)) (hw _ (List.mem_of_getElem? (i := 9) rfl)) (by decide) (mt2 l Z a0 hw p0 a126 len (f1 p2 (0 : Int32) len q p4) (f1 p3 (1 : Int32) len q p4) (f1 p1 (2 : Int32) len q p4) (f1 (p2 ^^^ p3) (3 : Int32) len q p4) h160 A163 hl) pd__J_JI_J rfl (argsL := [(.long p0), (.ref a126), (.int len)]) (st := []) rfl rfl (W := 0) (Nat.le_of_eq rfl) (by decide) (by decide) (by decide) (by decide) (fun x q => nomatch q) at_147 rfl (pureG rfl rfl fun T167 X168 => ?_)
    refine glstore B X168 at_150 (Ls' := #[.val (.long p0), .second, .val (.long p1), .second, .val (.long p2), .second, .val (.long p3), .second, .val (.long p4), .second, .val (.int p5), .val (.int len), .val (.int q), .val (.ref a99), .val (.ref a126), .val (.long (f2 p0 p2 p3 p1 len)), .second, .val (.long (f2 p0 (f1 p2 (0 : Int32) len q p4) (f1 p3 (1 : Int32) len q p4) (f1 p1 (2 : Int32) len q p4) len)), .second, .unset, .unset, .unset, .unset, .unset, .unset]) rfl (pc' := 152) rfl ?_
    refine glloadN B X168 at_152 rfl (pc' := 153) rfl ?_
    refine gaload B X168 at_153 rfl rfl (pc' := 155) rfl ?_
    refine giload B X168 at_155 rfl (pc' := 157) rfl ?_
    refine gcallS B X168 (hw _ (List.mem_of_getElem? (i := 6) rfl)) (hw _ (List.mem_of_getElem? (i := 7) rfl)) (hw _ (List.mem_of_getElem? (i := 8) rfl)) (hw _ (List.mem_of_getElem? (i := 9) rfl)) (by decide) (mt2 l Z a0 hw p1 a99 len p2 p3 p1 (p2 ^^^ p3) h160 F164 hl) pd__J_JI_J rfl (argsL := [(.long p1), (.ref a99), (.int len)]) (st := []) rfl rfl (W := 0) (Nat.le_of_eq rfl) (by decide) (by decide) (by decide) (by decide) (fun x q => nomatch q) at_157 rfl (pureG rfl rfl fun T169 X170 => ?_)
    refine glstore B X170 at_160 (Ls' := #[.val (.long p0), .second, .val (.long p1), .second, .val (.long p2), .second, .val (.long p3), .second, .val (.long p4), .second, .val (.int p5), .val (.int len), .val (.int q), .val (.ref a99), .val (.ref a126), .val (.long (f2 p0 p2 p3 p1 len)), .second, .val (.long (f2 p0 (f1 p2 (0 : Int32) len q p4) (f1 p3 (1 : Int32) len q p4) (f1 p1 (2 : Int32) len q p4) len)), .second, .val (.long (f2 p1 p2 p3 p1 len)), .second, .unset, .unset, .unset, .unset]) rfl (pc' := 162) rfl ?_
    refine giload B X170 at_162 rfl (pc' := 164) rfl ?_
    refine gifN B X170 at_164 ((if0 _ _).trans (feq c8_7).1) (pc' := 167) rfl ?_
    refine glload B X170 at_167 rfl (pc' := 169) rfl ?_
    refine glconst B X170 at_169 (v := (0 : Int64)) rfl (pc' := 170) rfl ?_
    refine glcmp B X170 at_170 (pc' := 171) rfl ?_
    by_cases c171_171 : p4 = (0 : Int64)
    · refine gifN B X170 at_171 ((if0 _ _).trans (teq (((lw_eq p4 (0 : Int64))).mpr c171_171)).2) (pc' := 174) rfl ?_
      refine giconst B X170 at_174 (v := (1 : Int32)) rfl (pc' := 175) rfl ?_
      refine ggoto B X170 (pc' := 179) at_175 (by decide) ?_
      refine gistore B X170 at_179 (Ls' := #[.val (.long p0), .second, .val (.long p1), .second, .val (.long p2), .second, .val (.long p3), .second, .val (.long p4), .second, .val (.int p5), .val (.int len), .val (.int q), .val (.ref a99), .val (.ref a126), .val (.long (f2 p0 p2 p3 p1 len)), .second, .val (.long (f2 p0 (f1 p2 (0 : Int32) len q p4) (f1 p3 (1 : Int32) len q p4) (f1 p1 (2 : Int32) len q p4) len)), .second, .val (.long (f2 p1 p2 p3 p1 len)), .second, .val (.int (1 : Int32)), .unset, .unset, .unset]) rfl (pc' := 181) rfl ?_
      refine glload B X170 at_181 rfl (pc' := 183) rfl ?_
      refine glload B X170 at_183 rfl (pc' := 185) rfl ?_
      refine glcmp B X170 at_185 (pc' := 186) rfl ?_
      have c186_172 : (f2 p0 p2 p3 p1 len) = (f2 p0 (f1 p2 (0 : Int32) len q p4) (f1 p3 (1 : Int32) len q p4) (f1 p1 (2 : Int32) len q p4) len) := own_same _ _ _ _ len q p4 hL c171_171
      refine gifN B X170 at_186 ((if0 _ _).trans (teq (((lw_eq (f2 p0 p2 p3 p1 len) (f2 p0 (f1 p2 (0 : Int32) len q p4) (f1 p3 (1 : Int32) len q p4) (f1 p1 (2 : Int32) len q p4) len))).mpr c186_172)).2) (pc' := 189) rfl ?_
      refine giconst B X170 at_189 (v := (1 : Int32)) rfl (pc' := 190) rfl ?_
      refine ggoto B X170 (pc' := 194) at_190 (by decide) ?_
      refine giload B X170 at_194 rfl (pc' := 196) rfl ?_
      have c196_173 : (1 : Int32) = (1 : Int32) := (by decide)
      refine gicN B X170 at_196 (teq c196_173).2 (pc' := 199) rfl ?_
      refine giconst B X170 at_199 (v := (1 : Int32)) rfl (pc' := 200) rfl ?_
      refine ggoto B X170 (pc' := 204) at_200 (by decide) ?_
      refine gistore B X170 at_204 (Ls' := #[.val (.long p0), .second, .val (.long p1), .second, .val (.long p2), .second, .val (.long p3), .second, .val (.long p4), .second, .val (.int p5), .val (.int len), .val (.int q), .val (.ref a99), .val (.ref a126), .val (.long (f2 p0 p2 p3 p1 len)), .second, .val (.long (f2 p0 (f1 p2 (0 : Int32) len q p4) (f1 p3 (1 : Int32) len q p4) (f1 p1 (2 : Int32) len q p4) len)), .second, .val (.long (f2 p1 p2 p3 p1 len)), .second, .val (.int (1 : Int32)), .val (.int (1 : Int32)), .unset, .unset]) rfl (pc' := 206) rfl ?_
      refine glload B X170 at_206 rfl (pc' := 208) rfl ?_
      refine glload B X170 at_208 rfl (pc' := 210) rfl ?_
      refine glcmp B X170 at_210 (pc' := 211) rfl ?_
      by_cases c211_174 : (f2 p0 p2 p3 p1 len) = (f2 p1 p2 p3 p1 len)
      · refine gifN B X170 at_211 ((if0 _ _).trans (teq (((lw_eq (f2 p0 p2 p3 p1 len) (f2 p1 p2 p3 p1 len))).mpr c211_174)).2) (pc' := 214) rfl ?_
        refine giconst B X170 at_214 (v := (1 : Int32)) rfl (pc' := 215) rfl ?_
        refine ggoto B X170 (pc' := 219) at_215 (by decide) ?_
        refine glloadN B X170 at_219 rfl (pc' := 220) rfl ?_
        refine glloadN B X170 at_220 rfl (pc' := 221) rfl ?_
        refine glcmp B X170 at_221 (pc' := 222) rfl ?_
        have c222_175 : p0 = p1 := own_13 _ _ _ _ _ len c211_174
        refine gifN B X170 at_222 ((if0 _ _).trans (teq (((lw_eq p0 p1)).mpr c222_175)).2) (pc' := 225) rfl ?_
        refine giconst B X170 at_225 (v := (1 : Int32)) rfl (pc' := 226) rfl ?_
        refine ggoto B X170 (pc' := 230) at_226 (by decide) ?_
        have c230_176 : (1 : Int32) = (1 : Int32) := (by decide)
        refine gicN B X170 at_230 (teq c230_176).2 (pc' := 233) rfl ?_
        refine giconst B X170 at_233 (v := (1 : Int32)) rfl (pc' := 234) rfl ?_
        refine ggoto B X170 (pc' := 238) at_234 (by decide) ?_
        refine gistore B X170 at_238 (Ls' := #[.val (.long p0), .second, .val (.long p1), .second, .val (.long p2), .second, .val (.long p3), .second, .val (.long p4), .second, .val (.int p5), .val (.int len), .val (.int q), .val (.ref a99), .val (.ref a126), .val (.long (f2 p0 p2 p3 p1 len)), .second, .val (.long (f2 p0 (f1 p2 (0 : Int32) len q p4) (f1 p3 (1 : Int32) len q p4) (f1 p1 (2 : Int32) len q p4) len)), .second, .val (.long (f2 p1 p2 p3 p1 len)), .second, .val (.int (1 : Int32)), .val (.int (1 : Int32)), .val (.int (1 : Int32)), .unset]) rfl (pc' := 240) rfl ?_
        refine giload B X170 at_240 rfl (pc' := 242) rfl ?_
        refine gifY B X170 (pc' := 256) at_242 ((if0 _ _).trans (feq c8_7).2) (by decide) ?_
        refine giconst B X170 at_256 (v := (1 : Int32)) rfl (pc' := 257) rfl ?_
        refine ggoto B X170 (pc' := 261) at_257 (by decide) ?_
        refine gistore B X170 at_261 (Ls' := #[.val (.long p0), .second, .val (.long p1), .second, .val (.long p2), .second, .val (.long p3), .second, .val (.long p4), .second, .val (.int p5), .val (.int len), .val (.int q), .val (.ref a99), .val (.ref a126), .val (.long (f2 p0 p2 p3 p1 len)), .second, .val (.long (f2 p0 (f1 p2 (0 : Int32) len q p4) (f1 p3 (1 : Int32) len q p4) (f1 p1 (2 : Int32) len q p4) len)), .second, .val (.long (f2 p1 p2 p3 p1 len)), .second, .val (.int (1 : Int32)), .val (.int (1 : Int32)), .val (.int (1 : Int32)), .val (.int (1 : Int32))]) rfl (pc' := 263) rfl ?_
        refine giload B X170 at_263 rfl (pc' := 265) rfl ?_
        have c265_177 : ¬ ((1 : Int32) = (0 : Int32)) := (by decide)
        refine gifN B X170 at_265 ((if0 _ _).trans (feq c265_177).1) (pc' := 268) rfl ?_
        refine giload B X170 at_268 rfl (pc' := 270) rfl ?_
        have c270_178 : ¬ ((1 : Int32) = (0 : Int32)) := (by decide)
        refine gifN B X170 at_270 ((if0 _ _).trans (feq c270_178).1) (pc' := 273) rfl ?_
        refine giload B X170 at_273 rfl (pc' := 275) rfl ?_
        have c275_179 : ¬ ((1 : Int32) = (0 : Int32)) := (by decide)
        refine gifN B X170 at_275 ((if0 _ _).trans (feq c275_179).1) (pc' := 278) rfl ?_
        refine giconst B X170 at_278 (v := (1 : Int32)) rfl (pc' := 279) rfl ?_
        refine ggoto B X170 (pc' := 283) at_279 (by decide) ?_
        exact gretN B X170 (z' := (1 : Int32)) (by simp) (rfl) at_283 (by decide) (by decide) (rfl)
      · refine gifY B X170 (pc' := 218) at_211 ((if0 _ _).trans (feq (mt ((lw_eq (f2 p0 p2 p3 p1 len) (f2 p1 p2 p3 p1 len))).mp c211_174)).2) (by decide) ?_
        refine giconst B X170 at_218 (v := (0 : Int32)) rfl (pc' := 219) rfl ?_
        refine glloadN B X170 at_219 rfl (pc' := 220) rfl ?_
        refine glloadN B X170 at_220 rfl (pc' := 221) rfl ?_
        refine glcmp B X170 at_221 (pc' := 222) rfl ?_
        have c222_180 : ¬ (p0 = p1) := fun z => c211_174 (by rw [z])
        refine gifY B X170 (pc' := 229) at_222 ((if0 _ _).trans (feq (mt ((lw_eq p0 p1)).mp c222_180)).2) (by decide) ?_
        refine giconst B X170 at_229 (v := (0 : Int32)) rfl (pc' := 230) rfl ?_
        have c230_181 : (0 : Int32) = (0 : Int32) := (by decide)
        refine gicN B X170 at_230 (teq c230_181).2 (pc' := 233) rfl ?_
        refine giconst B X170 at_233 (v := (1 : Int32)) rfl (pc' := 234) rfl ?_
        refine ggoto B X170 (pc' := 238) at_234 (by decide) ?_
        refine gistore B X170 at_238 (Ls' := #[.val (.long p0), .second, .val (.long p1), .second, .val (.long p2), .second, .val (.long p3), .second, .val (.long p4), .second, .val (.int p5), .val (.int len), .val (.int q), .val (.ref a99), .val (.ref a126), .val (.long (f2 p0 p2 p3 p1 len)), .second, .val (.long (f2 p0 (f1 p2 (0 : Int32) len q p4) (f1 p3 (1 : Int32) len q p4) (f1 p1 (2 : Int32) len q p4) len)), .second, .val (.long (f2 p1 p2 p3 p1 len)), .second, .val (.int (1 : Int32)), .val (.int (1 : Int32)), .val (.int (1 : Int32)), .unset]) rfl (pc' := 240) rfl ?_
        refine giload B X170 at_240 rfl (pc' := 242) rfl ?_
        refine gifY B X170 (pc' := 256) at_242 ((if0 _ _).trans (feq c8_7).2) (by decide) ?_
        refine giconst B X170 at_256 (v := (1 : Int32)) rfl (pc' := 257) rfl ?_
        refine ggoto B X170 (pc' := 261) at_257 (by decide) ?_
        refine gistore B X170 at_261 (Ls' := #[.val (.long p0), .second, .val (.long p1), .second, .val (.long p2), .second, .val (.long p3), .second, .val (.long p4), .second, .val (.int p5), .val (.int len), .val (.int q), .val (.ref a99), .val (.ref a126), .val (.long (f2 p0 p2 p3 p1 len)), .second, .val (.long (f2 p0 (f1 p2 (0 : Int32) len q p4) (f1 p3 (1 : Int32) len q p4) (f1 p1 (2 : Int32) len q p4) len)), .second, .val (.long (f2 p1 p2 p3 p1 len)), .second, .val (.int (1 : Int32)), .val (.int (1 : Int32)), .val (.int (1 : Int32)), .val (.int (1 : Int32))]) rfl (pc' := 263) rfl ?_
        refine giload B X170 at_263 rfl (pc' := 265) rfl ?_
        have c265_182 : ¬ ((1 : Int32) = (0 : Int32)) := (by decide)
        refine gifN B X170 at_265 ((if0 _ _).trans (feq c265_182).1) (pc' := 268) rfl ?_
        refine giload B X170 at_268 rfl (pc' := 270) rfl ?_
        have c270_183 : ¬ ((1 : Int32) = (0 : Int32)) := (by decide)
        refine gifN B X170 at_270 ((if0 _ _).trans (feq c270_183).1) (pc' := 273) rfl ?_
        refine giload B X170 at_273 rfl (pc' := 275) rfl ?_
        have c275_184 : ¬ ((1 : Int32) = (0 : Int32)) := (by decide)
        refine gifN B X170 at_275 ((if0 _ _).trans (feq c275_184).1) (pc' := 278) rfl ?_
        refine giconst B X170 at_278 (v := (1 : Int32)) rfl (pc' := 279) rfl ?_
        refine ggoto B X170 (pc' := 283) at_279 (by decide) ?_
        exact gretN B X170 (z' := (1 : Int32)) (by simp) (rfl) at_283 (by decide) (by decide) (rfl)
    · refine gifY B X170 (pc' := 178) at_171 ((if0 _ _).trans (feq (mt ((lw_eq p4 (0 : Int64))).mp c171_171)).2) (by decide) ?_
      refine giconst B X170 at_178 (v := (0 : Int32)) rfl (pc' := 179) rfl ?_
      refine gistore B X170 at_179 (Ls' := #[.val (.long p0), .second, .val (.long p1), .second, .val (.long p2), .second, .val (.long p3), .second, .val (.long p4), .second, .val (.int p5), .val (.int len), .val (.int q), .val (.ref a99), .val (.ref a126), .val (.long (f2 p0 p2 p3 p1 len)), .second, .val (.long (f2 p0 (f1 p2 (0 : Int32) len q p4) (f1 p3 (1 : Int32) len q p4) (f1 p1 (2 : Int32) len q p4) len)), .second, .val (.long (f2 p1 p2 p3 p1 len)), .second, .val (.int (0 : Int32)), .unset, .unset, .unset]) rfl (pc' := 181) rfl ?_
      refine glload B X170 at_181 rfl (pc' := 183) rfl ?_
      refine glload B X170 at_183 rfl (pc' := 185) rfl ?_
      refine glcmp B X170 at_185 (pc' := 186) rfl ?_
      have c186_185 : ¬ ((f2 p0 p2 p3 p1 len) = (f2 p0 (f1 p2 (0 : Int32) len q p4) (f1 p3 (1 : Int32) len q p4) (f1 p1 (2 : Int32) len q p4) len)) := fun z => c171_171 (own_12 _ _ _ _ len q p4 hL c8_7 hq z)
      refine gifY B X170 (pc' := 193) at_186 ((if0 _ _).trans (feq (mt ((lw_eq (f2 p0 p2 p3 p1 len) (f2 p0 (f1 p2 (0 : Int32) len q p4) (f1 p3 (1 : Int32) len q p4) (f1 p1 (2 : Int32) len q p4) len))).mp c186_185)).2) (by decide) ?_
      refine giconst B X170 at_193 (v := (0 : Int32)) rfl (pc' := 194) rfl ?_
      refine giload B X170 at_194 rfl (pc' := 196) rfl ?_
      have c196_186 : (0 : Int32) = (0 : Int32) := (by decide)
      refine gicN B X170 at_196 (teq c196_186).2 (pc' := 199) rfl ?_
      refine giconst B X170 at_199 (v := (1 : Int32)) rfl (pc' := 200) rfl ?_
      refine ggoto B X170 (pc' := 204) at_200 (by decide) ?_
      refine gistore B X170 at_204 (Ls' := #[.val (.long p0), .second, .val (.long p1), .second, .val (.long p2), .second, .val (.long p3), .second, .val (.long p4), .second, .val (.int p5), .val (.int len), .val (.int q), .val (.ref a99), .val (.ref a126), .val (.long (f2 p0 p2 p3 p1 len)), .second, .val (.long (f2 p0 (f1 p2 (0 : Int32) len q p4) (f1 p3 (1 : Int32) len q p4) (f1 p1 (2 : Int32) len q p4) len)), .second, .val (.long (f2 p1 p2 p3 p1 len)), .second, .val (.int (0 : Int32)), .val (.int (1 : Int32)), .unset, .unset]) rfl (pc' := 206) rfl ?_
      refine glload B X170 at_206 rfl (pc' := 208) rfl ?_
      refine glload B X170 at_208 rfl (pc' := 210) rfl ?_
      refine glcmp B X170 at_210 (pc' := 211) rfl ?_
      by_cases c211_187 : (f2 p0 p2 p3 p1 len) = (f2 p1 p2 p3 p1 len)
      · refine gifN B X170 at_211 ((if0 _ _).trans (teq (((lw_eq (f2 p0 p2 p3 p1 len) (f2 p1 p2 p3 p1 len))).mpr c211_187)).2) (pc' := 214) rfl ?_
        refine giconst B X170 at_214 (v := (1 : Int32)) rfl (pc' := 215) rfl ?_
        refine ggoto B X170 (pc' := 219) at_215 (by decide) ?_
        refine glloadN B X170 at_219 rfl (pc' := 220) rfl ?_
        refine glloadN B X170 at_220 rfl (pc' := 221) rfl ?_
        refine glcmp B X170 at_221 (pc' := 222) rfl ?_
        have c222_188 : p0 = p1 := own_13 _ _ _ _ _ len c211_187
        refine gifN B X170 at_222 ((if0 _ _).trans (teq (((lw_eq p0 p1)).mpr c222_188)).2) (pc' := 225) rfl ?_
        refine giconst B X170 at_225 (v := (1 : Int32)) rfl (pc' := 226) rfl ?_
        refine ggoto B X170 (pc' := 230) at_226 (by decide) ?_
        have c230_189 : (1 : Int32) = (1 : Int32) := (by decide)
        refine gicN B X170 at_230 (teq c230_189).2 (pc' := 233) rfl ?_
        refine giconst B X170 at_233 (v := (1 : Int32)) rfl (pc' := 234) rfl ?_
        refine ggoto B X170 (pc' := 238) at_234 (by decide) ?_
        refine gistore B X170 at_238 (Ls' := #[.val (.long p0), .second, .val (.long p1), .second, .val (.long p2), .second, .val (.long p3), .second, .val (.long p4), .second, .val (.int p5), .val (.int len), .val (.int q), .val (.ref a99), .val (.ref a126), .val (.long (f2 p0 p2 p3 p1 len)), .second, .val (.long (f2 p0 (f1 p2 (0 : Int32) len q p4) (f1 p3 (1 : Int32) len q p4) (f1 p1 (2 : Int32) len q p4) len)), .second, .val (.long (f2 p1 p2 p3 p1 len)), .second, .val (.int (0 : Int32)), .val (.int (1 : Int32)), .val (.int (1 : Int32)), .unset]) rfl (pc' := 240) rfl ?_
        refine giload B X170 at_240 rfl (pc' := 242) rfl ?_
        refine gifY B X170 (pc' := 256) at_242 ((if0 _ _).trans (feq c8_7).2) (by decide) ?_
        refine giconst B X170 at_256 (v := (1 : Int32)) rfl (pc' := 257) rfl ?_
        refine ggoto B X170 (pc' := 261) at_257 (by decide) ?_
        refine gistore B X170 at_261 (Ls' := #[.val (.long p0), .second, .val (.long p1), .second, .val (.long p2), .second, .val (.long p3), .second, .val (.long p4), .second, .val (.int p5), .val (.int len), .val (.int q), .val (.ref a99), .val (.ref a126), .val (.long (f2 p0 p2 p3 p1 len)), .second, .val (.long (f2 p0 (f1 p2 (0 : Int32) len q p4) (f1 p3 (1 : Int32) len q p4) (f1 p1 (2 : Int32) len q p4) len)), .second, .val (.long (f2 p1 p2 p3 p1 len)), .second, .val (.int (0 : Int32)), .val (.int (1 : Int32)), .val (.int (1 : Int32)), .val (.int (1 : Int32))]) rfl (pc' := 263) rfl ?_
        refine giload B X170 at_263 rfl (pc' := 265) rfl ?_
        have c265_190 : ¬ ((1 : Int32) = (0 : Int32)) := (by decide)
        refine gifN B X170 at_265 ((if0 _ _).trans (feq c265_190).1) (pc' := 268) rfl ?_
        refine giload B X170 at_268 rfl (pc' := 270) rfl ?_
        have c270_191 : ¬ ((1 : Int32) = (0 : Int32)) := (by decide)
        refine gifN B X170 at_270 ((if0 _ _).trans (feq c270_191).1) (pc' := 273) rfl ?_
        refine giload B X170 at_273 rfl (pc' := 275) rfl ?_
        have c275_192 : ¬ ((1 : Int32) = (0 : Int32)) := (by decide)
        refine gifN B X170 at_275 ((if0 _ _).trans (feq c275_192).1) (pc' := 278) rfl ?_
        refine giconst B X170 at_278 (v := (1 : Int32)) rfl (pc' := 279) rfl ?_
        refine ggoto B X170 (pc' := 283) at_279 (by decide) ?_
        exact gretN B X170 (z' := (1 : Int32)) (by simp) (rfl) at_283 (by decide) (by decide) (rfl)
      · refine gifY B X170 (pc' := 218) at_211 ((if0 _ _).trans (feq (mt ((lw_eq (f2 p0 p2 p3 p1 len) (f2 p1 p2 p3 p1 len))).mp c211_187)).2) (by decide) ?_
        refine giconst B X170 at_218 (v := (0 : Int32)) rfl (pc' := 219) rfl ?_
        refine glloadN B X170 at_219 rfl (pc' := 220) rfl ?_
        refine glloadN B X170 at_220 rfl (pc' := 221) rfl ?_
        refine glcmp B X170 at_221 (pc' := 222) rfl ?_
        have c222_193 : ¬ (p0 = p1) := fun z => c211_187 (by rw [z])
        refine gifY B X170 (pc' := 229) at_222 ((if0 _ _).trans (feq (mt ((lw_eq p0 p1)).mp c222_193)).2) (by decide) ?_
        refine giconst B X170 at_229 (v := (0 : Int32)) rfl (pc' := 230) rfl ?_
        have c230_194 : (0 : Int32) = (0 : Int32) := (by decide)
        refine gicN B X170 at_230 (teq c230_194).2 (pc' := 233) rfl ?_
        refine giconst B X170 at_233 (v := (1 : Int32)) rfl (pc' := 234) rfl ?_
        refine ggoto B X170 (pc' := 238) at_234 (by decide) ?_
        refine gistore B X170 at_238 (Ls' := #[.val (.long p0), .second, .val (.long p1), .second, .val (.long p2), .second, .val (.long p3), .second, .val (.long p4), .second, .val (.int p5), .val (.int len), .val (.int q), .val (.ref a99), .val (.ref a126), .val (.long (f2 p0 p2 p3 p1 len)), .second, .val (.long (f2 p0 (f1 p2 (0 : Int32) len q p4) (f1 p3 (1 : Int32) len q p4) (f1 p1 (2 : Int32) len q p4) len)), .second, .val (.long (f2 p1 p2 p3 p1 len)), .second, .val (.int (0 : Int32)), .val (.int (1 : Int32)), .val (.int (1 : Int32)), .unset]) rfl (pc' := 240) rfl ?_
        refine giload B X170 at_240 rfl (pc' := 242) rfl ?_
        refine gifY B X170 (pc' := 256) at_242 ((if0 _ _).trans (feq c8_7).2) (by decide) ?_
        refine giconst B X170 at_256 (v := (1 : Int32)) rfl (pc' := 257) rfl ?_
        refine ggoto B X170 (pc' := 261) at_257 (by decide) ?_
        refine gistore B X170 at_261 (Ls' := #[.val (.long p0), .second, .val (.long p1), .second, .val (.long p2), .second, .val (.long p3), .second, .val (.long p4), .second, .val (.int p5), .val (.int len), .val (.int q), .val (.ref a99), .val (.ref a126), .val (.long (f2 p0 p2 p3 p1 len)), .second, .val (.long (f2 p0 (f1 p2 (0 : Int32) len q p4) (f1 p3 (1 : Int32) len q p4) (f1 p1 (2 : Int32) len q p4) len)), .second, .val (.long (f2 p1 p2 p3 p1 len)), .second, .val (.int (0 : Int32)), .val (.int (1 : Int32)), .val (.int (1 : Int32)), .val (.int (1 : Int32))]) rfl (pc' := 263) rfl ?_
        refine giload B X170 at_263 rfl (pc' := 265) rfl ?_
        have c265_195 : ¬ ((1 : Int32) = (0 : Int32)) := (by decide)
        refine gifN B X170 at_265 ((if0 _ _).trans (feq c265_195).1) (pc' := 268) rfl ?_
        refine giload B X170 at_268 rfl (pc' := 270) rfl ?_
        have c270_196 : ¬ ((1 : Int32) = (0 : Int32)) := (by decide)
        refine gifN B X170 at_270 ((if0 _ _).trans (feq c270_196).1) (pc' := 273) rfl ?_
        refine giload B X170 at_273 rfl (pc' := 275) rfl ?_
        have c275_197 : ¬ ((1 : Int32) = (0 : Int32)) := (by decide)
        refine gifN B X170 at_275 ((if0 _ _).trans (feq c275_197).1) (pc' := 278) rfl ?_
        refine giconst B X170 at_278 (v := (1 : Int32)) rfl (pc' := 279) rfl ?_
        refine ggoto B X170 (pc' := 283) at_279 (by decide) ?_
        exact gretN B X170 (z' := (1 : Int32)) (by simp) (rfl) at_283 (by decide) (by decide) (rfl)
set_option maxRecDepth 65536 in
set_option maxHeartbeats 4000000 in
theorem comes_1 {Post : Tables → Env → Array Value → State → Outcome → State → Prop} (hpost : ∀ tb e args s v u, (limb_1_1.after args s (.returned v) u = true ∧ limb_1_2.after args s (.returned v) u = true ∧ True) → FrameEnd s (.returned v) u (Jvm.fieldLocs frame_1_writes args s ++ Jvm.arrayLocs frame_1_arrays args s ++ Jvm.staticLocs frame_1_statics s) 16 128 → Post tb e args s (.returned v) u) :
    ArmFor flags0 classFile x code maxLocals ret World_1 tables_1 room_1 Calls_1 rest_1 Pre_1 Post := by
  intro l hfl _ _ p e ha hc hk s m args below hf hA hF happ hP
  obtain ⟨hcalls, hrest, hpre⟩ := hP
  obtain ⟨-, -, -, hnamed, -, -, -, hat⟩ := (Spec.applies_iff hf).mp happ
  obtain ⟨hg, hn⟩ := and_e (Cond.before_iff.mp (show (Jvm.Cond.and given_1 narrow_1).before args s = true from hpre))
  obtain ⟨g2, g3⟩ := and_e hg
  obtain ⟨g4, g5⟩ := and_e g3
  obtain ⟨g6, g7⟩ := and_e g5
  obtain ⟨g8, g9⟩ := and_e g7
  obtain ⟨g10, g11⟩ := and_e g9
  obtain ⟨g12, g13⟩ := and_e g11
  obtain ⟨w0, w1, w2, w3, w4, w5, rfl⟩ : ∃ w0 w1 w2 w3 w4 w5 : Value, args = #[w0, w1, w2, w3, w4, w5] := by
    have hs : args.size = 6 := by simpa [Cond.value, given_1] using g2
    obtain ⟨L⟩ := args
    match L, hs with
    | [w0, w1, w2, w3, w4, w5], _ => exact ⟨w0, w1, w2, w3, w4, w5, rfl⟩
  have hw := fun d (hd : d ∈ tables_1) => atoms_spec (ws := Jvm.Cond.code x code maxLocals ret :: tables_1) hat d (List.mem_cons_of_mem _ hd)
  obtain ⟨i0, ei0⟩ := isL_v g4
  obtain rfl : w0 = (.long i0) := Option.some.inj ei0
  obtain ⟨i1, ei1⟩ := isL_v g6
  obtain rfl : w1 = (.long i1) := Option.some.inj ei1
  obtain ⟨i2, ei2⟩ := isL_v g8
  obtain rfl : w2 = (.long i2) := Option.some.inj ei2
  obtain ⟨i3, ei3⟩ := isL_v g10
  obtain rfl : w3 = (.long i3) := Option.some.inj ei3
  obtain ⟨i4, ei4⟩ := isL_v g12
  obtain rfl : w4 = (.long i4) := Option.some.inj ei4
  obtain ⟨i5, ei5⟩ := is_v g13
  obtain rfl : w5 = (.int i5) := Option.some.inj ei5
  obtain ⟨n, o, h1, h2, h3, _, L, rfl, ⟨rfl, N, N2⟩, hq⟩ := mt0 l s _ hw i0 i1 i2 i3 i4 i5 s.heap tables_1 p e ha hc hk s m _ below hf ((Spec.applies_iff_loose hf).mp happ).1 ⟨rfl, State.Warmed39.refl s, rfl⟩ trivial
  refine ⟨n, _, h1, h2, h3, hpost _ _ _ _ _ _ ⟨Cond.after_iff.mpr rfl, Cond.after_iff.mpr (eq_i res_at (Term.int_eval (1)) rfl), trivial⟩ ⟨hq.1, hq.2.1, (hq.2.2.sift fun y hy => Or.inr ((N2 y hy).elim (fun z => nomatch z) id)).mono (by decide) (by decide)⟩⟩
theorem main_1_1 : Claimed_1_1 := comes_1 fun _ _ _ _ _ _ h hF => ⟨h.1, hF⟩
theorem main_1_2 : Claimed_1_2 := comes_1 fun _ _ _ _ _ _ h hF => ⟨h.2.1, hF⟩
end Jvm.Pilot.@@N@@
namespace Jvm.Pilot.@@N@@
open Jvm Jvm.ClassFile Sem Op Lib Jvm.Free Jvm.Stand Jvm.Pilot.@@N@@.Jvm.D
/-! MADE BY PROGRAM (witnessworld.py) out of the Statement's table words and the real class files: 11 classes; the members and pool entries that the words name. The judged class is class 1, her method 2. -/
namespace start1
open Jvm.ClassFile
def u (s : String) : CpInfo := .utf8 (stringToUtf16 s)
/-- a pool by its gaps: so many unusable entries, then the entry; so many at the end -/
def gap : Nat → List CpInfo → List CpInfo
  | 0, r => r
  | n + 1, r => .unusable :: gap n r
def poolList (es : List (Nat × CpInfo)) (last : Nat) : List CpInfo := es.foldr (fun e r => gap e.1 (e.2 :: r)) (gap last [])
def pool (es : List (Nat × CpInfo)) (last : Nat) : Array CpInfo := ⟨poolList es last⟩
def fileOf (pool : Array CpInfo) (this : Nat) (attrs : Array Attribute := #[]) (ms : Array MethodInfo := #[]) (fl : Nat := 33) (sup : Nat := 0) (ifs : Array Nat := #[]) (fds : Array FieldInfo := #[]) : ClassFile where
  minorVersion := 0
  majorVersion := 65
  constantPool := pool
  accessFlags := fl
  thisClass := this
  superClass := sup
  interfaces := ifs
  fields := fds
  methods := ms
  attributes := attrs
def plain (name : String) (sup : Option ClassId) : Class where
  name := name
  kind := .ordinary
  loader := none
  accessFlags := 33
  super := sup
  interfaces := #[]
  cf := none
  fields := #[]
  methods := #[]
  instanceTypes := #[]
  staticTypes := #[]
  resolved := #[]
  callSites := []
  init := .initialized
  statics := none
  mirror := none

def pool0 : Array CpInfo := pool [(5, u "<init>"), (0, u "()V"), (1, .class_ 10), (1, u "java/lang/Object")] 113

def k0m0 : Method := { name := "<init>", desc := "()V", sig := { parameters := [], returnType := none }, accessFlags := 1, code := none }
/-- java/lang/Object -/
def k0 : Class := { plain "java/lang/Object" none with
  accessFlags := 33
  interfaces := #[]
  cf := some (fileOf pool0 8 #[] #[{ accessFlags := 1, nameIndex := 5, descriptorIndex := 6, attributes := #[] }] 33 0 #[] #[])
  fields := #[]
  methods := #[k0m0]
  instanceTypes := #[]
  staticTypes := #[]
  resolved := Array.replicate 124 none
  statics := none }

def pool1 : Array CpInfo := pool [(2, .class_ 4), (1, u "java/lang/Object"), (0, u "<init>"), (0, u "()V"), (0, .long 18446744073709551615), (1, .methodref 10 11), (0, .class_ 12), (0, .nameAndType 13 14), (0, u "com/example/bisim_for_markov/bisimformarkov/analysis/RowTableHashPinLaw"), (0, u "other"), (0, u "(JIIIJ)J"), (0, .methodref 16 17), (0, .class_ 18), (0, .nameAndType 19 20), (0, u "com/example/bisim_for_markov/bisimformarkov/analysis/RowTable"), (0, u "hash"), (0, u "(J[JI)J"), (0, .long 11400714819323198485), (4, u "law"), (0, u "(JJJJJI)Z")] 4

def k1m0 : Method := { name := "<init>", desc := "()V", sig := { parameters := [], returnType := none }, accessFlags := 1, code := none }
def k1c1 : Code := { maxStack := 4, maxLocals := 7, code := method_2_code, exceptionTable := #[], attributes := #[] }
def k1m1 : Method := { name := "other", desc := "(JIIIJ)J", sig := { parameters := [.long, .int, .int, .int, .long], returnType := some .long }, accessFlags := 10, code := some k1c1 }
def k1c2 : Code := { maxStack := 9, maxLocals := 25, code := code, exceptionTable := #[], attributes := #[] }
def k1m2 : Method := { name := "law", desc := "(JJJJJI)Z", sig := { parameters := [.long, .long, .long, .long, .long, .int], returnType := some .boolean }, accessFlags := 9, code := some k1c2 }
/-- com/example/bisim_for_markov/bisimformarkov/analysis/RowTableHashPinLaw -/
def k1 : Class := { plain "com/example/bisim_for_markov/bisimformarkov/analysis/RowTableHashPinLaw" (some 0) with
  accessFlags := 49
  interfaces := #[]
  cf := some (fileOf pool1 10 #[] #[{ accessFlags := 1, nameIndex := 5, descriptorIndex := 6, attributes := #[] }, { accessFlags := 10, nameIndex := 13, descriptorIndex := 14, attributes := #[] }, { accessFlags := 9, nameIndex := 26, descriptorIndex := 27, attributes := #[] }] 49 2 #[] #[])
  fields := #[]
  methods := #[k1m0, k1m1, k1m2]
  instanceTypes := #[]
  staticTypes := #[]
  resolved := Array.replicate 32 none
  statics := none }

def pool2 : Array CpInfo := pool [(2, .class_ 4), (1, u "java/lang/Object"), (0, u "<init>"), (0, u "()V"), (1, .class_ 10), (1, u "com/example/bisim_for_markov/bisimformarkov/analysis/RowTable"), (0, u "slots"), (0, u "[I"), (2, u "kept"), (0, u "[J"), (2, u "tags"), (2, u "hashes"), (2, u "starts"), (2, u "lengths"), (2, u "keptLength"), (0, u "I"), (2, u "count"), (20, u "mask"), (2, u "hash"), (0, u "(J[JI)J"), (21, .long 11400714819323198485), (1, u "MULTIPLIER"), (0, u "J")] 12

def k2m0 : Method := { name := "<init>", desc := "()V", sig := { parameters := [], returnType := none }, accessFlags := 0, code := none }
def k2c1 : Code := { maxStack := 5, maxLocals := 7, code := prog_64_method_6_code, exceptionTable := #[], attributes := #[] }
def k2m1 : Method := { name := "hash", desc := "(J[JI)J", sig := { parameters := [.long, (.array .long), .int], returnType := some .long }, accessFlags := 8, code := some k2c1 }
/-- com/example/bisim_for_markov/bisimformarkov/analysis/RowTable -/
def k2 : Class := { plain "com/example/bisim_for_markov/bisimformarkov/analysis/RowTable" (some 0) with
  accessFlags := 32
  interfaces := #[]
  cf := some (fileOf pool2 8 #[] #[{ accessFlags := 0, nameIndex := 5, descriptorIndex := 6, attributes := #[] }, { accessFlags := 8, nameIndex := 59, descriptorIndex := 60, attributes := #[] }] 32 2 #[] #[{ accessFlags := 26, nameIndex := 84, descriptorIndex := 85, attributes := #[] }, { accessFlags := 2, nameIndex := 11, descriptorIndex := 12, attributes := #[] }, { accessFlags := 2, nameIndex := 56, descriptorIndex := 32, attributes := #[] }, { accessFlags := 2, nameIndex := 15, descriptorIndex := 16, attributes := #[] }, { accessFlags := 2, nameIndex := 31, descriptorIndex := 32, attributes := #[] }, { accessFlags := 2, nameIndex := 35, descriptorIndex := 32, attributes := #[] }, { accessFlags := 2, nameIndex := 19, descriptorIndex := 16, attributes := #[] }, { accessFlags := 2, nameIndex := 22, descriptorIndex := 16, attributes := #[] }, { accessFlags := 2, nameIndex := 25, descriptorIndex := 12, attributes := #[] }, { accessFlags := 2, nameIndex := 28, descriptorIndex := 12, attributes := #[] }])
  fields := #[{ name := "MULTIPLIER", type := .long, accessFlags := 26, slot := 0, constantValue := 0 }, { name := "slots", type := (.array .int), accessFlags := 2, slot := 0, constantValue := 0 }, { name := "mask", type := .int, accessFlags := 2, slot := 1, constantValue := 0 }, { name := "kept", type := (.array .long), accessFlags := 2, slot := 2, constantValue := 0 }, { name := "keptLength", type := .int, accessFlags := 2, slot := 3, constantValue := 0 }, { name := "count", type := .int, accessFlags := 2, slot := 4, constantValue := 0 }, { name := "tags", type := (.array .long), accessFlags := 2, slot := 5, constantValue := 0 }, { name := "hashes", type := (.array .long), accessFlags := 2, slot := 6, constantValue := 0 }, { name := "starts", type := (.array .int), accessFlags := 2, slot := 7, constantValue := 0 }, { name := "lengths", type := (.array .int), accessFlags := 2, slot := 8, constantValue := 0 }]
  methods := #[k2m0, k2m1]
  instanceTypes := #[(.array .int), .int, (.array .long), .int, .int, (.array .long), (.array .long), (.array .int), (.array .int)]
  staticTypes := #[.long]
  resolved := Array.replicate 98 none
  statics := none }

def pool3 : Array CpInfo := pool [(1, u "java/lang/Cloneable"), (0, .class_ 1), (0, u "java/lang/Object"), (0, .class_ 3)] 3

/-- java/lang/Cloneable -/
def k3 : Class := { plain "java/lang/Cloneable" (some 0) with
  accessFlags := 1537
  interfaces := #[]
  cf := some (fileOf pool3 2 #[] #[] 1537 4 #[] #[])
  fields := #[]
  methods := #[]
  instanceTypes := #[]
  staticTypes := #[]
  resolved := Array.replicate 8 none
  statics := none }

def pool4 : Array CpInfo := pool [(1, u "java/io/Serializable"), (0, .class_ 1), (0, u "java/lang/Object"), (0, .class_ 3)] 3

/-- java/io/Serializable -/
def k4 : Class := { plain "java/io/Serializable" (some 0) with
  accessFlags := 1537
  interfaces := #[]
  cf := some (fileOf pool4 2 #[] #[] 1537 4 #[] #[])
  fields := #[]
  methods := #[]
  instanceTypes := #[]
  staticTypes := #[]
  resolved := Array.replicate 8 none
  statics := none }

/-- the primitive byte -/
def k5 : Class := { plain "byte" none with kind := .primitive 'B', accessFlags := 0x411 }
/-- [B -/
def k6 : Class := { plain "[B" (some 0) with kind := .array 5 .byte, interfaces := #[3, 4], accessFlags := 1041 }

/-- the primitive int -/
def k7 : Class := { plain "int" none with kind := .primitive 'I', accessFlags := 0x411 }
/-- [I -/
def k8 : Class := { plain "[I" (some 0) with kind := .array 7 .int, interfaces := #[3, 4], accessFlags := 1041 }

/-- the primitive long -/
def k9 : Class := { plain "long" none with kind := .primitive 'J', accessFlags := 0x411 }
/-- [J -/
def k10 : Class := { plain "[J" (some 0) with kind := .array 9 .long, interfaces := #[3, 4], accessFlags := 1041 }

def heap : Heap := #[]
def classes : Array Class := #[k0, k1, k2, k3, k4, k5, k6, k7, k8, k9, k10]
def interned : List (Array UInt16 × Addr) := []
def slotsUsed : Nat := 0
def theMethod : MethodId := ⟨1, 2⟩
def args0 : Array Value := #[.long 5, .long 6, .long 7, .long 8, .long 3, .int 3]
def aboutOver (below : List Frame) : State where
  vm := { classes := classes, interned := interned.toArray }
  heap := heap
  slotsUsed := slotsUsed
  threads := #[{ frames := .invoking theMethod args0 :: below }]
def below0 : List Frame := [.native { method := ⟨0, 0⟩, args := #[] }]
def about1 : State := aboutOver below0
def p0 : Program := .bare "" "" ""
def e0 : Env := launch0.env 0 0 0
theorem w_frames : about1.frames = Frame.invoking theMethod args0 :: below0 := rfl
set_option maxRecDepth 65536 in
theorem w_args : argsFit about1.vm theMethod args0 = true := by decide +kernel
set_option maxRecDepth 65536 in
theorem w_heap : heapFits about1 = true := by decide +kernel
set_option maxRecDepth 65536 in
theorem w_runnable : about1.curStatus? = some .runnable := by decide +kernel
set_option maxRecDepth 65536 in
theorem w_alone : about1.alone = true := by decide +kernel
set_option maxRecDepth 65536 in
theorem w_named : about1.methodNamed? x = some theMethod := by decide +kernel
set_option maxRecDepth 65536 in
theorem w_hears : about1.hears theMethod below0 = true := by decide +kernel
set_option maxRecDepth 65536 in
theorem w_ripe : about1.ripe theMethod args0 below0 = true := by decide +kernel
theorem w_running : about1.status = .running := rfl
set_option maxRecDepth 65536 in
theorem w_room : about1.hasRoom e0.platform room_1 = true :=
  launch0.hasRoom_least _ room_1 (by decide +kernel) (by decide +kernel) (by decide +kernel) (by decide +kernel) (by decide +kernel) (by decide +kernel)
theorem allAtoms_all (ts : List Jvm.Cond) (a : Array Jvm.Value) (st : Jvm.State) : (allAtoms ts).before a st = ts.all (fun c => c.before a st) := by
  induction ts with
  | nil => rfl
  | cons c t ih =>
    show (Jvm.Cond.and c (allAtoms t)).before a st = _
    rw [Jvm.Cond.before_and, ih, List.all_cons]
def words1 : List Jvm.Cond := Jvm.Cond.code x code maxLocals ret :: tables_1
/-- a 'code' word, met by the world's own term for the bytes: nothing is compared byte by byte -/
theorem code_word {y : MethodName} {bytes : ByteArray} {mx : Nat} {rt : Option FieldType} {a : Array Value} {s : State} {m : MethodId} {meth : Method} {c : Code} (h1 : s.methodNamed? y = some m) (h2 : s.vm.method? m = some meth) (h3 : meth.code = some c) (h4 : c.code = bytes)
    (h5 : (c.maxLocals == mx && c.exceptionTable.isEmpty && decide (c.maxStack ≤ mostOperands) && decide (meth.sig.returnType = rt) && !meth.locks && decide (parseMethodDescriptor y.desc = some meth.sig)) = true) : (Jvm.Cond.code y bytes mx rt).before a s = true := by
  simp only [Bool.and_eq_true, beq_iff_eq, Bool.not_eq_true', decide_eq_true_eq] at h5
  obtain ⟨⟨⟨⟨⟨g1, g2⟩, g3⟩, g4⟩, g5⟩, g6⟩ := h5
  simp [Cond.before, Cond.holds, Cond.value, h1, h2, h3, h4, g1, g2, g3, g4, g5, g6]
def isCode : Jvm.Cond → Bool
  | .code _ _ _ _ => true
  | _ => false
theorem all_split {L : List Jvm.Cond} {P : Jvm.Cond → Bool} (h1 : L.all (fun c => isCode c || P c) = true) (h2 : ∀ c ∈ L.filter isCode, P c = true) : L.all P = true := by
  refine List.all_eq_true.mpr fun c hc => ?_
  have h := List.all_eq_true.mp h1 c hc
  rcases Bool.eq_false_or_eq_true (isCode c) with hi | hi
  · exact h2 c (List.mem_filter.mpr ⟨hc, hi⟩)
  · simpa [hi] using h
set_option maxRecDepth 65536 in
theorem w_c0 : (Jvm.Cond.code x code maxLocals ret).before args0 about1 = true := code_word (m := ⟨1, 2⟩) (meth := k1m2) (c := k1c2) (by decide +kernel) rfl rfl rfl (by decide +kernel)
set_option maxRecDepth 65536 in
theorem w_c1 : (Jvm.Cond.code ({ cls := "com/example/bisim_for_markov/bisimformarkov/analysis/RowTableHashPinLaw", name := "other", desc := "(JIIIJ)J" } : Jvm.MethodName) method_2_code (7 : Nat) (Option.some Jvm.ClassFile.FieldType.long)).before args0 about1 = true := code_word (m := ⟨1, 1⟩) (meth := k1m1) (c := k1c1) (by decide +kernel) rfl rfl rfl (by decide +kernel)
set_option maxRecDepth 65536 in
theorem w_c2 : (Jvm.Cond.code ({ cls := "com/example/bisim_for_markov/bisimformarkov/analysis/RowTable", name := "hash", desc := "(J[JI)J" } : Jvm.MethodName) prog_64_method_6_code (7 : Nat) (Option.some Jvm.ClassFile.FieldType.long)).before args0 about1 = true := code_word (m := ⟨2, 1⟩) (meth := k2m1) (c := k2c1) (by decide +kernel) rfl rfl rfl (by decide +kernel)
def codes1 : List Jvm.Cond := [Jvm.Cond.code x code maxLocals ret, Jvm.Cond.code ({ cls := "com/example/bisim_for_markov/bisimformarkov/analysis/RowTableHashPinLaw", name := "other", desc := "(JIIIJ)J" } : Jvm.MethodName) method_2_code (7 : Nat) (Option.some Jvm.ClassFile.FieldType.long), Jvm.Cond.code ({ cls := "com/example/bisim_for_markov/bisimformarkov/analysis/RowTable", name := "hash", desc := "(J[JI)J" } : Jvm.MethodName) prog_64_method_6_code (7 : Nat) (Option.some Jvm.ClassFile.FieldType.long)]
set_option maxRecDepth 65536 in
theorem codes_eq : words1.filter isCode = codes1 := rfl
theorem w_codes : ∀ c ∈ words1.filter isCode, c.before args0 about1 = true := by
  rw [codes_eq]
  intro c hc
  simp only [codes1, List.mem_cons, List.not_mem_nil, or_false] at hc
  rcases hc with rfl | rfl | rfl
  · exact w_c0
  · exact w_c1
  · exact w_c2
set_option maxRecDepth 65536 in
theorem w_t1 : words1.all (fun c => isCode c || c.before args0 about1) = true := by decide +kernel
theorem w_tables : (allAtoms (Jvm.Cond.code x code maxLocals ret :: tables_1)).before args0 about1 = true := by
  rw [allAtoms_all]
  show words1.all (fun c => c.before args0 about1) = true
  refine all_split ?_ w_codes
  rw [w_t1]
set_option maxRecDepth 65536 in
theorem w_case : (Jvm.Cond.and given_1 narrow_1).before args0 about1 = true := by decide +kernel
theorem w_applies : (headSpec (Jvm.Cond.code x code maxLocals ret :: tables_1) room_1).applies x e0.platform about1 = true :=
  (Spec.applies_iff w_frames).mpr ⟨w_running, w_runnable, w_alone, w_named, w_hears, w_ripe, w_room, w_tables⟩
theorem atStart : AtStart classFile x code maxLocals ret World_1 tables_1 room_1 Calls_1 rest_1 Pre_1 launch0 p0 e0 about1 theMethod args0 below0 :=
  ⟨lists_1, trivial, launch0.admits_env _ _ _, launch0.least_env, fairChoices_fair.cas, fairChoices_fair.clock, w_frames, w_args, w_heap, w_applies, trivial, trivial, w_case⟩
end start1
theorem witness_1 : WitnessClaimed_1 := ⟨start1.p0, start1.e0, start1.about1, start1.theMethod, start1.args0, start1.below0, start1.atStart⟩
end Jvm.Pilot.@@N@@
