import JvmDerived
import JvmDerived.Pilot.@@N@@Statement
import JvmDerived.Pilot.@@N@@Code
set_option linter.unusedVariables false
set_option linter.unusedSimpArgs false
namespace Jvm.OwnKit
open Sem ClassFile Op Lib Jvm.Stand Jvm.Free Jvm.LawKit Jvm.RoadKit
/-- every written place is one of ws or new -/
def FrW (h0 : Heap) (ws : List Addr) (L : List Loc) : Prop := ∀ y ∈ L, y.base ∈ ws ∨ h0.size ≤ y.base
/-- what stays fixed while a body runs -/
def Fix (p : Program) (Z s : State) (m : MethodId) (meth : Method) (c : Code) (bytes : ByteArray) (maxL : Nat) (own nm : String) (ret : Option FieldType) : Prop :=
  p.tables.exec = Jvm.exec ∧ Z.Warmed39 s.vm ∧ c.code = bytes ∧ c.maxLocals = maxL ∧ s.vm.findClass own = some m.cls ∧ meth.name = nm ∧ meth.sig.returnType = ret ∧ meth.locks = false
/-- where the run stands: its heap h, what was kept since h0 -/
def St (p : Program) (l : Launch) (e : Env) (R : Room) (s : State) (m : MethodId) (args : Array Value) (below : List Frame) (meth : Method) (c : Code) (h0 : Heap) (ws : List Addr) (T : State) (h : Heap) (cells slots : Nat) : Prop :=
  ∃ locs, Stand p l e R s m args below meth c T locs cells slots ∧ T.heap = h ∧ Keep h0 h ws ∧ FrW h0 ws locs
/-- from T with the top frame f the body comes to its end, and Q holds there -/
def Go (p : Program) (e : Env) (below : List Frame) (s : State) (K N : Nat) (h0 : Heap) (ws : List Addr) (Q : Option Value → Heap → Prop) (T : State) (f : JFrame) : Prop :=
  ∃ t o, Steps p.tables e below (T.setTop f) t ∧ t.status = .running ∧ Ended t below o ∧ ∃ v L, o = .returned v ∧ (Q v t.heap ∧ Keep h0 t.heap ws ∧ FrW h0 ws L) ∧ FrameEnd s o t L K N
/-- a method's contract: called with as' at the heap h0 it returns, writes ws and new cells alone, and Q holds -/
def Meth (l : Launch) (Z : State) (y : MethodName) (bytes : ByteArray) (maxL : Nat) (ret : Option FieldType) (rm : Room) (as' : Array Value) (h0 : Heap) (ws : List Addr) (Q : Option Value → Heap → Prop) : Prop :=
  ∀ wl, MetFree l y (head1 (Cond.code y bytes maxL ret :: wl) rm) (fun a U => a = as' ∧ Z.Warmed39 U.vm ∧ U.heap = h0) (fun _ _ _ _ _ => True) (fun _ U o U' => ∃ v L, o = .returned v ∧ (Q v U'.heap ∧ Keep h0 U'.heap ws ∧ FrW h0 ws L) ∧ FrameEnd U o U' L rm.cells rm.slots)
/-- an array of the kind ty that holds vs -/
def VA (Z : State) (h : Heap) (a : Addr) (ty : FieldType) (vs : List Value) : Prop := ∃ c : Cell, Arr Z h a c ty ∧ c.slots = vs.toArray ∧ vs.length < 2 ^ 31
section Arrays
variable {Z : State} {h h' : Heap} {a b : Addr} {ty : FieldType} {vs : List Value} {sl : Nat} {v : Value} {ws : List Addr}
theorem VA.lt (F : VA Z h a ty vs) : a < h.size := by obtain ⟨c, A, -⟩ := F; exact A.lt
theorem VA.ext (F : VA Z h a ty vs) (E : Ext h h') : VA Z h' a ty vs := by obtain ⟨c, A, r⟩ := F; exact ⟨c, A.ext E, r⟩
theorem VA.other (F : VA Z h b ty vs) (W : Wr h h' a sl v) (q : b ≠ a) : VA Z h' b ty vs := by obtain ⟨c, A, r⟩ := F; exact ⟨c, A.other W q, r⟩
theorem VA.keep (F : VA Z h a ty vs) (K : Keep h h' ws) (q : a ∉ ws) : VA Z h' a ty vs := by obtain ⟨c, A, r⟩ := F; exact ⟨c, ⟨K.2.1 a c A.1 q, A.2⟩, r⟩
theorem VA.set (F : VA Z h a ty vs) (W : Wr h h' a sl v) : VA Z h' a ty (vs.set sl v) := by
  obtain ⟨c, A, r, n⟩ := F
  refine ⟨_, A.same W, ?_, by simpa using n⟩
  show c.slots.setIfInBounds sl v = _
  rw [r]; simp
theorem VA.new {k : ClassId} {n : Int32} (A : Arr Z h a (newA k ty n) ty) (q : ¬ n < 0) : VA Z h a ty (List.replicate n.toNatClampNeg (defaultValue ty)) :=
  ⟨_, A, by simp [newA], by rw [List.length_replicate]; exact (back32 q).2⟩
theorem VA.len31 (F : VA Z h a ty vs) : vs.length < 2 ^ 31 := by obtain ⟨c, A, r, n⟩ := F; exact n
theorem inb {n : Nat} {j : Int32} (hj : 0 ≤ j.toInt ∧ j.toInt < n) : ¬ (j < 0 ∨ n ≤ j.toNatClampNeg) := by
  simp only [Int32.lt_iff_toInt_lt, Int32.toNatClampNeg, Int32.reduceToInt]; omega
theorem own_at {xs : List Int32} {j : Nat} (hj : j < xs.length) : (xs.map Value.int)[j]? = some (.int (xs.getD j 0)) := by
  simp [List.getElem?_eq_getElem hj]
theorem own_atL {xs : List Int64} {j : Nat} (hj : j < xs.length) : (xs.map Value.long)[j]? = some (.long (xs.getD j 0)) := by
  simp [List.getElem?_eq_getElem hj]
end Arrays
section Go
variable {p : Program} {l : Launch} {e : Env} {R : Room} {s : State} {m : MethodId} {args : Array Value} {below : List Frame} {meth : Method} {c : Code} {Z : State} {bytes : ByteArray} {maxL : Nat} {own nm : String} {ret : Option FieldType} {h0 : Heap} {ws : List Addr} {T T' : State} {locs : List Loc} {h : Heap} {cells slots K N : Nat} {Q : Option Value → Heap → Prop} {pc pc' : Nat} {Ls Ls' : Array Slot} {st : List Value} {a0 : Array Value}
theorem Go.to {f f' : JFrame} (k : ∀ t, Steps p.tables e below (T'.setTop f') t → Steps p.tables e below (T.setTop f) t) (g : Go p e below s K N h0 ws Q T' f') : Go p e below s K N h0 ws Q T f := by
  obtain ⟨t, o, a, r⟩ := g; exact ⟨t, o, k t a, r⟩
theorem Go.mono {Q' : Option Value → Heap → Prop} {f : JFrame} (g : Go p e below s K N h0 ws Q T f) (hq : ∀ v h, Q v h → Q' v h) : Go p e below s K N h0 ws Q' T f := by
  obtain ⟨t, o, a, b, d, v, L, e1, ⟨q, r⟩, z⟩ := g; exact ⟨t, o, a, b, d, v, L, e1, ⟨hq _ _ q, r⟩, z⟩
theorem Go.entry {f f' : JFrame} (q : f = f') (g : Go p e below s K N h0 ws Q T f') : Go p e below s K N h0 ws Q T f := q ▸ g
theorem St.more (X : St p l e R s m args below meth c h0 ws T h cells slots) {cells' slots' : Nat} (h1 : cells ≤ cells') (h2 : slots ≤ slots') : St p l e R s m args below meth c h0 ws T h cells' slots' := by
  obtain ⟨L, X, r⟩ := X; exact ⟨L, X.more h1 h2, r⟩
theorem St.kept (X : St p l e R s m args below meth c h0 ws T h cells slots) : Keep h0 h ws := by obtain ⟨L, X, e1, k, f⟩ := X; exact k
theorem St.here (X : St p l e R s m args below meth c h0 ws T h cells slots) : At T m c below := by obtain ⟨L, X, r⟩ := X; exact X.here
theorem Meth.mono {y : MethodName} {rm : Room} {as' : Array Value} {Q' : Option Value → Heap → Prop} (M : Meth l Z y bytes maxL ret rm as' h0 ws Q) (hq : ∀ v h, Q v h → Q' v h) : Meth l Z y bytes maxL ret rm as' h0 ws Q' := by
  intro wl p e ha hc hk s m args below hf happ hP hK
  obtain ⟨n, o, a, b, d, v, L, e1, ⟨q, r⟩, z⟩ := M wl p e ha hc hk s m args below hf happ hP hK
  exact ⟨n, o, a, b, d, v, L, e1, ⟨hq _ _ q, r⟩, z⟩
theorem Meth.of {y : MethodName} {rm : Room} {as' : Array Value} (hpl : plainFor y = true)
    (body : ∀ (p : Program) (e : Env) (s : State) (m : MethodId) (below : List Frame) (meth : Method) (c : Code) (T : State), Fix p Z s m meth c bytes maxL y.cls y.name ret → St p l e rm s m as' below meth c h0 ws T h0 0 0 → Go p e below s rm.cells rm.slots h0 ws Q T (entryFrame m as' maxL)) :
    Meth l Z y bytes maxL ret rm as' h0 ws Q := by
  intro wl
  refine MetFree.of_bodySF hpl hisR ?_
  intro p e s m args below meth c s₁ Bd hml0 hP hK
  obtain ⟨rfl, hZ, hh⟩ := hP
  have X0 : Stand p l e rm s m _ below meth c s₁ [] 0 0 := Stand.of_body Bd
  have e0 : s₁.heap = h0 := by rw [← hh, Bd.state]; rfl
  exact body p e s m below meth c s₁ ⟨Bd.exec, hZ, Bd.bytes, hml0, findClass_of_methodNamed Bd.named, (name_of_methodNamed Bd.named Bd.method).1, Bd.returns, Bd.notSynchronized⟩ ⟨[], X0, e0, Keep.refl _ _, fun y hy => nomatch hy⟩

theorem giload (B : Fix p Z s m meth c bytes maxL own nm ret) (X : St p l e R s m args below meth c h0 ws T h cells slots) {k : Nat} {v : Int32} (hd : decode bytes pc = .ok (.iload k, 2)) (hl : Ls[k]? = some (.val (.int v))) (hp : pc' = pc + 2) (g : Go p e below s K N h0 ws Q T (mkF m pc' Ls (.int v :: st))) : Go p e below s K N h0 ws Q T (mkF m pc Ls st) := by
  subst hp; obtain ⟨L, X, -⟩ := X; exact Go.to (fun t k => XS.iload X.here B.1 rfl (hb B.2.2.1 hd) hl k) g
theorem giloadN (B : Fix p Z s m meth c bytes maxL own nm ret) (X : St p l e R s m args below meth c h0 ws T h cells slots) {k : Fin 4} {v : Int32} (hd : decode bytes pc = .ok (.iload_n k, 1)) (hl : Ls[k.val]? = some (.val (.int v))) (hp : pc' = pc + 1) (g : Go p e below s K N h0 ws Q T (mkF m pc' Ls (.int v :: st))) : Go p e below s K N h0 ws Q T (mkF m pc Ls st) := by
  subst hp; obtain ⟨L, X, -⟩ := X; exact Go.to (fun t k => XS.iloadN X.here B.1 rfl (hb B.2.2.1 hd) hl k) g
theorem gistore (B : Fix p Z s m meth c bytes maxL own nm ret) (X : St p l e R s m args below meth c h0 ws T h cells slots) {k : Nat} {v : Int32} (hd : decode bytes pc = .ok (.istore k, 2)) (hl : storeLocals Ls k (.int v) = some Ls') (hp : pc' = pc + 2) (g : Go p e below s K N h0 ws Q T (mkF m pc' Ls' st)) : Go p e below s K N h0 ws Q T (mkF m pc Ls (.int v :: st)) := by
  subst hp; obtain ⟨L, X, -⟩ := X; exact Go.to (fun t k => XS.istore X.here B.1 rfl (hb B.2.2.1 hd) rfl hl k) g
theorem gistoreN (B : Fix p Z s m meth c bytes maxL own nm ret) (X : St p l e R s m args below meth c h0 ws T h cells slots) {k : Fin 4} {v : Int32} (hd : decode bytes pc = .ok (.istore_n k, 1)) (hl : storeLocals Ls k.val (.int v) = some Ls') (hp : pc' = pc + 1) (g : Go p e below s K N h0 ws Q T (mkF m pc' Ls' st)) : Go p e below s K N h0 ws Q T (mkF m pc Ls (.int v :: st)) := by
  subst hp; obtain ⟨L, X, -⟩ := X; exact Go.to (fun t k => XS.istoreN X.here B.1 rfl (hb B.2.2.1 hd) rfl hl k) g
theorem glload (B : Fix p Z s m meth c bytes maxL own nm ret) (X : St p l e R s m args below meth c h0 ws T h cells slots) {k : Nat} {v : Int64} (hd : decode bytes pc = .ok (.lload k, 2)) (hl : Ls[k]? = some (.val (.long v))) (hp : pc' = pc + 2) (g : Go p e below s K N h0 ws Q T (mkF m pc' Ls (.long v :: st))) : Go p e below s K N h0 ws Q T (mkF m pc Ls st) := by
  subst hp; obtain ⟨L, X, -⟩ := X; exact Go.to (fun t k => XS.lload X.here B.1 rfl (hb B.2.2.1 hd) hl k) g
theorem glloadN (B : Fix p Z s m meth c bytes maxL own nm ret) (X : St p l e R s m args below meth c h0 ws T h cells slots) {k : Fin 4} {v : Int64} (hd : decode bytes pc = .ok (.lload_n k, 1)) (hl : Ls[k.val]? = some (.val (.long v))) (hp : pc' = pc + 1) (g : Go p e below s K N h0 ws Q T (mkF m pc' Ls (.long v :: st))) : Go p e below s K N h0 ws Q T (mkF m pc Ls st) := by
  subst hp; obtain ⟨L, X, -⟩ := X; exact Go.to (fun t k => XS.lloadN X.here B.1 rfl (hb B.2.2.1 hd) hl k) g
theorem glstore (B : Fix p Z s m meth c bytes maxL own nm ret) (X : St p l e R s m args below meth c h0 ws T h cells slots) {k : Nat} {v : Int64} (hd : decode bytes pc = .ok (.lstore k, 2)) (hl : storeLocals Ls k (.long v) = some Ls') (hp : pc' = pc + 2) (g : Go p e below s K N h0 ws Q T (mkF m pc' Ls' st)) : Go p e below s K N h0 ws Q T (mkF m pc Ls (.long v :: st)) := by
  subst hp; obtain ⟨L, X, -⟩ := X; exact Go.to (fun t k => XS.lstore X.here B.1 rfl (hb B.2.2.1 hd) rfl hl k) g
theorem glstoreN (B : Fix p Z s m meth c bytes maxL own nm ret) (X : St p l e R s m args below meth c h0 ws T h cells slots) {k : Fin 4} {v : Int64} (hd : decode bytes pc = .ok (.lstore_n k, 1)) (hl : storeLocals Ls k.val (.long v) = some Ls') (hp : pc' = pc + 1) (g : Go p e below s K N h0 ws Q T (mkF m pc' Ls' st)) : Go p e below s K N h0 ws Q T (mkF m pc Ls (.long v :: st)) := by
  subst hp; obtain ⟨L, X, -⟩ := X; exact Go.to (fun t k => XS.lstoreN X.here B.1 rfl (hb B.2.2.1 hd) rfl hl k) g
theorem gaload (B : Fix p Z s m meth c bytes maxL own nm ret) (X : St p l e R s m args below meth c h0 ws T h cells slots) {k : Nat} {v : Value} (hd : decode bytes pc = .ok (.aload k, 2)) (hl : Ls[k]? = some (.val v)) (hv : v.isRef = true) (hp : pc' = pc + 2) (g : Go p e below s K N h0 ws Q T (mkF m pc' Ls (v :: st))) : Go p e below s K N h0 ws Q T (mkF m pc Ls st) := by
  subst hp; obtain ⟨L, X, -⟩ := X; exact Go.to (fun t k => XS.aload X.here B.1 rfl (hb B.2.2.1 hd) hl hv k) g
theorem galoadN (B : Fix p Z s m meth c bytes maxL own nm ret) (X : St p l e R s m args below meth c h0 ws T h cells slots) {k : Fin 4} {v : Value} (hd : decode bytes pc = .ok (.aload_n k, 1)) (hl : Ls[k.val]? = some (.val v)) (hv : v.isRef = true) (hp : pc' = pc + 1) (g : Go p e below s K N h0 ws Q T (mkF m pc' Ls (v :: st))) : Go p e below s K N h0 ws Q T (mkF m pc Ls st) := by
  subst hp; obtain ⟨L, X, -⟩ := X; exact Go.to (fun t k => XS.aloadN X.here B.1 rfl (hb B.2.2.1 hd) hl hv k) g
theorem gastore (B : Fix p Z s m meth c bytes maxL own nm ret) (X : St p l e R s m args below meth c h0 ws T h cells slots) {k : Nat} {v : Value} (hd : decode bytes pc = .ok (.astore k, 2)) (hv : v.isRef = true) (hl : storeLocals Ls k v = some Ls') (hp : pc' = pc + 2) (g : Go p e below s K N h0 ws Q T (mkF m pc' Ls' st)) : Go p e below s K N h0 ws Q T (mkF m pc Ls (v :: st)) := by
  subst hp; obtain ⟨L, X, -⟩ := X; exact Go.to (fun t k => XS.astore X.here B.1 rfl (hb B.2.2.1 hd) rfl hv hl k) g
theorem gastoreN (B : Fix p Z s m meth c bytes maxL own nm ret) (X : St p l e R s m args below meth c h0 ws T h cells slots) {k : Fin 4} {v : Value} (hd : decode bytes pc = .ok (.astore_n k, 1)) (hv : v.isRef = true) (hl : storeLocals Ls k.val v = some Ls') (hp : pc' = pc + 1) (g : Go p e below s K N h0 ws Q T (mkF m pc' Ls' st)) : Go p e below s K N h0 ws Q T (mkF m pc Ls (v :: st)) := by
  subst hp; obtain ⟨L, X, -⟩ := X; exact Go.to (fun t k => XS.astoreN X.here B.1 rfl (hb B.2.2.1 hd) rfl hv hl k) g
theorem giconst (B : Fix p Z s m meth c bytes maxL own nm ret) (X : St p l e R s m args below meth c h0 ws T h cells slots) {i : Int} {v : Int32} (hd : decode bytes pc = .ok (.iconst i, 1)) (hv : Int32.ofInt i = v) (hp : pc' = pc + 1) (g : Go p e below s K N h0 ws Q T (mkF m pc' Ls (.int v :: st))) : Go p e below s K N h0 ws Q T (mkF m pc Ls st) := by
  subst hp; subst hv; obtain ⟨L, X, -⟩ := X; exact Go.to (fun t k => XS.iconst X.here B.1 rfl (hb B.2.2.1 hd) k) g
theorem gbipush (B : Fix p Z s m meth c bytes maxL own nm ret) (X : St p l e R s m args below meth c h0 ws T h cells slots) {i : Int} {v : Int32} (hd : decode bytes pc = .ok (.bipush i, 2)) (hv : (Int8.ofInt i).toInt32 = v) (hp : pc' = pc + 2) (g : Go p e below s K N h0 ws Q T (mkF m pc' Ls (.int v :: st))) : Go p e below s K N h0 ws Q T (mkF m pc Ls st) := by
  subst hp; subst hv; obtain ⟨L, X, -⟩ := X; exact Go.to (fun t k => XS.bipush X.here B.1 rfl (hb B.2.2.1 hd) k) g
theorem gsipush (B : Fix p Z s m meth c bytes maxL own nm ret) (X : St p l e R s m args below meth c h0 ws T h cells slots) {i : Int} {v : Int32} (hd : decode bytes pc = .ok (.sipush i, 3)) (hv : (Int16.ofInt i).toInt32 = v) (hp : pc' = pc + 3) (g : Go p e below s K N h0 ws Q T (mkF m pc' Ls (.int v :: st))) : Go p e below s K N h0 ws Q T (mkF m pc Ls st) := by
  subst hp; subst hv; obtain ⟨L, X, -⟩ := X; exact Go.to (fun t k => XS.sipush X.here B.1 rfl (hb B.2.2.1 hd) k) g
theorem glconst (B : Fix p Z s m meth c bytes maxL own nm ret) (X : St p l e R s m args below meth c h0 ws T h cells slots) {k : Fin 2} {v : Int64} (hd : decode bytes pc = .ok (.lconst k, 1)) (hv : Int64.ofNat k = v) (hp : pc' = pc + 1) (g : Go p e below s K N h0 ws Q T (mkF m pc' Ls (.long v :: st))) : Go p e below s K N h0 ws Q T (mkF m pc Ls st) := by
  subst hp; subst hv; obtain ⟨L, X, -⟩ := X; exact Go.to (fun t k => XS.lconst X.here B.1 rfl (hb B.2.2.1 hd) k) g
theorem gnull (B : Fix p Z s m meth c bytes maxL own nm ret) (X : St p l e R s m args below meth c h0 ws T h cells slots)  (hd : decode bytes pc = .ok (.aconst_null, 1))  (hp : pc' = pc + 1) (g : Go p e below s K N h0 ws Q T (mkF m pc' Ls (.null :: st))) : Go p e below s K N h0 ws Q T (mkF m pc Ls st) := by
  subst hp; obtain ⟨L, X, -⟩ := X; exact Go.to (fun t k => XS.aconstNull X.here B.1 rfl (hb B.2.2.1 hd)  k) g
theorem giadd (B : Fix p Z s m meth c bytes maxL own nm ret) (X : St p l e R s m args below meth c h0 ws T h cells slots) {x y : Int32} {v : Int32} (hd : decode bytes pc = .ok (.iadd, 1))  (hv : x + y = v) (hp : pc' = pc + 1) (g : Go p e below s K N h0 ws Q T (mkF m pc' Ls (.int v :: st))) : Go p e below s K N h0 ws Q T (mkF m pc Ls (.int y :: .int x :: st)) := by
  subst hp; subst hv; obtain ⟨L, X, -⟩ := X; exact Go.to (fun t k => XS.iadd X.here B.1 rfl (hb B.2.2.1 hd) rfl k) g
theorem gladd (B : Fix p Z s m meth c bytes maxL own nm ret) (X : St p l e R s m args below meth c h0 ws T h cells slots) {x y : Int64} {v : Int64} (hd : decode bytes pc = .ok (.ladd, 1))  (hv : x + y = v) (hp : pc' = pc + 1) (g : Go p e below s K N h0 ws Q T (mkF m pc' Ls (.long v :: st))) : Go p e below s K N h0 ws Q T (mkF m pc Ls (.long y :: .long x :: st)) := by
  subst hp; subst hv; obtain ⟨L, X, -⟩ := X; exact Go.to (fun t k => XS.ladd X.here B.1 rfl (hb B.2.2.1 hd) rfl k) g
theorem gisub (B : Fix p Z s m meth c bytes maxL own nm ret) (X : St p l e R s m args below meth c h0 ws T h cells slots) {x y : Int32} {v : Int32} (hd : decode bytes pc = .ok (.isub, 1))  (hv : x - y = v) (hp : pc' = pc + 1) (g : Go p e below s K N h0 ws Q T (mkF m pc' Ls (.int v :: st))) : Go p e below s K N h0 ws Q T (mkF m pc Ls (.int y :: .int x :: st)) := by
  subst hp; subst hv; obtain ⟨L, X, -⟩ := X; exact Go.to (fun t k => XS.isub X.here B.1 rfl (hb B.2.2.1 hd) rfl k) g
theorem glsub (B : Fix p Z s m meth c bytes maxL own nm ret) (X : St p l e R s m args below meth c h0 ws T h cells slots) {x y : Int64} {v : Int64} (hd : decode bytes pc = .ok (.lsub, 1))  (hv : x - y = v) (hp : pc' = pc + 1) (g : Go p e below s K N h0 ws Q T (mkF m pc' Ls (.long v :: st))) : Go p e below s K N h0 ws Q T (mkF m pc Ls (.long y :: .long x :: st)) := by
  subst hp; subst hv; obtain ⟨L, X, -⟩ := X; exact Go.to (fun t k => XS.lsub X.here B.1 rfl (hb B.2.2.1 hd) rfl k) g
theorem gimul (B : Fix p Z s m meth c bytes maxL own nm ret) (X : St p l e R s m args below meth c h0 ws T h cells slots) {x y : Int32} {v : Int32} (hd : decode bytes pc = .ok (.imul, 1))  (hv : x * y = v) (hp : pc' = pc + 1) (g : Go p e below s K N h0 ws Q T (mkF m pc' Ls (.int v :: st))) : Go p e below s K N h0 ws Q T (mkF m pc Ls (.int y :: .int x :: st)) := by
  subst hp; subst hv; obtain ⟨L, X, -⟩ := X; exact Go.to (fun t k => XS.imul X.here B.1 rfl (hb B.2.2.1 hd) rfl k) g
theorem glmul (B : Fix p Z s m meth c bytes maxL own nm ret) (X : St p l e R s m args below meth c h0 ws T h cells slots) {x y : Int64} {v : Int64} (hd : decode bytes pc = .ok (.lmul, 1))  (hv : x * y = v) (hp : pc' = pc + 1) (g : Go p e below s K N h0 ws Q T (mkF m pc' Ls (.long v :: st))) : Go p e below s K N h0 ws Q T (mkF m pc Ls (.long y :: .long x :: st)) := by
  subst hp; subst hv; obtain ⟨L, X, -⟩ := X; exact Go.to (fun t k => XS.lmul X.here B.1 rfl (hb B.2.2.1 hd) rfl k) g
theorem giand (B : Fix p Z s m meth c bytes maxL own nm ret) (X : St p l e R s m args below meth c h0 ws T h cells slots) {x y : Int32} {v : Int32} (hd : decode bytes pc = .ok (.iand, 1))  (hv : x &&& y = v) (hp : pc' = pc + 1) (g : Go p e below s K N h0 ws Q T (mkF m pc' Ls (.int v :: st))) : Go p e below s K N h0 ws Q T (mkF m pc Ls (.int y :: .int x :: st)) := by
  subst hp; subst hv; obtain ⟨L, X, -⟩ := X; exact Go.to (fun t k => XS.iand X.here B.1 rfl (hb B.2.2.1 hd) rfl k) g
theorem gland (B : Fix p Z s m meth c bytes maxL own nm ret) (X : St p l e R s m args below meth c h0 ws T h cells slots) {x y : Int64} {v : Int64} (hd : decode bytes pc = .ok (.land, 1))  (hv : x &&& y = v) (hp : pc' = pc + 1) (g : Go p e below s K N h0 ws Q T (mkF m pc' Ls (.long v :: st))) : Go p e below s K N h0 ws Q T (mkF m pc Ls (.long y :: .long x :: st)) := by
  subst hp; subst hv; obtain ⟨L, X, -⟩ := X; exact Go.to (fun t k => XS.land X.here B.1 rfl (hb B.2.2.1 hd) rfl k) g
theorem gior (B : Fix p Z s m meth c bytes maxL own nm ret) (X : St p l e R s m args below meth c h0 ws T h cells slots) {x y : Int32} {v : Int32} (hd : decode bytes pc = .ok (.ior, 1))  (hv : x ||| y = v) (hp : pc' = pc + 1) (g : Go p e below s K N h0 ws Q T (mkF m pc' Ls (.int v :: st))) : Go p e below s K N h0 ws Q T (mkF m pc Ls (.int y :: .int x :: st)) := by
  subst hp; subst hv; obtain ⟨L, X, -⟩ := X; exact Go.to (fun t k => XS.ior X.here B.1 rfl (hb B.2.2.1 hd) rfl k) g
theorem glor (B : Fix p Z s m meth c bytes maxL own nm ret) (X : St p l e R s m args below meth c h0 ws T h cells slots) {x y : Int64} {v : Int64} (hd : decode bytes pc = .ok (.lor, 1))  (hv : x ||| y = v) (hp : pc' = pc + 1) (g : Go p e below s K N h0 ws Q T (mkF m pc' Ls (.long v :: st))) : Go p e below s K N h0 ws Q T (mkF m pc Ls (.long y :: .long x :: st)) := by
  subst hp; subst hv; obtain ⟨L, X, -⟩ := X; exact Go.to (fun t k => XS.lor X.here B.1 rfl (hb B.2.2.1 hd) rfl k) g
theorem gixor (B : Fix p Z s m meth c bytes maxL own nm ret) (X : St p l e R s m args below meth c h0 ws T h cells slots) {x y : Int32} {v : Int32} (hd : decode bytes pc = .ok (.ixor, 1))  (hv : x ^^^ y = v) (hp : pc' = pc + 1) (g : Go p e below s K N h0 ws Q T (mkF m pc' Ls (.int v :: st))) : Go p e below s K N h0 ws Q T (mkF m pc Ls (.int y :: .int x :: st)) := by
  subst hp; subst hv; obtain ⟨L, X, -⟩ := X; exact Go.to (fun t k => XS.ixor X.here B.1 rfl (hb B.2.2.1 hd) rfl k) g
theorem glxor (B : Fix p Z s m meth c bytes maxL own nm ret) (X : St p l e R s m args below meth c h0 ws T h cells slots) {x y : Int64} {v : Int64} (hd : decode bytes pc = .ok (.lxor, 1))  (hv : x ^^^ y = v) (hp : pc' = pc + 1) (g : Go p e below s K N h0 ws Q T (mkF m pc' Ls (.long v :: st))) : Go p e below s K N h0 ws Q T (mkF m pc Ls (.long y :: .long x :: st)) := by
  subst hp; subst hv; obtain ⟨L, X, -⟩ := X; exact Go.to (fun t k => XS.lxor X.here B.1 rfl (hb B.2.2.1 hd) rfl k) g
theorem gidiv (B : Fix p Z s m meth c bytes maxL own nm ret) (X : St p l e R s m args below meth c h0 ws T h cells slots) {x y : Int32} {v : Int32} (hd : decode bytes pc = .ok (.idiv, 1)) (hy : y ≠ 0) (hv : x / y = v) (hp : pc' = pc + 1) (g : Go p e below s K N h0 ws Q T (mkF m pc' Ls (.int v :: st))) : Go p e below s K N h0 ws Q T (mkF m pc Ls (.int y :: .int x :: st)) := by
  subst hp; subst hv; obtain ⟨L, X, -⟩ := X; exact Go.to (fun t k => XS.idiv X.here B.1 rfl (hb B.2.2.1 hd) rfl hy k) g
theorem gldiv (B : Fix p Z s m meth c bytes maxL own nm ret) (X : St p l e R s m args below meth c h0 ws T h cells slots) {x y : Int64} {v : Int64} (hd : decode bytes pc = .ok (.ldiv, 1)) (hy : y ≠ 0) (hv : x / y = v) (hp : pc' = pc + 1) (g : Go p e below s K N h0 ws Q T (mkF m pc' Ls (.long v :: st))) : Go p e below s K N h0 ws Q T (mkF m pc Ls (.long y :: .long x :: st)) := by
  subst hp; subst hv; obtain ⟨L, X, -⟩ := X; exact Go.to (fun t k => XS.ldiv X.here B.1 rfl (hb B.2.2.1 hd) rfl hy k) g
theorem girem (B : Fix p Z s m meth c bytes maxL own nm ret) (X : St p l e R s m args below meth c h0 ws T h cells slots) {x y v : Int32} (hd : decode bytes pc = .ok (.irem, 1)) (hy : y ≠ 0) (hv : x % y = v) (hp : pc' = pc + 1) (g : Go p e below s K N h0 ws Q T (mkF m pc' Ls (.int v :: st))) : Go p e below s K N h0 ws Q T (mkF m pc Ls (.int y :: .int x :: st)) := by
  subst hp; subst hv; obtain ⟨L, X, -⟩ := X; exact Go.to (fun t k => iremM X B.1 rfl (hb B.2.2.1 hd) rfl hy k) g
theorem glrem (B : Fix p Z s m meth c bytes maxL own nm ret) (X : St p l e R s m args below meth c h0 ws T h cells slots) {x y v : Int64} (hd : decode bytes pc = .ok (.lrem, 1)) (hy : y ≠ 0) (hv : x % y = v) (hp : pc' = pc + 1) (g : Go p e below s K N h0 ws Q T (mkF m pc' Ls (.long v :: st))) : Go p e below s K N h0 ws Q T (mkF m pc Ls (.long y :: .long x :: st)) := by
  subst hp; subst hv; obtain ⟨L, X, -⟩ := X; exact Go.to (fun t k => XS.lrem X.here B.1 rfl (hb B.2.2.1 hd) rfl hy (by rw [lrem_mod]; exact k)) g
theorem gishl (B : Fix p Z s m meth c bytes maxL own nm ret) (X : St p l e R s m args below meth c h0 ws T h cells slots) {x y : Int32} {v : Int32} (hd : decode bytes pc = .ok (.ishl, 1))  (hv : x <<< (y &&& 31) = v) (hp : pc' = pc + 1) (g : Go p e below s K N h0 ws Q T (mkF m pc' Ls (.int v :: st))) : Go p e below s K N h0 ws Q T (mkF m pc Ls (.int y :: .int x :: st)) := by
  subst hp; subst hv; obtain ⟨L, X, -⟩ := X; exact Go.to (fun t k => XS.ishl X.here B.1 rfl (hb B.2.2.1 hd) rfl k) g
theorem gishr (B : Fix p Z s m meth c bytes maxL own nm ret) (X : St p l e R s m args below meth c h0 ws T h cells slots) {x y : Int32} {v : Int32} (hd : decode bytes pc = .ok (.ishr, 1))  (hv : x >>> (y &&& 31) = v) (hp : pc' = pc + 1) (g : Go p e below s K N h0 ws Q T (mkF m pc' Ls (.int v :: st))) : Go p e below s K N h0 ws Q T (mkF m pc Ls (.int y :: .int x :: st)) := by
  subst hp; subst hv; obtain ⟨L, X, -⟩ := X; exact Go.to (fun t k => XS.ishr X.here B.1 rfl (hb B.2.2.1 hd) rfl k) g
theorem giushr (B : Fix p Z s m meth c bytes maxL own nm ret) (X : St p l e R s m args below meth c h0 ws T h cells slots) {x y : Int32} {v : Int32} (hd : decode bytes pc = .ok (.iushr, 1))  (hv : (x.toUInt32 >>> (y &&& 31).toUInt32).toInt32 = v) (hp : pc' = pc + 1) (g : Go p e below s K N h0 ws Q T (mkF m pc' Ls (.int v :: st))) : Go p e below s K N h0 ws Q T (mkF m pc Ls (.int y :: .int x :: st)) := by
  subst hp; subst hv; obtain ⟨L, X, -⟩ := X; exact Go.to (fun t k => XS.iushr X.here B.1 rfl (hb B.2.2.1 hd) rfl k) g
theorem glshl (B : Fix p Z s m meth c bytes maxL own nm ret) (X : St p l e R s m args below meth c h0 ws T h cells slots) {x : Int64} {y : Int32} {v : Int64} (hd : decode bytes pc = .ok (.lshl, 1))  (hv : x <<< (y &&& 0x3f).toInt64 = v) (hp : pc' = pc + 1) (g : Go p e below s K N h0 ws Q T (mkF m pc' Ls (.long v :: st))) : Go p e below s K N h0 ws Q T (mkF m pc Ls (.int y :: .long x :: st)) := by
  subst hp; subst hv; obtain ⟨L, X, -⟩ := X; exact Go.to (fun t k => XS.lshl X.here B.1 rfl (hb B.2.2.1 hd) rfl k) g
theorem glshr (B : Fix p Z s m meth c bytes maxL own nm ret) (X : St p l e R s m args below meth c h0 ws T h cells slots) {x : Int64} {y : Int32} {v : Int64} (hd : decode bytes pc = .ok (.lshr, 1))  (hv : x >>> (y &&& 0x3f).toInt64 = v) (hp : pc' = pc + 1) (g : Go p e below s K N h0 ws Q T (mkF m pc' Ls (.long v :: st))) : Go p e below s K N h0 ws Q T (mkF m pc Ls (.int y :: .long x :: st)) := by
  subst hp; subst hv; obtain ⟨L, X, -⟩ := X; exact Go.to (fun t k => XS.lshr X.here B.1 rfl (hb B.2.2.1 hd) rfl k) g
theorem glushr (B : Fix p Z s m meth c bytes maxL own nm ret) (X : St p l e R s m args below meth c h0 ws T h cells slots) {x : Int64} {y : Int32} {v : Int64} (hd : decode bytes pc = .ok (.lushr, 1))  (hv : (x.toUInt64 >>> (y &&& 0x3f).toInt64.toUInt64).toInt64 = v) (hp : pc' = pc + 1) (g : Go p e below s K N h0 ws Q T (mkF m pc' Ls (.long v :: st))) : Go p e below s K N h0 ws Q T (mkF m pc Ls (.int y :: .long x :: st)) := by
  subst hp; subst hv; obtain ⟨L, X, -⟩ := X; exact Go.to (fun t k => XS.lushr X.here B.1 rfl (hb B.2.2.1 hd) rfl k) g
theorem gineg (B : Fix p Z s m meth c bytes maxL own nm ret) (X : St p l e R s m args below meth c h0 ws T h cells slots) {x : Int32} {v : Int32} (hd : decode bytes pc = .ok (.ineg, 1))  (hv : -x = v) (hp : pc' = pc + 1) (g : Go p e below s K N h0 ws Q T (mkF m pc' Ls (.int v :: st))) : Go p e below s K N h0 ws Q T (mkF m pc Ls (.int x :: st)) := by
  subst hp; subst hv; obtain ⟨L, X, -⟩ := X; exact Go.to (fun t k => XS.ineg X.here B.1 rfl (hb B.2.2.1 hd) rfl k) g
theorem glneg (B : Fix p Z s m meth c bytes maxL own nm ret) (X : St p l e R s m args below meth c h0 ws T h cells slots) {x : Int64} {v : Int64} (hd : decode bytes pc = .ok (.lneg, 1))  (hv : -x = v) (hp : pc' = pc + 1) (g : Go p e below s K N h0 ws Q T (mkF m pc' Ls (.long v :: st))) : Go p e below s K N h0 ws Q T (mkF m pc Ls (.long x :: st)) := by
  subst hp; subst hv; obtain ⟨L, X, -⟩ := X; exact Go.to (fun t k => XS.lneg X.here B.1 rfl (hb B.2.2.1 hd) rfl k) g
theorem gi2l (B : Fix p Z s m meth c bytes maxL own nm ret) (X : St p l e R s m args below meth c h0 ws T h cells slots) {x : Int32} {v : Int64} (hd : decode bytes pc = .ok (.i2l, 1))  (hv : x.toInt64 = v) (hp : pc' = pc + 1) (g : Go p e below s K N h0 ws Q T (mkF m pc' Ls (.long v :: st))) : Go p e below s K N h0 ws Q T (mkF m pc Ls (.int x :: st)) := by
  subst hp; subst hv; obtain ⟨L, X, -⟩ := X; exact Go.to (fun t k => XS.i2l X.here B.1 rfl (hb B.2.2.1 hd) rfl k) g
theorem gl2i (B : Fix p Z s m meth c bytes maxL own nm ret) (X : St p l e R s m args below meth c h0 ws T h cells slots) {x : Int64} {v : Int32} (hd : decode bytes pc = .ok (.l2i, 1))  (hv : x.toInt32 = v) (hp : pc' = pc + 1) (g : Go p e below s K N h0 ws Q T (mkF m pc' Ls (.int v :: st))) : Go p e below s K N h0 ws Q T (mkF m pc Ls (.long x :: st)) := by
  subst hp; subst hv; obtain ⟨L, X, -⟩ := X; exact Go.to (fun t k => XS.l2i X.here B.1 rfl (hb B.2.2.1 hd) rfl k) g
theorem gi2b (B : Fix p Z s m meth c bytes maxL own nm ret) (X : St p l e R s m args below meth c h0 ws T h cells slots) {x : Int32} {v : Int32} (hd : decode bytes pc = .ok (.i2b, 1))  (hv : x.toInt8.toInt32 = v) (hp : pc' = pc + 1) (g : Go p e below s K N h0 ws Q T (mkF m pc' Ls (.int v :: st))) : Go p e below s K N h0 ws Q T (mkF m pc Ls (.int x :: st)) := by
  subst hp; subst hv; obtain ⟨L, X, -⟩ := X; exact Go.to (fun t k => XS.i2b X.here B.1 rfl (hb B.2.2.1 hd) rfl k) g
theorem gi2s (B : Fix p Z s m meth c bytes maxL own nm ret) (X : St p l e R s m args below meth c h0 ws T h cells slots) {x : Int32} {v : Int32} (hd : decode bytes pc = .ok (.i2s, 1))  (hv : x.toInt16.toInt32 = v) (hp : pc' = pc + 1) (g : Go p e below s K N h0 ws Q T (mkF m pc' Ls (.int v :: st))) : Go p e below s K N h0 ws Q T (mkF m pc Ls (.int x :: st)) := by
  subst hp; subst hv; obtain ⟨L, X, -⟩ := X; exact Go.to (fun t k => XS.i2s X.here B.1 rfl (hb B.2.2.1 hd) rfl k) g
theorem gi2c (B : Fix p Z s m meth c bytes maxL own nm ret) (X : St p l e R s m args below meth c h0 ws T h cells slots) {x : Int32} {v : Int32} (hd : decode bytes pc = .ok (.i2c, 1))  (hv : x.toUInt32.toUInt16.toUInt32.toInt32 = v) (hp : pc' = pc + 1) (g : Go p e below s K N h0 ws Q T (mkF m pc' Ls (.int v :: st))) : Go p e below s K N h0 ws Q T (mkF m pc Ls (.int x :: st)) := by
  subst hp; subst hv; obtain ⟨L, X, -⟩ := X; exact Go.to (fun t k => XS.i2c X.here B.1 rfl (hb B.2.2.1 hd) rfl k) g
theorem glcmp (B : Fix p Z s m meth c bytes maxL own nm ret) (X : St p l e R s m args below meth c h0 ws T h cells slots) {x y : Int64} (hd : decode bytes pc = .ok (.lcmp, 1))  (hp : pc' = pc + 1) (g : Go p e below s K N h0 ws Q T (mkF m pc' Ls (.int (lcmpW x y) :: st))) : Go p e below s K N h0 ws Q T (mkF m pc Ls (.long y :: .long x :: st)) := by
  subst hp; obtain ⟨L, X, -⟩ := X; exact Go.to (fun t k => XS.lcmp X.here B.1 rfl (hb B.2.2.1 hd) rfl k) g
theorem gdup (B : Fix p Z s m meth c bytes maxL own nm ret) (X : St p l e R s m args below meth c h0 ws T h cells slots) {x : Value} (hd : decode bytes pc = .ok (.dup, 1)) (hc : x.category = 1) (hp : pc' = pc + 1) (g : Go p e below s K N h0 ws Q T (mkF m pc' Ls (x :: x :: st))) : Go p e below s K N h0 ws Q T (mkF m pc Ls (x :: st)) := by
  subst hp; obtain ⟨L, X, -⟩ := X; exact Go.to (fun t k => XS.dup X.here B.1 rfl (hb B.2.2.1 hd) rfl hc k) g
theorem gpop (B : Fix p Z s m meth c bytes maxL own nm ret) (X : St p l e R s m args below meth c h0 ws T h cells slots) {x : Value} (hd : decode bytes pc = .ok (.pop, 1)) (hc : x.category = 1) (hp : pc' = pc + 1) (g : Go p e below s K N h0 ws Q T (mkF m pc' Ls st)) : Go p e below s K N h0 ws Q T (mkF m pc Ls (x :: st)) := by
  subst hp; obtain ⟨L, X, -⟩ := X; exact Go.to (fun t k => XS.pop X.here B.1 rfl (hb B.2.2.1 hd) rfl hc k) g
theorem gdup_x1 (B : Fix p Z s m meth c bytes maxL own nm ret) (X : St p l e R s m args below meth c h0 ws T h cells slots) {x y : Value} (hd : decode bytes pc = .ok (.dup_x1, 1)) (hc : x.category = 1) (hc2 : y.category = 1) (hp : pc' = pc + 1) (g : Go p e below s K N h0 ws Q T (mkF m pc' Ls (x :: y :: x :: st))) : Go p e below s K N h0 ws Q T (mkF m pc Ls (x :: y :: st)) := by
  subst hp; obtain ⟨L, X, -⟩ := X; exact Go.to (fun t k => XS.dupX1 X.here B.1 rfl (hb B.2.2.1 hd) rfl hc hc2 k) g
theorem gdup2 (B : Fix p Z s m meth c bytes maxL own nm ret) (X : St p l e R s m args below meth c h0 ws T h cells slots) {x y : Value} (hd : decode bytes pc = .ok (.dup2, 1)) (hc : x.category = 1) (hc2 : y.category = 1) (hp : pc' = pc + 1) (g : Go p e below s K N h0 ws Q T (mkF m pc' Ls (x :: y :: x :: y :: st))) : Go p e below s K N h0 ws Q T (mkF m pc Ls (x :: y :: st)) := by
  subst hp; obtain ⟨L, X, -⟩ := X; exact Go.to (fun t k => Jvm.Free.XT.dup2 X.here B.1 rfl (hb B.2.2.1 hd) rfl hc hc2 k) g
theorem xdup_x2 {tb : Tables} [Ours tb] {target : State} {g : JFrame} (h : At T m c below) (hx : tb.exec = Jvm.exec) (hg : g.method = m) {x y z : Value} {rest : List Value} (hd : decode c.code g.pc = .ok (.dup_x2, 1)) (hs : g.stack = x :: y :: z :: rest) (hc : x.category = 1) (hc' : y.category = 1) (hc2 : z.category = 1)
    (hr : Steps tb e below (T.setTop { g with pc := g.pc + 1, stack := x :: y :: z :: x :: rest }) target) : Steps tb e below (T.setTop g) target := by
  subst hg
  jvm_step h [h.top, hx, hd, hs, hc, hc', hc2]
  exact hr
theorem gdup_x2 (B : Fix p Z s m meth c bytes maxL own nm ret) (X : St p l e R s m args below meth c h0 ws T h cells slots) {x y z : Value} (hd : decode bytes pc = .ok (.dup_x2, 1)) (hc : x.category = 1) (hc2 : y.category = 1) (hc3 : z.category = 1) (hp : pc' = pc + 1) (g : Go p e below s K N h0 ws Q T (mkF m pc' Ls (x :: y :: z :: x :: st))) : Go p e below s K N h0 ws Q T (mkF m pc Ls (x :: y :: z :: st)) := by
  subst hp; obtain ⟨L, X, -⟩ := X; exact Go.to (fun t k => xdup_x2 X.here B.1 rfl (hb B.2.2.1 hd) rfl hc hc2 hc3 k) g
theorem giinc (B : Fix p Z s m meth c bytes maxL own nm ret) (X : St p l e R s m args below meth c h0 ws T h cells slots) {k : Nat} {cst : Int} {x v : Int32} (hd : decode bytes pc = .ok (.iinc k cst, 3)) (hl : Ls[k]? = some (.val (.int x))) (hv : x + Int32.ofInt cst = v) (hl' : storeLocals Ls k (.int v) = some Ls') (hp : pc' = pc + 3) (g : Go p e below s K N h0 ws Q T (mkF m pc' Ls' st)) : Go p e below s K N h0 ws Q T (mkF m pc Ls st) := by
  subst hp; subst hv; obtain ⟨L, X, -⟩ := X; exact Go.to (fun t k => XS.iinc X.here B.1 rfl (hb B.2.2.1 hd) hl hl' k) g
theorem ggoto (B : Fix p Z s m meth c bytes maxL own nm ret) (X : St p l e R s m args below meth c h0 ws T h cells slots) {o : Int} (hd : decode bytes pc = .ok (.goto o, 3)) (ho : 0 ≤ (pc : Int) + o ∧ ((pc : Int) + o).toNat = pc') (g : Go p e below s K N h0 ws Q T (mkF m pc' Ls st)) : Go p e below s K N h0 ws Q T (mkF m pc Ls st) := by
  obtain ⟨L, X, -⟩ := X; exact Go.to (fun t k => XS.goto X.here B.1 rfl (pc0 := pc) rfl (hb B.2.2.1 hd) ho.1 ho.2 k) g
theorem gifY (B : Fix p Z s m meth c bytes maxL own nm ret) (X : St p l e R s m args below meth c h0 ws T h cells slots) {cd : ClassFile.Cond} {o : Int} {x : Int32} (hd : decode bytes pc = .ok (.ifCond cd o, 3)) (hc : ifCond.holds cd x = true) (ho : 0 ≤ (pc : Int) + o ∧ ((pc : Int) + o).toNat = pc') (g : Go p e below s K N h0 ws Q T (mkF m pc' Ls st)) : Go p e below s K N h0 ws Q T (mkF m pc Ls (.int x :: st)) := by
  obtain ⟨L, X, -⟩ := X; exact Go.to (fun t k => XS.ifYes X.here B.1 rfl (pc0 := pc) rfl (hb B.2.2.1 hd) rfl hc ho.1 ho.2 k) g
theorem gifN (B : Fix p Z s m meth c bytes maxL own nm ret) (X : St p l e R s m args below meth c h0 ws T h cells slots) {cd : ClassFile.Cond} {o : Int} {x : Int32} (hd : decode bytes pc = .ok (.ifCond cd o, 3)) (hc : ifCond.holds cd x = false) (hp : pc' = pc + 3) (g : Go p e below s K N h0 ws Q T (mkF m pc' Ls st)) : Go p e below s K N h0 ws Q T (mkF m pc Ls (.int x :: st)) := by
  subst hp; obtain ⟨L, X, -⟩ := X; exact Go.to (fun t k => XS.ifNo X.here B.1 rfl (hb B.2.2.1 hd) rfl hc k) g
theorem gicY (B : Fix p Z s m meth c bytes maxL own nm ret) (X : St p l e R s m args below meth c h0 ws T h cells slots) {cd : ClassFile.Cond} {o : Int} {x y : Int32} (hd : decode bytes pc = .ok (.if_icmp cd o, 3)) (hc : if_icmp.holds cd x y = true) (ho : 0 ≤ (pc : Int) + o ∧ ((pc : Int) + o).toNat = pc') (g : Go p e below s K N h0 ws Q T (mkF m pc' Ls st)) : Go p e below s K N h0 ws Q T (mkF m pc Ls (.int y :: .int x :: st)) := by
  obtain ⟨L, X, -⟩ := X; exact Go.to (fun t k => XS.icmpYes X.here B.1 rfl (pc0 := pc) rfl (hb B.2.2.1 hd) rfl hc ho.1 ho.2 k) g
theorem gicN (B : Fix p Z s m meth c bytes maxL own nm ret) (X : St p l e R s m args below meth c h0 ws T h cells slots) {cd : ClassFile.Cond} {o : Int} {x y : Int32} (hd : decode bytes pc = .ok (.if_icmp cd o, 3)) (hc : if_icmp.holds cd x y = false) (hp : pc' = pc + 3) (g : Go p e below s K N h0 ws Q T (mkF m pc' Ls st)) : Go p e below s K N h0 ws Q T (mkF m pc Ls (.int y :: .int x :: st)) := by
  subst hp; obtain ⟨L, X, -⟩ := X; exact Go.to (fun t k => XS.icmpNo X.here B.1 rfl (hb B.2.2.1 hd) rfl hc k) g
theorem gnullN (B : Fix p Z s m meth c bytes maxL own nm ret) (X : St p l e R s m args below meth c h0 ws T h cells slots) {a : Addr} {o : Int} (hd : decode bytes pc = .ok (.ifnull o, 3)) (hp : pc' = pc + 3) (g : Go p e below s K N h0 ws Q T (mkF m pc' Ls st)) : Go p e below s K N h0 ws Q T (mkF m pc Ls (.ref a :: st)) := by
  subst hp; obtain ⟨L, X, -⟩ := X; exact Go.to (fun t k => XS.ifnullNo X.here B.1 rfl (hb B.2.2.1 hd) rfl k) g
theorem gldc (B : Fix p Z s m meth c bytes maxL own nm ret) (X : St p l e R s m args below meth c h0 ws T h cells slots) {i : Nat} {v : Int32} (w : (Cond.constant own i v).before a0 Z = true) (hd : decode bytes pc = .ok (.ldc i, 2)) (hp : pc' = pc + 2) (g : Go p e below s K N h0 ws Q T (mkF m pc' Ls (.int v :: st))) : Go p e below s K N h0 ws Q T (mkF m pc Ls st) := by
  subst hp; obtain ⟨L, X, -⟩ := X; exact Go.to (fun t k => X.ldcInt B.1 B.2.2.2.2.1 (mvT B.2.1 w) (g := mkF m pc Ls st) rfl (hb B.2.2.1 hd) t k) g
theorem gldcw (B : Fix p Z s m meth c bytes maxL own nm ret) (X : St p l e R s m args below meth c h0 ws T h cells slots) {i : Nat} {v : Int32} (w : (Cond.constant own i v).before a0 Z = true) (hd : decode bytes pc = .ok (.ldc_w i, 3)) (hp : pc' = pc + 3) (g : Go p e below s K N h0 ws Q T (mkF m pc' Ls (.int v :: st))) : Go p e below s K N h0 ws Q T (mkF m pc Ls st) := by
  subst hp; obtain ⟨L, X, -⟩ := X; exact Go.to (fun t k => X.ldcwInt B.1 B.2.2.2.2.1 (mvT B.2.1 w) (g := mkF m pc Ls st) rfl (hb B.2.2.1 hd) t k) g
theorem gldc2 (B : Fix p Z s m meth c bytes maxL own nm ret) (X : St p l e R s m args below meth c h0 ws T h cells slots) {i : Nat} {v : Int64} (w : (Cond.constantLong own i v).before a0 Z = true) (hd : decode bytes pc = .ok (.ldc2_w i, 3)) (hp : pc' = pc + 3) (g : Go p e below s K N h0 ws Q T (mkF m pc' Ls (.long v :: st))) : Go p e below s K N h0 ws Q T (mkF m pc Ls st) := by
  subst hp; obtain ⟨L, X, -⟩ := X; exact Go.to (fun t k => X.ldc2Long B.1 B.2.2.2.2.1 (mvT B.2.1 w) (g := mkF m pc Ls st) rfl (hb B.2.2.1 hd) t k) g
theorem giaload (B : Fix p Z s m meth c bytes maxL own nm ret) (X : St p l e R s m args below meth c h0 ws T h cells slots) {a : Addr} {vs : List Value} {j : Int32} {v : Value} {n : Nat} (A : VA Z h a .int vs) (hn : vs.length = n) (hj : 0 ≤ j.toInt ∧ j.toInt < n) (hv : vs[j.toNatClampNeg]? = some v) (hd : decode bytes pc = .ok (.iaload, 1)) (hp : pc' = pc + 1) (g : Go p e below s K N h0 ws Q T (mkF m pc' Ls (v :: st))) : Go p e below s K N h0 ws Q T (mkF m pc Ls (.int j :: .ref a :: st)) := by
  subst hp; subst hn; obtain ⟨L, X, eT, -⟩ := X; obtain ⟨cl, A, r, n⟩ := A
  exact Go.to (fun t k => X.iaload B.1 (by rw [eT]; exact A.1) (State.isArrayOf_alike B.2.1.alike A.2.1) A.2.2 (by rw [r]; exact inb (by simpa using hj)) (by rw [r]; simpa using hv) (g := mkF m pc Ls (.int j :: .ref a :: st)) rfl rfl (hb B.2.2.1 hd) t k) g
theorem glaload (B : Fix p Z s m meth c bytes maxL own nm ret) (X : St p l e R s m args below meth c h0 ws T h cells slots) {a : Addr} {vs : List Value} {j : Int32} {v : Value} {n : Nat} (A : VA Z h a .long vs) (hn : vs.length = n) (hj : 0 ≤ j.toInt ∧ j.toInt < n) (hv : vs[j.toNatClampNeg]? = some v) (hd : decode bytes pc = .ok (.laload, 1)) (hp : pc' = pc + 1) (g : Go p e below s K N h0 ws Q T (mkF m pc' Ls (v :: st))) : Go p e below s K N h0 ws Q T (mkF m pc Ls (.int j :: .ref a :: st)) := by
  subst hp; subst hn; obtain ⟨L, X, eT, -⟩ := X; obtain ⟨cl, A, r, n⟩ := A
  exact Go.to (fun t k => X.laload B.1 (by rw [eT]; exact A.1) (State.isArrayOf_alike B.2.1.alike A.2.1) A.2.2 (by rw [r]; exact inb (by simpa using hj)) (by rw [r]; simpa using hv) (g := mkF m pc Ls (.int j :: .ref a :: st)) rfl rfl (hb B.2.2.1 hd) t k) g
theorem gbaload (B : Fix p Z s m meth c bytes maxL own nm ret) (X : St p l e R s m args below meth c h0 ws T h cells slots) {a : Addr} {vs : List Value} {j : Int32} {v : Value} {n : Nat} (A : VA Z h a .byte vs) (hn : vs.length = n) (hj : 0 ≤ j.toInt ∧ j.toInt < n) (hv : vs[j.toNatClampNeg]? = some v) (hd : decode bytes pc = .ok (.baload, 1)) (hp : pc' = pc + 1) (g : Go p e below s K N h0 ws Q T (mkF m pc' Ls (v :: st))) : Go p e below s K N h0 ws Q T (mkF m pc Ls (.int j :: .ref a :: st)) := by
  subst hp; subst hn; obtain ⟨L, X, eT, -⟩ := X; obtain ⟨cl, A, r, n⟩ := A
  exact Go.to (fun t k => X.baloadBytes B.1 (by rw [eT]; exact A.1) (State.isArrayOf_alike B.2.1.alike A.2.1) A.2.2 (by rw [r]; exact inb (by simpa using hj)) (by rw [r]; simpa using hv) (g := mkF m pc Ls (.int j :: .ref a :: st)) rfl rfl (hb B.2.2.1 hd) t k) g
theorem gzaload (B : Fix p Z s m meth c bytes maxL own nm ret) (X : St p l e R s m args below meth c h0 ws T h cells slots) {a : Addr} {vs : List Value} {j : Int32} {v : Value} {n : Nat} (A : VA Z h a .boolean vs) (hn : vs.length = n) (hj : 0 ≤ j.toInt ∧ j.toInt < n) (hv : vs[j.toNatClampNeg]? = some v) (hd : decode bytes pc = .ok (.baload, 1)) (hp : pc' = pc + 1) (g : Go p e below s K N h0 ws Q T (mkF m pc' Ls (v :: st))) : Go p e below s K N h0 ws Q T (mkF m pc Ls (.int j :: .ref a :: st)) := by
  subst hp; subst hn; obtain ⟨L, X, eT, -⟩ := X; obtain ⟨cl, A, r, n⟩ := A
  exact Go.to (fun t k => X.baloadBooleans B.1 (by rw [eT]; exact A.1) (State.isArrayOf_alike B.2.1.alike A.2.1) A.2.2 (by rw [r]; exact inb (by simpa using hj)) (by rw [r]; simpa using hv) (g := mkF m pc Ls (.int j :: .ref a :: st)) rfl rfl (hb B.2.2.1 hd) t k) g
theorem glength (B : Fix p Z s m meth c bytes maxL own nm ret) (X : St p l e R s m args below meth c h0 ws T h cells slots) {a : Addr} {ty : FieldType} {vs : List Value} {n : Int32} {k : Nat} (A : VA Z h a ty vs) (hk : vs.length = k) (hn : n.toInt = k) (hd : decode bytes pc = .ok (.arraylength, 1)) (hp : pc' = pc + 1) (g : Go p e below s K N h0 ws Q T (mkF m pc' Ls (.int n :: st))) : Go p e below s K N h0 ws Q T (mkF m pc Ls (.ref a :: st)) := by
  subst hp; subst hk; obtain ⟨L, X, eT, -⟩ := X; obtain ⟨cl, A, r, q⟩ := A
  have e1 : cl.slots.size.toInt32 = n := by rw [r]; apply Int32.toInt_inj.mp; rw [len_toInt (by simpa using q), hn]; simp
  exact Go.to (fun t k => X.arraylength B.1 (by rw [eT]; exact A.1) (State.isArrayOf_alike B.2.1.alike A.2.1) (g := mkF m pc Ls (.ref a :: st)) rfl rfl (hb B.2.2.1 hd) t (by rw [e1]; exact k)) g
theorem giastore (B : Fix p Z s m meth c bytes maxL own nm ret) (X : St p l e R s m args below meth c h0 ws T h cells slots) {a : Addr} {vs vs' : List Value} {j : Int32} {x : Int32} {i n : Nat} (A : VA Z h a .int vs) (hn : vs.length = n) (hj : 0 ≤ j.toInt ∧ j.toInt < n) (hi : j.toNatClampNeg = i) (hvs : vs.set i (.int x) = vs') (ha : a ∈ ws ∨ h0.size ≤ a) (hd : decode bytes pc = .ok (.iastore, 1)) (hp : pc' = pc + 1) (g : ∀ T' h', St p l e R s m args below meth c h0 ws T' h' cells slots → Wr h h' a i (.int x) → VA Z h' a .int vs' → Go p e below s K N h0 ws Q T' (mkF m pc' Ls st)) : Go p e below s K N h0 ws Q T (mkF m pc Ls (.int x :: .int j :: .ref a :: st)) := by
  subst hp; subst hi; subst hvs; subst hn; obtain ⟨L, X, eT, KK, FF⟩ := X; have A0 := A; obtain ⟨cl, A, r, n⟩ := A
  obtain ⟨T', h', X', e', W, k⟩ := stI X B.1 B.2.1 eT A (by rw [r]; exact inb (by simpa using hj)) (g := mkF m pc Ls (.int x :: .int j :: .ref a :: st)) rfl rfl (hb B.2.2.1 hd)
  exact Go.to k (g T' h' ⟨_, X', e', KK.wr W ha, fun y hy => (List.mem_append.mp hy).elim (FF y) fun q => by cases List.mem_singleton.mp q; exact ha⟩ W (A0.set W))
theorem glastore (B : Fix p Z s m meth c bytes maxL own nm ret) (X : St p l e R s m args below meth c h0 ws T h cells slots) {a : Addr} {vs vs' : List Value} {j : Int32} {x : Int64} {i n : Nat} (A : VA Z h a .long vs) (hn : vs.length = n) (hj : 0 ≤ j.toInt ∧ j.toInt < n) (hi : j.toNatClampNeg = i) (hvs : vs.set i (.long x) = vs') (ha : a ∈ ws ∨ h0.size ≤ a) (hd : decode bytes pc = .ok (.lastore, 1)) (hp : pc' = pc + 1) (g : ∀ T' h', St p l e R s m args below meth c h0 ws T' h' cells slots → Wr h h' a i (.long x) → VA Z h' a .long vs' → Go p e below s K N h0 ws Q T' (mkF m pc' Ls st)) : Go p e below s K N h0 ws Q T (mkF m pc Ls (.long x :: .int j :: .ref a :: st)) := by
  subst hp; subst hi; subst hvs; subst hn; obtain ⟨L, X, eT, KK, FF⟩ := X; have A0 := A; obtain ⟨cl, A, r, n⟩ := A
  obtain ⟨T', h', X', e', W, k⟩ := stJ X B.1 B.2.1 eT A (by rw [r]; exact inb (by simpa using hj)) (g := mkF m pc Ls (.long x :: .int j :: .ref a :: st)) rfl rfl (hb B.2.2.1 hd)
  exact Go.to k (g T' h' ⟨_, X', e', KK.wr W ha, fun y hy => (List.mem_append.mp hy).elim (FF y) fun q => by cases List.mem_singleton.mp q; exact ha⟩ W (A0.set W))
theorem gbastore (B : Fix p Z s m meth c bytes maxL own nm ret) (X : St p l e R s m args below meth c h0 ws T h cells slots) {a : Addr} {vs vs' : List Value} {j : Int32} {x : Int32} {i n : Nat} (A : VA Z h a .byte vs) (hn : vs.length = n) (hj : 0 ≤ j.toInt ∧ j.toInt < n) (hi : j.toNatClampNeg = i) (hvs : vs.set i (.int x.toInt8.toInt32) = vs') (ha : a ∈ ws ∨ h0.size ≤ a) (hd : decode bytes pc = .ok (.bastore, 1)) (hp : pc' = pc + 1) (g : ∀ T' h', St p l e R s m args below meth c h0 ws T' h' cells slots → Wr h h' a i (.int x.toInt8.toInt32) → VA Z h' a .byte vs' → Go p e below s K N h0 ws Q T' (mkF m pc' Ls st)) : Go p e below s K N h0 ws Q T (mkF m pc Ls (.int x :: .int j :: .ref a :: st)) := by
  subst hp; subst hi; subst hvs; subst hn; obtain ⟨L, X, eT, KK, FF⟩ := X; have A0 := A; obtain ⟨cl, A, r, n⟩ := A
  obtain ⟨T', h', X', e', W, k⟩ := stB X B.1 B.2.1 eT A (by rw [r]; exact inb (by simpa using hj)) (g := mkF m pc Ls (.int x :: .int j :: .ref a :: st)) rfl rfl (hb B.2.2.1 hd)
  exact Go.to k (g T' h' ⟨_, X', e', KK.wr W ha, fun y hy => (List.mem_append.mp hy).elim (FF y) fun q => by cases List.mem_singleton.mp q; exact ha⟩ W (A0.set W))
theorem gzastore (B : Fix p Z s m meth c bytes maxL own nm ret) (X : St p l e R s m args below meth c h0 ws T h cells slots) {a : Addr} {vs vs' : List Value} {j : Int32} {x : Int32} {i n : Nat} (A : VA Z h a .boolean vs) (hn : vs.length = n) (hj : 0 ≤ j.toInt ∧ j.toInt < n) (hi : j.toNatClampNeg = i) (hvs : vs.set i (.int (x &&& 1)) = vs') (ha : a ∈ ws ∨ h0.size ≤ a) (hd : decode bytes pc = .ok (.bastore, 1)) (hp : pc' = pc + 1) (g : ∀ T' h', St p l e R s m args below meth c h0 ws T' h' cells slots → Wr h h' a i (.int (x &&& 1)) → VA Z h' a .boolean vs' → Go p e below s K N h0 ws Q T' (mkF m pc' Ls st)) : Go p e below s K N h0 ws Q T (mkF m pc Ls (.int x :: .int j :: .ref a :: st)) := by
  subst hp; subst hi; subst hvs; subst hn; obtain ⟨L, X, eT, KK, FF⟩ := X; have A0 := A; obtain ⟨cl, A, r, n⟩ := A
  obtain ⟨T', h', X', e', W, k⟩ := stZ X B.1 B.2.1 eT A (by rw [r]; exact inb (by simpa using hj)) (g := mkF m pc Ls (.int x :: .int j :: .ref a :: st)) rfl rfl (hb B.2.2.1 hd)
  exact Go.to k (g T' h' ⟨_, X', e', KK.wr W ha, fun y hy => (List.mem_append.mp hy).elim (FF y) fun q => by cases List.mem_singleton.mp q; exact ha⟩ W (A0.set W))
theorem gnewarray (B : Fix p Z s m meth c bytes maxL own nm ret) (X : St p l e R s m args below meth c h0 ws T h cells slots) {aty : ArrayType} {n : Int32} {cap : Nat} {vs : List Value} {ty : FieldType} (hty : newarray.typeOf aty = ty) (hvs : List.replicate n.toNatClampNeg (defaultValue ty) = vs) (w : (Cond.arrayClass ty).before a0 Z = true) (hn : 0 ≤ n.toInt) (hcap : n.toInt ≤ cap) (hb8 : cap * 8 ≤ 536870912) (hc : cells + 1 ≤ R.cells) (hl : slots + cap ≤ R.slots) (hd : decode bytes pc = .ok (.newarray aty, 2)) (hp : pc' = pc + 2) (g : ∀ T' h' a, St p l e R s m args below meth c h0 ws T' h' (cells + 1) (slots + cap) → a = h.size → Ext h h' → h0.size ≤ a → VA Z h' a ty vs → Go p e below s K N h0 ws Q T' (mkF m pc' Ls (.ref a :: st))) : Go p e below s K N h0 ws Q T (mkF m pc Ls (.int n :: st)) := by
  subst hp; subst hty; subst hvs; obtain ⟨L, X, eT, KK, FF⟩ := X
  have hn' : ¬ n < 0 := by rw [Int32.lt_iff_toInt_lt, show (0 : Int32).toInt = 0 from rfl]; omega
  obtain ⟨T', h', cA, X', e', E, A, k⟩ := newP X B.1 B.2.1 w eT (g := mkF m pc Ls (.int n :: st)) rfl (hb B.2.2.1 hd) rfl hn' (cap := cap) (by simp only [Int32.toNatClampNeg]; omega) hb8 hc hl
  exact Go.to k (g T' h' _ ⟨_, X', e', KK.ext E, FF⟩ rfl E KK.1 (VA.new A hn'))
theorem gget (B : Fix p Z s m meth c bytes maxL own nm ret) (X : St p l e R s m args below meth c h0 ws T h cells slots) {a : Addr} {i : Nat} {C n d : String} {v : Value} (w : (Cond.fieldLink own i C n d).before a0 Z = true) (F : Fld Z h a C n d v) (hd : decode bytes pc = .ok (.getfield i, 3)) (hp : pc' = pc + 3) (g : ∀ T', St p l e R s m args below meth c h0 ws T' h cells slots → Go p e below s K N h0 ws Q T' (mkF m pc' Ls (v :: st))) : Go p e below s K N h0 ws Q T (mkF m pc Ls (.ref a :: st)) := by
  subst hp; obtain ⟨L, X, eT, r⟩ := X
  obtain ⟨T', X', e', k⟩ := getF X B.1 B.2.1 B.2.2.2.2.1 (host := "") (Or.inl w) Via.refl eT F (g := mkF m pc Ls (.ref a :: st)) rfl rfl (hb B.2.2.1 hd)
  exact Go.to k (g T' ⟨L, X', e', r⟩)
theorem gput (B : Fix p Z s m meth c bytes maxL own nm ret) (X : St p l e R s m args below meth c h0 ws T h cells slots) {a : Addr} {i kk : Nat} {C O n d : String} {ty : FieldType} {v old : Value} (w : (Cond.fieldLink own i O n d).before a0 Z = true) (F : Fld Z h a O n d old) (E : Exa Z h a C) (L : (Cond.lays C O n d).before a0 Z = true ∨ ((Cond.laysFinal C O n d).before a0 Z = true ∧ own = O ∧ nm = "<init>")) (wi : (Cond.instantiable C kk).before a0 Z = true) (hty : parseFieldDescriptor d = some ty) (hn : narrow ty v = v) (hf : fits ty v = true) (ha : a ∈ ws ∨ h0.size ≤ a) (hd : decode bytes pc = .ok (.putfield i, 3)) (hp : pc' = pc + 3) (g : ∀ T' h', St p l e R s m args below meth c h0 ws T' h' cells slots → Wr h h' a (Jvm.RoadKit.slotOf Z O n d) v → Go p e below s K N h0 ws Q T' (mkF m pc' Ls st)) : Go p e below s K N h0 ws Q T (mkF m pc Ls (v :: .ref a :: st)) := by
  subst hp; obtain ⟨L0, X, eT, KK, FF⟩ := X
  obtain ⟨T', h', X', e', W, k⟩ := putF X B.1 B.2.1 B.2.2.2.2.1 (host := "") (Or.inl w) Via.refl eT F E (L.imp id fun q => ⟨q.1, q.2.1, B.2.2.2.2.2.1.trans q.2.2⟩) wi hty hn hf (g := mkF m pc Ls (v :: .ref a :: st)) rfl rfl (hb B.2.2.1 hd)
  exact Go.to k (g T' h' ⟨_, X', e', KK.wr W ha, fun y hy => (List.mem_append.mp hy).elim (FF y) fun q => by cases List.mem_singleton.mp q; exact ha⟩ W)
theorem gnew (B : Fix p Z s m meth c bytes maxL own nm ret) (X : St p l e R s m args below meth c h0 ws T h cells slots) {i n : Nat} {C : String} (w : (Cond.classLink own i C).before a0 Z = true) (wi : (Cond.instantiable C n).before a0 Z = true) (wz : (Cond.initialized C).before a0 Z = true) (hc : cells + 1 ≤ R.cells) (hl : slots + n ≤ R.slots) (hd : decode bytes pc = .ok (.new i, 3)) (hp : pc' = pc + 3) (g : ∀ T' h' a, St p l e R s m args below meth c h0 ws T' h' (cells + 1) (slots + n) → a = h.size → Ext h h' → h0.size ≤ a → Exa Z h' a C → (∀ {O nm d : String} {ty : FieldType}, Laid Z a0 C O nm d → parseFieldDescriptor d = some ty → Fld Z h' a O nm d (defaultValue ty)) → Go p e below s K N h0 ws Q T' (mkF m pc' Ls (.ref a :: st))) : Go p e below s K N h0 ws Q T (mkF m pc Ls st) := by
  subst hp; obtain ⟨L0, X, eT, KK, FF⟩ := X
  obtain ⟨T', h', X', e', E, A, D, -, k⟩ := newO X B.1 B.2.1 B.2.2.2.2.1 w wi wz eT (g := mkF m pc Ls st) rfl (hb B.2.2.1 hd) hc hl
  exact Go.to k (g T' h' _ ⟨_, X', e', KK.ext E, FF⟩ rfl E KK.1 A D)
theorem ginitO (B : Fix p Z s m meth c bytes maxL own nm ret) (X : St p l e R s m args below meth c h0 ws T h cells slots) {a : Addr} {i W : Nat} (w1 : (Cond.methodLink own i Lib.objectInit).before a0 Z = true) (w2 : (Cond.instanceMethod Lib.objectInit).before a0 Z = true) (w3 : (Cond.code Lib.objectInit ⟨#[0xb1]⟩ 1 none).before a0 Z = true) (hsz : Ls.size = maxL) (hf : 1 ≤ R.frames) (hW : (st.map fun v => v.category).sum ≤ W) (hl : W + 12 ≤ R.locals) (hd : decode bytes pc = .ok (.invokespecial i, 3)) (hp : pc' = pc + 3) (g : ∀ T', St p l e R s m args below meth c h0 ws T' h cells slots → Go p e below s K N h0 ws Q T' (mkF m pc' Ls st)) : Go p e below s K N h0 ws Q T (mkF m pc Ls (.ref a :: st)) := by
  subst hp; obtain ⟨L0, X, eT, r⟩ := X
  obtain ⟨T', X', e', k⟩ := initO X B.1 B.2.1 B.2.2.2.2.1 w1 w2 w3 eT (g := mkF m pc Ls (.ref a :: st)) rfl (hsz.trans B.2.2.2.1.symm) rfl (hb B.2.2.1 hd) hf (W := W) (by show 2 * 0 + _ ≤ _; rw [Nat.mul_zero, Nat.zero_add]; exact hW) hl
  exact Go.to k (g T' ⟨L0, X', e', r⟩)
theorem gcallS (B : Fix p Z s m meth c bytes maxL own nm ret) (X : St p l e R s m args below meth c h0 ws T h cells slots) {y : MethodName} {bytes' : ByteArray} {maxL' : Nat} {ret' : Option FieldType} {rm : Room} {ws' : List Addr} {Q' : Option Value → Heap → Prop} {stk argsL : List Value} {i W : Nat} {ps : List FieldType} {rr : Option FieldType}  (w1 : (Cond.methodLink own i y).before a0 Z = true) (w2 : (Cond.static y).before a0 Z = true) (w3 : (Cond.initialized y.cls).before a0 Z = true) (w4 : (Cond.code y bytes' maxL' ret').before a0 Z = true) (hy : y.cls ≠ "java/lang/invoke/MethodHandle" ∧ y.cls ≠ "java/lang/invoke/VarHandle") (M : Meth l Z y bytes' maxL' ret' rm argsL.toArray h ws' Q') (hpd : parseMethodDescriptor y.desc = some ⟨ps, rr⟩) (hlen : argsL.length = ps.length) (hstk : stk = argsL.reverse ++ st) (hsz : Ls.size = maxL) (hW : (st.map fun v => v.category).sum ≤ W) (hfr : rm.frames + 1 ≤ R.frames) (hlo : W + (maxL' + 11) + rm.locals ≤ R.locals) (hcs : cells + rm.cells ≤ R.cells) (hss : slots + rm.slots ≤ R.slots) (hws : ∀ x ∈ ws', x ∈ ws ∨ h0.size ≤ x) (hd : decode bytes pc = .ok (.invokestatic i, 3)) (hp : pc' = pc + 3)
    (g : ∀ T' h' v, St p l e R s m args below meth c h0 ws T' h' (cells + rm.cells) (slots + rm.slots) → Keep h h' ws' → Q' v h' → Go p e below s K N h0 ws Q T' (mkF m pc' Ls (v.toList ++ st))) : Go p e below s K N h0 ws Q T (mkF m pc Ls stk) := by
  subst hp; subst hstk; obtain ⟨L0, X, eT, KK, FF⟩ := X
  obtain ⟨v2, _, ⟨T2, L2, c2, n2⟩, -, X2, ⟨Lc2, hq, l2, y2, z2⟩, k2⟩ := Jvm.LawKit.callS X B.1 (y := y) B.2.2.2.2.1 (mvT B.2.1 w1) (mvT B.2.1 w2) (mvT B.2.1 w3) (mvT B.2.1 w4) hy (backOf (W := W) (Q := fun v h' L => Q' v h' ∧ Keep h h' ws' ∧ FrW h ws' L) (M []) B.2.1 w4 w3 hfr hlo) (g := mkF m pc Ls (argsL.reverse ++ st)) rfl (hsz.trans B.2.2.2.1.symm) (argsL := argsL) (rest := st) (lenOf hpd hlen) rfl (by show 2 * 0 + _ ≤ _; rw [Nat.mul_zero, Nat.zero_add]; exact hW) (hb B.2.2.1 hd) (fun _ _ => ⟨rfl, eT, hcs, hss⟩)
  dsimp only [Pt.U, Pt.locs, Pt.cells, Pt.slots] at X2 l2 y2 z2 k2 hq
  subst l2 y2 z2
  refine Go.to k2 (g T2 T2.heap v2 ⟨_, X2, rfl, KK.trans hq.2.1 hws, fun y hy => (List.mem_append.mp hy).elim (FF y) fun q => ?_⟩ hq.2.1 hq.1)
  exact (hq.2.2 y q).elim (fun z => hws _ z) fun z => Or.inr (Nat.le_trans KK.1 z)
theorem gcallI (B : Fix p Z s m meth c bytes maxL own nm ret) (X : St p l e R s m args below meth c h0 ws T h cells slots) {y : MethodName} {bytes' : ByteArray} {maxL' : Nat} {ret' : Option FieldType} {rm : Room} {ws' : List Addr} {Q' : Option Value → Heap → Prop} {stk argsL : List Value} {i W : Nat} {ps : List FieldType} {rr : Option FieldType} {a : Addr} (hni : y.name = "<init>") (hret : ret' = none) (w1 : (Cond.methodLink own i y).before a0 Z = true) (w2 : (Cond.instanceMethod y).before a0 Z = true) (w3 : (Cond.initialized y.cls).before a0 Z = true) (w4 : (Cond.code y bytes' maxL' ret').before a0 Z = true) (hy : y.cls ≠ "java/lang/invoke/MethodHandle" ∧ y.cls ≠ "java/lang/invoke/VarHandle") (M : Meth l Z y bytes' maxL' ret' rm (.ref a :: argsL).toArray h ws' Q') (hpd : parseMethodDescriptor y.desc = some ⟨ps, rr⟩) (hlen : argsL.length = ps.length) (hstk : stk = argsL.reverse ++ .ref a :: st) (hsz : Ls.size = maxL) (hW : (st.map fun v => v.category).sum ≤ W) (hfr : rm.frames + 1 ≤ R.frames) (hlo : W + (maxL' + 11) + rm.locals ≤ R.locals) (hcs : cells + rm.cells ≤ R.cells) (hss : slots + rm.slots ≤ R.slots) (hws : ∀ x ∈ ws', x ∈ ws ∨ h0.size ≤ x) (hd : decode bytes pc = .ok (.invokespecial i, 3)) (hp : pc' = pc + 3)
    (g : ∀ T' h' v, St p l e R s m args below meth c h0 ws T' h' (cells + rm.cells) (slots + rm.slots) → Keep h h' ws' → Q' v h' → Go p e below s K N h0 ws Q T' (mkF m pc' Ls (v.toList ++ st))) : Go p e below s K N h0 ws Q T (mkF m pc Ls stk) := by
  subst hp; subst hstk; obtain ⟨L0, X, eT, KK, FF⟩ := X
  subst hret
  obtain ⟨v2, _, ⟨T2, L2, c2, n2⟩, -, X2, ⟨Lc2, hq, l2, y2, z2⟩, k2⟩ := X.specialBack B.1 (y := y) hni B.2.2.2.2.1 (mvT B.2.1 w1) (mvT B.2.1 w2) (mvT B.2.1 w4) hy (backOf (W := W) (Q := fun v h' L => Q' v h' ∧ Keep h h' ws' ∧ FrW h ws' L) (M []) B.2.1 w4 w3 hfr hlo) (g := mkF m pc Ls (argsL.reverse ++ .ref a :: st)) rfl (hsz.trans B.2.2.2.1.symm) (Steps.refl _) (a := a) (argsL := argsL) (rest := st) (lenOf hpd hlen) rfl (by show 2 * 0 + _ ≤ _; rw [Nat.mul_zero, Nat.zero_add]; exact hW) (hb B.2.2.1 hd) (fun _ _ => ⟨rfl, eT, hcs, hss⟩)
  dsimp only [Pt.U, Pt.locs, Pt.cells, Pt.slots] at X2 l2 y2 z2 k2 hq
  subst l2 y2 z2
  refine Go.to (fun t kt => k2.trans kt) (g T2 T2.heap v2 ⟨_, X2, rfl, KK.trans hq.2.1 hws, fun y hy => (List.mem_append.mp hy).elim (FF y) fun q => ?_⟩ hq.2.1 hq.1)
  exact (hq.2.2 y q).elim (fun z => hws _ z) fun z => Or.inr (Nat.le_trans KK.1 z)
theorem gcallV (B : Fix p Z s m meth c bytes maxL own nm ret) (X : St p l e R s m args below meth c h0 ws T h cells slots) {y : MethodName} {bytes' : ByteArray} {maxL' : Nat} {ret' : Option FieldType} {rm : Room} {ws' : List Addr} {Q' : Option Value → Heap → Prop} {stk argsL : List Value} {i W : Nat} {ps : List FieldType} {rr : Option FieldType} {a : Addr} {z : MethodName} {C : String} (E : Exa Z h a C) (w1 : (Cond.methodLink own i y).before a0 Z = true) (w2 : (Cond.declares y).before a0 Z = true) (w5 : (Cond.selects C y z).before a0 Z = true) (w6 : (Cond.instanceMethod z).before a0 Z = true) (w3 : (Cond.initialized z.cls).before a0 Z = true) (w4 : (Cond.code z bytes' maxL' ret').before a0 Z = true) (hyz : y = z) (hy : y.cls ≠ "java/lang/invoke/MethodHandle" ∧ y.cls ≠ "java/lang/invoke/VarHandle") (M : Meth l Z z bytes' maxL' ret' rm (.ref a :: argsL).toArray h ws' Q') (hpd : parseMethodDescriptor y.desc = some ⟨ps, rr⟩) (hlen : argsL.length = ps.length) (hstk : stk = argsL.reverse ++ .ref a :: st) (hsz : Ls.size = maxL) (hW : (st.map fun v => v.category).sum ≤ W) (hfr : rm.frames + 1 ≤ R.frames) (hlo : W + (maxL' + 11) + rm.locals ≤ R.locals) (hcs : cells + rm.cells ≤ R.cells) (hss : slots + rm.slots ≤ R.slots) (hws : ∀ x ∈ ws', x ∈ ws ∨ h0.size ≤ x) (hd : decode bytes pc = .ok (.invokevirtual i, 3)) (hp : pc' = pc + 3)
    (g : ∀ T' h' v, St p l e R s m args below meth c h0 ws T' h' (cells + rm.cells) (slots + rm.slots) → Keep h h' ws' → Q' v h' → Go p e below s K N h0 ws Q T' (mkF m pc' Ls (v.toList ++ st))) : Go p e below s K N h0 ws Q T (mkF m pc Ls stk) := by
  subst hp; subst hstk; obtain ⟨L0, X, eT, KK, FF⟩ := X
  subst hyz
  obtain ⟨cq, kq, qa, qb, qc⟩ := isOf B.2.1 eT E
  obtain ⟨v2, _, ⟨T2, L2, c2, n2⟩, -, X2, ⟨Lc2, hq, l2, y2, z2⟩, k2⟩ := X.virtualBack B.1 (y := y) (z := y) B.2.2.2.2.1 (mvT B.2.1 w1) (mvT B.2.1 w2) (notFace_of_selects (args := #[]) (mvT B.2.1 w5)) (mvT B.2.1 w5) (mvT B.2.1 w6) hy (backOf (W := W) (Q := fun v h' L => Q' v h' ∧ Keep h h' ws' ∧ FrW h ws' L) (M []) B.2.1 w4 w3 hfr hlo) qa qc (g := mkF m pc Ls (argsL.reverse ++ .ref a :: st)) rfl (hsz.trans B.2.2.2.1.symm) (Steps.refl _) (argsL := argsL) (rest := st) (lenOf hpd hlen) rfl (by show 2 * 0 + _ ≤ _; rw [Nat.mul_zero, Nat.zero_add]; exact hW) (hb B.2.2.1 hd) (fun _ _ => ⟨rfl, eT, hcs, hss⟩)
  dsimp only [Pt.U, Pt.locs, Pt.cells, Pt.slots] at X2 l2 y2 z2 k2 hq
  subst l2 y2 z2
  refine Go.to (fun t kt => k2.trans kt) (g T2 T2.heap v2 ⟨_, X2, rfl, KK.trans hq.2.1 hws, fun y hy => (List.mem_append.mp hy).elim (FF y) fun q => ?_⟩ hq.2.1 hq.1)
  exact (hq.2.2 y q).elim (fun z => hws _ z) fun z => Or.inr (Nat.le_trans KK.1 z)
theorem gcallP (B : Fix p Z s m meth c bytes maxL own nm ret) (X : St p l e R s m args below meth c h0 ws T h cells slots) {y : MethodName} {bytes' : ByteArray} {maxL' : Nat} {ret' : Option FieldType} {rm : Room} {ws' : List Addr} {Q' : Option Value → Heap → Prop} {stk argsL : List Value} {i W : Nat} {ps : List FieldType} {rr : Option FieldType} {a : Addr} {C : String} (E : Exa Z h a C) (w1 : (Cond.methodLink own i y).before a0 Z = true) (w2 : (Cond.instanceMethod y).before a0 Z = true) (w5 : (Cond.selects y.cls y y).before a0 Z = true) (w6 : (Cond.privateMethod y).before a0 Z = true) (w3 : (Cond.initialized y.cls).before a0 Z = true) (w4 : (Cond.code y bytes' maxL' ret').before a0 Z = true) (hy : y.cls ≠ "java/lang/invoke/MethodHandle" ∧ y.cls ≠ "java/lang/invoke/VarHandle") (M : Meth l Z y bytes' maxL' ret' rm (.ref a :: argsL).toArray h ws' Q') (hpd : parseMethodDescriptor y.desc = some ⟨ps, rr⟩) (hlen : argsL.length = ps.length) (hstk : stk = argsL.reverse ++ .ref a :: st) (hsz : Ls.size = maxL) (hW : (st.map fun v => v.category).sum ≤ W) (hfr : rm.frames + 1 ≤ R.frames) (hlo : W + (maxL' + 11) + rm.locals ≤ R.locals) (hcs : cells + rm.cells ≤ R.cells) (hss : slots + rm.slots ≤ R.slots) (hws : ∀ x ∈ ws', x ∈ ws ∨ h0.size ≤ x) (hd : decode bytes pc = .ok (.invokevirtual i, 3)) (hp : pc' = pc + 3)
    (g : ∀ T' h' v, St p l e R s m args below meth c h0 ws T' h' (cells + rm.cells) (slots + rm.slots) → Keep h h' ws' → Q' v h' → Go p e below s K N h0 ws Q T' (mkF m pc' Ls (v.toList ++ st))) : Go p e below s K N h0 ws Q T (mkF m pc Ls stk) := by
  subst hp; subst hstk; obtain ⟨L0, X, eT, KK, FF⟩ := X
  obtain ⟨cq, q, q'⟩ := E.cell
  obtain ⟨v2, _, ⟨T2, L2, c2, n2⟩, -, X2, ⟨Lc2, hq, l2, y2, z2⟩, k2⟩ := X.privateBack B.1 (y := y) B.2.2.2.2.1 (mvT B.2.1 w1) (mvT B.2.1 w2) (mvT B.2.1 w5) (Cond.privateMethod_at (mvP B.2.1 w6 (args := #[]))) (mvT B.2.1 w4) hy (backOf (W := W) (Q := fun v h' L => Q' v h' ∧ Keep h h' ws' ∧ FrW h ws' L) (M []) B.2.1 w4 w3 hfr hlo) (g := mkF m pc Ls (argsL.reverse ++ .ref a :: st)) rfl (hsz.trans B.2.2.2.1.symm) (Steps.refl _) (a := a) (by rw [eT]; exact q) q' (argsL := argsL) (rest := st) (lenOf hpd hlen) rfl (by show 2 * 0 + _ ≤ _; rw [Nat.mul_zero, Nat.zero_add]; exact hW) (hb B.2.2.1 hd) (fun _ _ => ⟨rfl, eT, hcs, hss⟩)
  dsimp only [Pt.U, Pt.locs, Pt.cells, Pt.slots] at X2 l2 y2 z2 k2 hq
  subst l2 y2 z2
  refine Go.to (fun t kt => k2.trans kt) (g T2 T2.heap v2 ⟨_, X2, rfl, KK.trans hq.2.1 hws, fun y hy => (List.mem_append.mp hy).elim (FF y) fun q => ?_⟩ hq.2.1 hq.1)
  exact (hq.2.2 y q).elim (fun z => hws _ z) fun z => Or.inr (Nat.le_trans KK.1 z)
theorem pureG {rm : Room} {r : Value} {ws' : List Addr} (hc : rm.cells = 0) (hs : rm.slots = 0) (g : ∀ T', St p l e R s m args below meth c h0 ws T' h cells slots → Go p e below s K N h0 ws Q T' (mkF m pc' Ls (r :: st))) : ∀ T' h' v, St p l e R s m args below meth c h0 ws T' h' (cells + rm.cells) (slots + rm.slots) → Keep h h' ws' → (v = some r ∧ h' = h) → Go p e below s K N h0 ws Q T' (mkF m pc' Ls (v.toList ++ st)) := by
  rintro T' h' v X k ⟨rfl, rfl⟩
  rw [hc, hs] at X; exact g T' X
theorem pureV {rm : Room} {r : Value} {ws' : List Addr} (hc : rm.cells = 0) (hs : rm.slots = 0) (g : ∀ T', St p l e R s m args below meth c h0 ws T' h cells slots → Go p e below s K N h0 ws Q T' (mkF m pc' Ls st)) : ∀ T' h' v, St p l e R s m args below meth c h0 ws T' h' (cells + rm.cells) (slots + rm.slots) → Keep h h' ws' → (v = none ∧ h' = h) → Go p e below s K N h0 ws Q T' (mkF m pc' Ls (v.toList ++ st)) := by
  rintro T' h' v X k ⟨rfl, rfl⟩
  rw [hc, hs] at X; exact g T' X
theorem nbb (x : Int32) : x.toInt8.toInt32.toInt8.toInt32 = x.toInt8.toInt32 := by simp
theorem nb (x : Int32) : nar .byte x.toInt8.toInt32 = x.toInt8.toInt32 := by simp [nar]
theorem retI (X : Stand p l e R s m args below meth c T locs cells slots) (hx : p.tables.exec = Jvm.exec) {z : Int32} {rest : List Value} (hret : meth.sig.returnType = some .int) (hd : decode c.code pc = .ok (.ireturn, 1)) {fs : List Frame}
    (hl : ∀ (f : JFrame) (acts : List Action), f.method = m → f.locked = none → f.entered = [] → (doReturn e (T.setTop f) acts (some (.int z))).1 = T.setFrames fs) : Steps p.tables e below (T.setTop (mkF m pc Ls (.int z :: rest))) (T.setFrames fs) := by
  have hm' : T.vm.method? m = some meth := X.method'
  have hn : narrow .int (.int z) = .int z := rfl
  show Steps p.tables e below (T.setTop { method := m, pc := pc, locals := Ls, stack := _ :: rest, locked := none }) _
  jvm_step X.here [X.here.top, hx, hd, hm', hret, hn]
  first | (intro acts; rw [hl _ acts rfl rfl rfl]) | rw [hl _ _ rfl rfl rfl]
  exact Steps.refl _
theorem gretI (B : Fix p Z s m meth c bytes maxL own nm (some .int)) (X : St p l e R s m args below meth c h0 ws T h cells slots) {z : Int32} (hd : decode bytes pc = .ok (.ireturn, 1)) (hk : cells ≤ K) (hn : slots ≤ N) (hQ : Q (some (.int z)) h) : Go p e below s K N h0 ws Q T (mkF m pc Ls (.int z :: st)) := by
  obtain ⟨L0, X, eT, KK, FF⟩ := X; have hlk := B.2.2.2.2.2.2.2; have hrt := B.2.2.2.2.2.2.1
  obtain ⟨fs, hr, hrun, hended, hW, hsame⟩ := X.leave (v := some (.int z)) (fun h => by rw [hrt] at h; cases h) hlk
  exact ⟨_, _, retI X B.1 hrt (hb B.2.2.1 hd) hr, hrun, hended, _, _, rfl, ⟨by show Q _ T.heap; rw [eT]; exact hQ, by show Keep h0 T.heap ws; rw [eT]; exact KK, FF⟩, ⟨_, rfl⟩, hW, hsame.mono hk hn⟩
theorem gretN {t : FieldType} (B : Fix p Z s m meth c bytes maxL own nm (some t)) (X : St p l e R s m args below meth c h0 ws T h cells slots) {z z' : Int32} (ht : t = .boolean ∨ t = .byte ∨ t = .char ∨ t = .short) (hz : nar t z = z') (hd : decode bytes pc = .ok (.ireturn, 1)) (hk : cells ≤ K) (hn : slots ≤ N) (hQ : Q (some (.int z')) h) : Go p e below s K N h0 ws Q T (mkF m pc Ls (.int z :: st)) := by
  subst hz; obtain ⟨L0, X, eT, KK, FF⟩ := X; have hlk := B.2.2.2.2.2.2.2; have hrt := B.2.2.2.2.2.2.1
  obtain ⟨fs, hr, hrun, hended, hW, hsame⟩ := X.leave (v := some (.int (nar t z))) (fun h => by rw [hrt] at h; cases h) hlk
  exact ⟨_, _, retN X B.1 hrt ht (hb B.2.2.1 hd) hr, hrun, hended, _, _, rfl, ⟨by show Q _ T.heap; rw [eT]; exact hQ, by show Keep h0 T.heap ws; rw [eT]; exact KK, FF⟩, ⟨_, rfl⟩, hW, hsame.mono hk hn⟩
theorem gretL (B : Fix p Z s m meth c bytes maxL own nm (some .long)) (X : St p l e R s m args below meth c h0 ws T h cells slots) {z : Int64} (hd : decode bytes pc = .ok (.lreturn, 1)) (hk : cells ≤ K) (hn : slots ≤ N) (hQ : Q (some (.long z)) h) : Go p e below s K N h0 ws Q T (mkF m pc Ls (.long z :: st)) := by
  obtain ⟨L0, X, eT, KK, FF⟩ := X; have hlk := B.2.2.2.2.2.2.2; have hrt := B.2.2.2.2.2.2.1
  obtain ⟨fs, hr, hrun, hended, hW, hsame⟩ := X.leave (v := some (.long z)) (fun h => by rw [hrt] at h; cases h) hlk
  exact ⟨_, _, retOut X B.1 hrt rfl (Or.inr (Or.inl ⟨rfl, rfl, _, rfl⟩)) (hb B.2.2.1 hd) hr, hrun, hended, _, _, rfl, ⟨by show Q _ T.heap; rw [eT]; exact hQ, by show Keep h0 T.heap ws; rw [eT]; exact KK, FF⟩, ⟨_, rfl⟩, hW, hsame.mono hk hn⟩
theorem gretA {t : FieldType} (B : Fix p Z s m meth c bytes maxL own nm (some t)) (X : St p l e R s m args below meth c h0 ws T h cells slots) {a : Addr} (ht : t.isReference = true) (hnn : narrow t (.ref a) = .ref a) (hd : decode bytes pc = .ok (.areturn, 1)) (hk : cells ≤ K) (hn : slots ≤ N) (hQ : Q (some (.ref a)) h) : Go p e below s K N h0 ws Q T (mkF m pc Ls (.ref a :: st)) := by
  obtain ⟨L0, X, eT, KK, FF⟩ := X; have hlk := B.2.2.2.2.2.2.2; have hrt := B.2.2.2.2.2.2.1
  obtain ⟨fs, hr, hrun, hended, hW, hsame⟩ := X.leave (v := some (.ref a)) (fun h => by rw [hrt] at h; cases h) hlk
  exact ⟨_, _, retOut X B.1 hrt hnn (Or.inr (Or.inr (Or.inr (Or.inr ⟨rfl, ht, rfl⟩)))) (hb B.2.2.1 hd) hr, hrun, hended, _, _, rfl, ⟨by show Q _ T.heap; rw [eT]; exact hQ, by show Keep h0 T.heap ws; rw [eT]; exact KK, FF⟩, ⟨_, rfl⟩, hW, hsame.mono hk hn⟩
theorem gretV (B : Fix p Z s m meth c bytes maxL own nm none) (X : St p l e R s m args below meth c h0 ws T h cells slots)  (hd : decode bytes pc = .ok (.return_, 1)) (hk : cells ≤ K) (hn : slots ≤ N) (hQ : Q (none) h) : Go p e below s K N h0 ws Q T (mkF m pc Ls []) := by
  obtain ⟨L0, X, eT, KK, FF⟩ := X; have hlk := B.2.2.2.2.2.2.2; have hrt := B.2.2.2.2.2.2.1
  obtain ⟨fs, hr, hrun, hended, hW, hsame⟩ := X.leave (v := none) (fun h => rfl) hlk
  exact ⟨_, _, X.returnOut B.1 hrt (hb B.2.2.1 hd) hr, hrun, hended, _, _, rfl, ⟨by show Q _ T.heap; rw [eT]; exact hQ, by show Keep h0 T.heap ws; rw [eT]; exact KK, FF⟩, ⟨_, rfl⟩, hW, hsame.mono hk hn⟩
end Go
end Jvm.OwnKit
namespace Jvm.Pilot.@@N@@
open Jvm Jvm.ClassFile Sem Op Lib Jvm.Free Jvm.Stand Jvm.LawKit Jvm.RoadKit Jvm.OwnKit Bundle Jvm.Pilot.@@N@@.Jvm.D
theorem d1_0 : decode prog_55_method_3_code 0 = .ok (.iload_n 0, 1) := by decide +kernel
theorem d1_1 : decode prog_55_method_3_code 1 = .ok (.bipush 65, 2) := by decide +kernel
theorem d1_3 : decode prog_55_method_3_code 3 = .ok (.if_icmp .lt 9, 3) := by decide +kernel
theorem d1_6 : decode prog_55_method_3_code 6 = .ok (.iload_n 0, 1) := by decide +kernel
theorem d1_7 : decode prog_55_method_3_code 7 = .ok (.bipush 90, 2) := by decide +kernel
theorem d1_9 : decode prog_55_method_3_code 9 = .ok (.if_icmp .le 15, 3) := by decide +kernel
theorem d1_12 : decode prog_55_method_3_code 12 = .ok (.iload_n 0, 1) := by decide +kernel
theorem d1_13 : decode prog_55_method_3_code 13 = .ok (.bipush 97, 2) := by decide +kernel
theorem d1_15 : decode prog_55_method_3_code 15 = .ok (.if_icmp .lt 13, 3) := by decide +kernel
theorem d1_18 : decode prog_55_method_3_code 18 = .ok (.iload_n 0, 1) := by decide +kernel
theorem d1_19 : decode prog_55_method_3_code 19 = .ok (.bipush 122, 2) := by decide +kernel
theorem d1_21 : decode prog_55_method_3_code 21 = .ok (.if_icmp .gt 7, 3) := by decide +kernel
theorem d1_24 : decode prog_55_method_3_code 24 = .ok (.iconst 1, 1) := by decide +kernel
theorem d1_25 : decode prog_55_method_3_code 25 = .ok (.goto 4, 3) := by decide +kernel
theorem d1_28 : decode prog_55_method_3_code 28 = .ok (.iconst 0, 1) := by decide +kernel
theorem d1_29 : decode prog_55_method_3_code 29 = .ok (.ireturn, 1) := by decide +kernel
theorem pn1 : plainFor (⟨"com/example/dokaz/dokaz/field/Syntax", "isAlpha", "(I)Z"⟩ : MethodName) = true := plainFor_of_name (by first | (simp [plainName, overriddenIn]; done) | decide +kernel)
theorem ef1_I (m : MethodId) (x0 : Int32) : entryFrame m #[(.int x0)] 1 = mkF m 0 #[.val (.int x0)] [] := by first | (simp [entryFrame, mkF, argsToLocals, Value.category]; done) | rfl
def f1 (p0 : Int32) : Int32 := if p0 < (65 : Int32) then (if p0 < (97 : Int32) then (0 : Int32) else (if (122 : Int32) < p0 then (0 : Int32) else ((1 : Int32)))) else (if (90 : Int32) < p0 then (if p0 < (97 : Int32) then (0 : Int32) else (if (122 : Int32) < p0 then (0 : Int32) else ((1 : Int32)))) else ((1 : Int32)))
def rmr1 : Room := { frames := 0, cells := 0, slots := 0, locals := 0 }
set_option maxRecDepth 65536 in
set_option maxHeartbeats 4000000 in
theorem mt1 (l : Launch) (Z : State) (a0 : Array Value) (hw : ∀ d ∈ tables_1, d.before a0 Z = true) (p0 : Int32)  (h0 : Heap) : Meth l Z (⟨"com/example/dokaz/dokaz/field/Syntax", "isAlpha", "(I)Z"⟩ : MethodName) prog_55_method_3_code 1 (some .boolean) rmr1 #[(.int p0)] h0 [] (fun v h' => v = some (.int (f1 p0)) ∧ h' = h0) := by
  refine Meth.of pn1 ?_
  intro p e s m below meth c T B X
  refine Go.entry (ef1_I m p0) ?_
  refine giloadN B X d1_0 rfl rfl ?_
  refine gbipush B X d1_1 (v := (65 : Int32)) rfl rfl ?_
  by_cases c3_1 : p0 < (65 : Int32)
  · refine gicY B X (pc' := 12) d1_3 (tlt c3_1).1 (by decide) ?_
    refine giloadN B X d1_12 rfl rfl ?_
    refine gbipush B X d1_13 (v := (97 : Int32)) rfl rfl ?_
    by_cases c15_2 : p0 < (97 : Int32)
    · refine gicY B X (pc' := 28) d1_15 (tlt c15_2).1 (by decide) ?_
      refine giconst B X d1_28 (v := (0 : Int32)) rfl rfl ?_
      exact gretN B X (z' := (0 : Int32)) (by simp) (rfl) d1_29 (by decide) (by decide) (⟨by rw [f1, if_pos c3_1, if_pos c15_2], rfl⟩)
    · refine gicN B X d1_15 (flt c15_2).1 rfl ?_
      refine giloadN B X d1_18 rfl rfl ?_
      refine gbipush B X d1_19 (v := (122 : Int32)) rfl rfl ?_
      by_cases c21_3 : (122 : Int32) < p0
      · refine gicY B X (pc' := 28) d1_21 (tlt c21_3).2.2.1 (by decide) ?_
        refine giconst B X d1_28 (v := (0 : Int32)) rfl rfl ?_
        exact gretN B X (z' := (0 : Int32)) (by simp) (rfl) d1_29 (by decide) (by decide) (⟨by rw [f1, if_pos c3_1, if_neg c15_2, if_pos c21_3], rfl⟩)
      · refine gicN B X d1_21 (flt c21_3).2.2.1 rfl ?_
        refine giconst B X d1_24 (v := (1 : Int32)) rfl rfl ?_
        refine ggoto B X (pc' := 29) d1_25 (by decide) ?_
        exact gretN B X (z' := (1 : Int32)) (by simp) (rfl) d1_29 (by decide) (by decide) (⟨by rw [f1, if_pos c3_1, if_neg c15_2, if_neg c21_3], rfl⟩)
  · refine gicN B X d1_3 (flt c3_1).1 rfl ?_
    refine giloadN B X d1_6 rfl rfl ?_
    refine gbipush B X d1_7 (v := (90 : Int32)) rfl rfl ?_
    by_cases c9_4 : (90 : Int32) < p0
    · refine gicN B X d1_9 (tlt c9_4).2.2.2 rfl ?_
      refine giloadN B X d1_12 rfl rfl ?_
      refine gbipush B X d1_13 (v := (97 : Int32)) rfl rfl ?_
      by_cases c15_5 : p0 < (97 : Int32)
      · refine gicY B X (pc' := 28) d1_15 (tlt c15_5).1 (by decide) ?_
        refine giconst B X d1_28 (v := (0 : Int32)) rfl rfl ?_
        exact gretN B X (z' := (0 : Int32)) (by simp) (rfl) d1_29 (by decide) (by decide) (⟨by rw [f1, if_neg c3_1, if_pos c9_4, if_pos c15_5], rfl⟩)
      · refine gicN B X d1_15 (flt c15_5).1 rfl ?_
        refine giloadN B X d1_18 rfl rfl ?_
        refine gbipush B X d1_19 (v := (122 : Int32)) rfl rfl ?_
        by_cases c21_6 : (122 : Int32) < p0
        · refine gicY B X (pc' := 28) d1_21 (tlt c21_6).2.2.1 (by decide) ?_
          refine giconst B X d1_28 (v := (0 : Int32)) rfl rfl ?_
          exact gretN B X (z' := (0 : Int32)) (by simp) (rfl) d1_29 (by decide) (by decide) (⟨by rw [f1, if_neg c3_1, if_pos c9_4, if_neg c15_5, if_pos c21_6], rfl⟩)
        · refine gicN B X d1_21 (flt c21_6).2.2.1 rfl ?_
          refine giconst B X d1_24 (v := (1 : Int32)) rfl rfl ?_
          refine ggoto B X (pc' := 29) d1_25 (by decide) ?_
          exact gretN B X (z' := (1 : Int32)) (by simp) (rfl) d1_29 (by decide) (by decide) (⟨by rw [f1, if_neg c3_1, if_pos c9_4, if_neg c15_5, if_neg c21_6], rfl⟩)
    · refine gicY B X (pc' := 24) d1_9 (flt c9_4).2.2.2 (by decide) ?_
      refine giconst B X d1_24 (v := (1 : Int32)) rfl rfl ?_
      refine ggoto B X (pc' := 29) d1_25 (by decide) ?_
      exact gretN B X (z' := (1 : Int32)) (by simp) (rfl) d1_29 (by decide) (by decide) (⟨by rw [f1, if_neg c3_1, if_neg c9_4], rfl⟩)
theorem d2_0 : decode method_2_code 0 = .ok (.iload_n 0, 1) := by decide +kernel
theorem d2_1 : decode method_2_code 1 = .ok (.bipush 32, 2) := by decide +kernel
theorem d2_3 : decode method_2_code 3 = .ok (.ior, 1) := by decide +kernel
theorem d2_4 : decode method_2_code 4 = .ok (.bipush 97, 2) := by decide +kernel
theorem d2_6 : decode method_2_code 6 = .ok (.isub, 1) := by decide +kernel
theorem d2_7 : decode method_2_code 7 = .ok (.istore_n 1, 1) := by decide +kernel
theorem d2_8 : decode method_2_code 8 = .ok (.iload_n 1, 1) := by decide +kernel
theorem d2_9 : decode method_2_code 9 = .ok (.ifCond .lt 13, 3) := by decide +kernel
theorem d2_12 : decode method_2_code 12 = .ok (.iload_n 1, 1) := by decide +kernel
theorem d2_13 : decode method_2_code 13 = .ok (.bipush 26, 2) := by decide +kernel
theorem d2_15 : decode method_2_code 15 = .ok (.if_icmp .ge 7, 3) := by decide +kernel
theorem d2_18 : decode method_2_code 18 = .ok (.iconst 1, 1) := by decide +kernel
theorem d2_19 : decode method_2_code 19 = .ok (.goto 4, 3) := by decide +kernel
theorem d2_22 : decode method_2_code 22 = .ok (.iconst 0, 1) := by decide +kernel
theorem d2_23 : decode method_2_code 23 = .ok (.ireturn, 1) := by decide +kernel
theorem pn2 : plainFor (⟨"com/example/dokaz/dokaz/field/SyntaxIsAlphaPinLaw", "reference", "(I)Z"⟩ : MethodName) = true := plainFor_of_name (by first | (simp [plainName, overriddenIn]; done) | decide +kernel)
theorem ef2_I (m : MethodId) (x0 : Int32) : entryFrame m #[(.int x0)] 2 = mkF m 0 #[.val (.int x0), .unset] [] := by first | (simp [entryFrame, mkF, argsToLocals, Value.category]; done) | rfl
def f2 (p0 : Int32) : Int32 := if ((p0 ||| (32 : Int32)) - (97 : Int32)) < (0 : Int32) then (0 : Int32) else (if ((p0 ||| (32 : Int32)) - (97 : Int32)) < (26 : Int32) then (1 : Int32) else ((0 : Int32)))
def rmr2 : Room := { frames := 0, cells := 0, slots := 0, locals := 0 }
set_option maxRecDepth 65536 in
set_option maxHeartbeats 4000000 in
theorem mt2 (l : Launch) (Z : State) (a0 : Array Value) (hw : ∀ d ∈ tables_1, d.before a0 Z = true) (p0 : Int32)  (h0 : Heap) : Meth l Z (⟨"com/example/dokaz/dokaz/field/SyntaxIsAlphaPinLaw", "reference", "(I)Z"⟩ : MethodName) method_2_code 2 (some .boolean) rmr2 #[(.int p0)] h0 [] (fun v h' => v = some (.int (f2 p0)) ∧ h' = h0) := by
  refine Meth.of pn2 ?_
  intro p e s m below meth c T B X
  refine Go.entry (ef2_I m p0) ?_
  refine giloadN B X d2_0 rfl rfl ?_
  refine gbipush B X d2_1 (v := (32 : Int32)) rfl rfl ?_
  refine gior B X d2_3 rfl rfl ?_
  refine gbipush B X d2_4 (v := (97 : Int32)) rfl rfl ?_
  refine gisub B X d2_6 rfl rfl ?_
  refine gistoreN B X d2_7 (Ls' := #[.val (.int p0), .val (.int ((p0 ||| (32 : Int32)) - (97 : Int32)))]) rfl rfl ?_
  refine giloadN B X d2_8 rfl rfl ?_
  by_cases c9_7 : ((p0 ||| (32 : Int32)) - (97 : Int32)) < (0 : Int32)
  · refine gifY B X (pc' := 22) d2_9 ((if0 _ _).trans (tlt c9_7).1) (by decide) ?_
    refine giconst B X d2_22 (v := (0 : Int32)) rfl rfl ?_
    exact gretN B X (z' := (0 : Int32)) (by simp) (rfl) d2_23 (by decide) (by decide) (⟨by rw [f2, if_pos c9_7], rfl⟩)
  · refine gifN B X d2_9 ((if0 _ _).trans (flt c9_7).1) rfl ?_
    refine giloadN B X d2_12 rfl rfl ?_
    refine gbipush B X d2_13 (v := (26 : Int32)) rfl rfl ?_
    by_cases c15_8 : ((p0 ||| (32 : Int32)) - (97 : Int32)) < (26 : Int32)
    · refine gicN B X d2_15 (tlt c15_8).2.1 rfl ?_
      refine giconst B X d2_18 (v := (1 : Int32)) rfl rfl ?_
      refine ggoto B X (pc' := 23) d2_19 (by decide) ?_
      exact gretN B X (z' := (1 : Int32)) (by simp) (rfl) d2_23 (by decide) (by decide) (⟨by rw [f2, if_neg c9_7, if_pos c15_8], rfl⟩)
    · refine gicY B X (pc' := 22) d2_15 (flt c15_8).2.1 (by decide) ?_
      refine giconst B X d2_22 (v := (0 : Int32)) rfl rfl ?_
      exact gretN B X (z' := (0 : Int32)) (by simp) (rfl) d2_23 (by decide) (by decide) (⟨by rw [f2, if_neg c9_7, if_neg c15_8], rfl⟩)
theorem own_or32 (c : Int32) : (c ||| 32).toInt = if c.toInt / 32 % 2 = 1 then c.toInt else c.toInt + 32 := by
  have hb : (c ||| 32).toBitVec = c.toBitVec ||| 32#32 := rfl
  have hc : c.toInt = c.toBitVec.toInt := rfl
  have ho : (c ||| 32).toInt = (c ||| 32).toBitVec.toInt := rfl
  rw [ho, hb, hc]
  generalize c.toBitVec = x
  have ht : x.getLsbD 5 = decide (x.toNat / 32 % 2 = 1) := by rw [BitVec.getLsbD, Nat.testBit_eq_decide_div_mod_eq]
  have hd : x.toInt / 32 % 2 = ((x.toNat / 32 % 2 : Nat) : Int) := by rw [BitVec.toInt_eq_toNat_cond]; split <;> omega
  have lt := x.isLt
  by_cases h : x.toNat / 32 % 2 = 1
  · have e : x ||| 32#32 = x := by
      apply BitVec.eq_of_getLsbD_eq
      intro i hi
      rw [BitVec.getLsbD_or]
      by_cases q : i = 5
      · subst q; rw [ht]; simp [h]
      · have : (32#32).getLsbD i = false := by
          have : ∀ j : Fin 32, j.val ≠ 5 → (32#32).getLsbD j.val = false := by decide
          exact this ⟨i, hi⟩ q
        simp [this]
    rw [e, if_pos (by rw [hd, h]; rfl)]
  · have e : x ||| 32#32 = x + 32#32 := by
      refine (BitVec.add_eq_or_of_and_eq_zero _ _ ?_).symm
      apply BitVec.eq_of_getLsbD_eq
      intro i hi
      rw [BitVec.getLsbD_and]
      by_cases q : i = 5
      · subst q; rw [ht]; simp [h]
      · have : (32#32).getLsbD i = false := by
          have : ∀ j : Fin 32, j.val ≠ 5 → (32#32).getLsbD j.val = false := by decide
          exact this ⟨i, hi⟩ q
        simp [this]
    rw [e, if_neg (by rw [hd]; omega)]
    have : (x + 32#32).toNat = (x.toNat + 32) % 4294967296 := by simp [BitVec.toNat_add]
    rw [BitVec.toInt_eq_toNat_cond, BitVec.toInt_eq_toNat_cond, this]
    split <;> split <;> omega
theorem own_alpha (c : Int32) : f1 c = f2 c := by
  have h1 := own_or32 c
  have h2 := c_isub (c ||| 32) 97
  have h3 := rng32 ((c ||| 32) - 97)
  have h4 := rng32 c
  have h5 := rng32 (c ||| 32)
  unfold f1 f2
  simp only [Int32.lt_iff_toInt_lt, Int32.reduceToInt] at *
  split at h1 <;> split <;> split <;> (try split) <;> (try split) <;> (try split) <;> (try split) <;> first | rfl | (exfalso; omega)
theorem pn0 : plainFor (⟨"com/example/dokaz/dokaz/field/SyntaxIsAlphaPinLaw", "law", "(II)Z"⟩ : MethodName) = true := plainFor_of_name (by first | (simp [plainName, overriddenIn]; done) | decide +kernel)
theorem ef0_II (m : MethodId) (x0 : Int32) (x1 : Int32) : entryFrame m #[(.int x0), (.int x1)] 3 = mkF m 0 #[.val (.int x0), .val (.int x1), .unset] [] := by first | (simp [entryFrame, mkF, argsToLocals, Value.category]; done) | rfl
theorem pd__I_Z : parseMethodDescriptor "(I)Z" = some ⟨[.int], some .boolean⟩ := by decide +kernel
set_option maxRecDepth 65536 in
set_option maxHeartbeats 4000000 in
theorem mt0 (l : Launch) (Z : State) (a0 : Array Value) (hw : ∀ d ∈ tables_1, d.before a0 Z = true) (p0 : Int32) (p1 : Int32) (h0 : Heap) : Meth l Z x code maxLocals ret room_1 #[(.int p0), (.int p1)] h0 [] (fun v h' => v = some (.int 1)) := by
  refine Meth.of pn0 ?_
  intro p e s m below meth c T B X
  have B : Fix p Z s m meth c code 3 "com/example/dokaz/dokaz/field/SyntaxIsAlphaPinLaw" "law" (some .boolean) := B
  refine Go.entry (ef0_II m p0 p1) ?_
  refine giloadN B X at_0 rfl rfl ?_
  refine gsipush B X at_1 (v := (255 : Int32)) rfl rfl ?_
  refine giand B X at_4 rfl rfl ?_
  refine gistoreN B X at_5 (Ls' := #[.val (.int p0), .val (.int p1), .val (.int (p1 &&& (255 : Int32)))]) rfl rfl ?_
  refine giloadN B X at_6 rfl rfl ?_
  refine gcallS B X (hw _ (List.mem_of_getElem? (i := 0) rfl)) (hw _ (List.mem_of_getElem? (i := 1) rfl)) (hw _ (List.mem_of_getElem? (i := 2) rfl)) (hw _ (List.mem_of_getElem? (i := 3) rfl)) (by decide) (mt1 l Z a0 hw p0  h0 ) pd__I_Z rfl (argsL := [(.int p0)]) (st := []) rfl rfl (W := 0) (Nat.le_of_eq rfl) (by decide) (by decide) (by decide) (by decide) (fun x q => nomatch q) at_7 rfl (pureG rfl rfl fun T9 X10 => ?_)
  refine giloadN B X10 at_10 rfl rfl ?_
  refine gcallS B X10 (hw _ (List.mem_of_getElem? (i := 4) rfl)) (hw _ (List.mem_of_getElem? (i := 5) rfl)) (hw _ (List.mem_of_getElem? (i := 6) rfl)) (hw _ (List.mem_of_getElem? (i := 7) rfl)) (by decide) (mt2 l Z a0 hw p0  h0 ) pd__I_Z rfl (argsL := [(.int p0)]) (st := [(.int (f1 p0))]) rfl rfl (W := 1) (Nat.le_of_eq rfl) (by decide) (by decide) (by decide) (by decide) (fun x q => nomatch q) at_11 rfl (pureG rfl rfl fun T11 X12 => ?_)
  have c14_13 : (f1 p0) = (f2 p0) := own_alpha _
  refine gicN B X12 at_14 (teq c14_13).2 rfl ?_
  refine giloadN B X12 at_17 rfl rfl ?_
  refine gcallS B X12 (hw _ (List.mem_of_getElem? (i := 0) rfl)) (hw _ (List.mem_of_getElem? (i := 1) rfl)) (hw _ (List.mem_of_getElem? (i := 2) rfl)) (hw _ (List.mem_of_getElem? (i := 3) rfl)) (by decide) (mt1 l Z a0 hw (p1 &&& (255 : Int32))  h0 ) pd__I_Z rfl (argsL := [(.int (p1 &&& (255 : Int32)))]) (st := []) rfl rfl (W := 0) (Nat.le_of_eq rfl) (by decide) (by decide) (by decide) (by decide) (fun x q => nomatch q) at_18 rfl (pureG rfl rfl fun T14 X15 => ?_)
  refine giloadN B X15 at_21 rfl rfl ?_
  refine gcallS B X15 (hw _ (List.mem_of_getElem? (i := 4) rfl)) (hw _ (List.mem_of_getElem? (i := 5) rfl)) (hw _ (List.mem_of_getElem? (i := 6) rfl)) (hw _ (List.mem_of_getElem? (i := 7) rfl)) (by decide) (mt2 l Z a0 hw (p1 &&& (255 : Int32))  h0 ) pd__I_Z rfl (argsL := [(.int (p1 &&& (255 : Int32)))]) (st := [(.int (f1 (p1 &&& (255 : Int32))))]) rfl rfl (W := 1) (Nat.le_of_eq rfl) (by decide) (by decide) (by decide) (by decide) (fun x q => nomatch q) at_22 rfl (pureG rfl rfl fun T16 X17 => ?_)
  have c25_18 : (f1 (p1 &&& (255 : Int32))) = (f2 (p1 &&& (255 : Int32))) := own_alpha _
  refine gicN B X17 at_25 (teq c25_18).2 rfl ?_
  refine giconst B X17 at_28 (v := (1 : Int32)) rfl rfl ?_
  refine ggoto B X17 (pc' := 33) at_29 (by decide) ?_
  exact gretN B X17 (z' := (1 : Int32)) (by simp) (rfl) at_33 (by decide) (by decide) (rfl)
set_option maxRecDepth 65536 in
set_option maxHeartbeats 4000000 in
theorem comes_1 {Post : Tables → Env → Array Value → State → Outcome → State → Prop} (hpost : ∀ tb e args s v u, (limb_1_1.after args s (.returned v) u = true ∧ limb_1_2.after args s (.returned v) u = true ∧ True) → FrameEnd s (.returned v) u (Jvm.fieldLocs frame_1_writes args s ++ Jvm.arrayLocs frame_1_arrays args s ++ Jvm.staticLocs frame_1_statics s) 0 0 → Post tb e args s (.returned v) u) :
    ArmFor flags0 classFile x code maxLocals ret World_1 tables_1 room_1 Calls_1 rest_1 Pre_1 Post := by
  intro l hfl _ _ p e ha hc hk s m args below hf hA hF happ hP
  obtain ⟨hcalls, hrest, hpre⟩ := hP
  obtain ⟨-, -, -, hnamed, -, -, -, hat⟩ := (Spec.applies_iff hf).mp happ
  obtain ⟨hg, hn⟩ := and_e (Cond.before_iff.mp (show (Jvm.Cond.and given_1 narrow_1).before args s = true from hpre))
  obtain ⟨g2, g3⟩ := and_e hg
  obtain ⟨g4, g5⟩ := and_e g3
  obtain ⟨w0, w1, rfl⟩ : ∃ w0 w1 : Value, args = #[w0, w1] := by
    have hs : args.size = 2 := by simpa [Cond.value, given_1] using g2
    obtain ⟨L⟩ := args
    match L, hs with
    | [w0, w1], _ => exact ⟨w0, w1, rfl⟩
  have hw := fun d (hd : d ∈ tables_1) => atoms_spec (ws := Jvm.Cond.code x code maxLocals ret :: tables_1) hat d (List.mem_cons_of_mem _ hd)
  obtain ⟨i0, ei0⟩ := is_v g4
  obtain rfl : w0 = (.int i0) := Option.some.inj ei0
  obtain ⟨i1, ei1⟩ := is_v g5
  obtain rfl : w1 = (.int i1) := Option.some.inj ei1
  obtain ⟨n, o, h1, h2, h3, _, L, rfl, ⟨rfl, N, N2⟩, hq⟩ := mt0 l s _ hw i0 i1 s.heap tables_1 p e ha hc hk s m _ below hf ((Spec.applies_iff_loose hf).mp happ).1 ⟨rfl, State.Warmed39.refl s, rfl⟩ trivial
  refine ⟨n, _, h1, h2, h3, hpost _ _ _ _ _ _ ⟨Cond.after_iff.mpr rfl, Cond.after_iff.mpr (eq_i res_at (Term.int_eval (1)) rfl), trivial⟩ ⟨hq.1, hq.2.1, (hq.2.2.sift fun y hy => Or.inr ((N2 y hy).elim (fun z => nomatch z) id)).mono (by decide) (by decide)⟩⟩
theorem main_1_1 : Claimed_1_1 := comes_1 fun _ _ _ _ _ _ h hF => ⟨h.1, hF⟩
theorem main_1_2 : Claimed_1_2 := comes_1 fun _ _ _ _ _ _ h hF => ⟨h.2.1, hF⟩
end Jvm.Pilot.@@N@@
namespace Jvm.Pilot.@@N@@
open Jvm Jvm.ClassFile Sem Op Lib Jvm.Free Jvm.Stand Jvm.Pilot.@@N@@.Jvm.D
/-! MADE BY PROGRAM (witnessworld.py) out of the Statement's table words and the real class files: 9 classes; the members and pool entries that the words name. The judged class is class 1, her method 2. -/
namespace start1
open Jvm.ClassFile
def u (s : String) : CpInfo := .utf8 (stringToUtf16 s)
/-- a pool by its gaps: so many unusable entries, then the entry; so many at the end -/
def gap : Nat → List CpInfo → List CpInfo
  | 0, r => r
  | n + 1, r => .unusable :: gap n r
def poolList (es : List (Nat × CpInfo)) (last : Nat) : List CpInfo := es.foldr (fun e r => gap e.1 (e.2 :: r)) (gap last [])
def pool (es : List (Nat × CpInfo)) (last : Nat) : Array CpInfo := ⟨poolList es last⟩
def fileOf (pool : Array CpInfo) (this : Nat) (attrs : Array Attribute := #[]) (ms : Array MethodInfo := #[]) (fl : Nat := 33) (sup : Nat := 0) (ifs : Array Nat := #[]) (fds : Array FieldInfo := #[]) : ClassFile where
  minorVersion := 0
  majorVersion := 65
  constantPool := pool
  accessFlags := fl
  thisClass := this
  superClass := sup
  interfaces := ifs
  fields := fds
  methods := ms
  attributes := attrs
def plain (name : String) (sup : Option ClassId) : Class where
  name := name
  kind := .ordinary
  loader := none
  accessFlags := 33
  super := sup
  interfaces := #[]
  cf := none
  fields := #[]
  methods := #[]
  instanceTypes := #[]
  staticTypes := #[]
  resolved := #[]
  callSites := []
  init := .initialized
  statics := none
  mirror := none

def pool0 : Array CpInfo := pool [(5, u "<init>"), (0, u "()V"), (1, .class_ 10), (1, u "java/lang/Object")] 113

def k0m0 : Method := { name := "<init>", desc := "()V", sig := { parameters := [], returnType := none }, accessFlags := 1, code := none }
/-- java/lang/Object -/
def k0 : Class := { plain "java/lang/Object" none with
  accessFlags := 33
  interfaces := #[]
  cf := some (fileOf pool0 8 #[] #[{ accessFlags := 1, nameIndex := 5, descriptorIndex := 6, attributes := #[] }] 33 0 #[] #[])
  fields := #[]
  methods := #[k0m0]
  instanceTypes := #[]
  staticTypes := #[]
  resolved := Array.replicate 124 none
  statics := none }

def pool1 : Array CpInfo := pool [(2, .class_ 4), (1, u "java/lang/Object"), (0, u "<init>"), (0, u "()V"), (0, .methodref 8 9), (0, .class_ 10), (0, .nameAndType 11 12), (0, u "com/example/dokaz/dokaz/field/Syntax"), (0, u "isAlpha"), (0, u "(I)Z"), (0, .methodref 14 15), (0, .class_ 16), (0, .nameAndType 17 12), (0, u "com/example/dokaz/dokaz/field/SyntaxIsAlphaPinLaw"), (0, u "reference"), (3, u "law"), (0, u "(II)Z")] 2

def k1m0 : Method := { name := "<init>", desc := "()V", sig := { parameters := [], returnType := none }, accessFlags := 2, code := none }
def k1c1 : Code := { maxStack := 2, maxLocals := 2, code := method_2_code, exceptionTable := #[], attributes := #[] }
def k1m1 : Method := { name := "reference", desc := "(I)Z", sig := { parameters := [.int], returnType := some .boolean }, accessFlags := 10, code := some k1c1 }
def k1c2 : Code := { maxStack := 2, maxLocals := 3, code := code, exceptionTable := #[], attributes := #[] }
def k1m2 : Method := { name := "law", desc := "(II)Z", sig := { parameters := [.int, .int], returnType := some .boolean }, accessFlags := 9, code := some k1c2 }
/-- com/example/dokaz/dokaz/field/SyntaxIsAlphaPinLaw -/
def k1 : Class := { plain "com/example/dokaz/dokaz/field/SyntaxIsAlphaPinLaw" (some 0) with
  accessFlags := 49
  interfaces := #[]
  cf := some (fileOf pool1 14 #[] #[{ accessFlags := 2, nameIndex := 5, descriptorIndex := 6, attributes := #[] }, { accessFlags := 10, nameIndex := 17, descriptorIndex := 12, attributes := #[] }, { accessFlags := 9, nameIndex := 21, descriptorIndex := 22, attributes := #[] }] 49 2 #[] #[])
  fields := #[]
  methods := #[k1m0, k1m1, k1m2]
  instanceTypes := #[]
  staticTypes := #[]
  resolved := Array.replicate 25 none
  statics := none }

def pool2 : Array CpInfo := pool [(2, .class_ 4), (1, u "java/lang/Object"), (0, u "<init>"), (0, u "()V"), (1, .class_ 10), (1, u "com/example/dokaz/dokaz/field/Syntax"), (0, u "isAlpha"), (0, u "(I)Z"), (110, u "INTEGER_LIMIT"), (0, u "J"), (4, u "Ljava/math/BigDecimal;"), (5, u "DECIMAL_LIMIT"), (7, u "TRUE"), (0, u "Lcom/example/dokaz/dokaz/field/BareItem;"), (0, u "INTEGER_DIGITS"), (0, u "I"), (2, u "DECIMAL_DIGITS"), (1, u "DECIMAL_PLACES")] 59

def k2m0 : Method := { name := "<init>", desc := "()V", sig := { parameters := [], returnType := none }, accessFlags := 2, code := none }
def k2c1 : Code := { maxStack := 2, maxLocals := 1, code := prog_55_method_3_code, exceptionTable := #[], attributes := #[] }
def k2m1 : Method := { name := "isAlpha", desc := "(I)Z", sig := { parameters := [.int], returnType := some .boolean }, accessFlags := 8, code := some k2c1 }
/-- com/example/dokaz/dokaz/field/Syntax -/
def k2 : Class := { plain "com/example/dokaz/dokaz/field/Syntax" (some 0) with
  accessFlags := 48
  interfaces := #[]
  cf := some (fileOf pool2 8 #[] #[{ accessFlags := 2, nameIndex := 5, descriptorIndex := 6, attributes := #[] }, { accessFlags := 8, nameIndex := 11, descriptorIndex := 12, attributes := #[] }] 48 2 #[] #[{ accessFlags := 24, nameIndex := 145, descriptorIndex := 146, attributes := #[] }, { accessFlags := 24, nameIndex := 123, descriptorIndex := 124, attributes := #[] }, { accessFlags := 24, nameIndex := 149, descriptorIndex := 146, attributes := #[] }, { accessFlags := 24, nameIndex := 135, descriptorIndex := 129, attributes := #[] }, { accessFlags := 24, nameIndex := 151, descriptorIndex := 146, attributes := #[] }, { accessFlags := 24, nameIndex := 143, descriptorIndex := 144, attributes := #[] }])
  fields := #[{ name := "INTEGER_DIGITS", type := .int, accessFlags := 24, slot := 0, constantValue := 0 }, { name := "INTEGER_LIMIT", type := .long, accessFlags := 24, slot := 1, constantValue := 0 }, { name := "DECIMAL_DIGITS", type := .int, accessFlags := 24, slot := 2, constantValue := 0 }, { name := "DECIMAL_LIMIT", type := (.object "java/math/BigDecimal"), accessFlags := 24, slot := 3, constantValue := 0 }, { name := "DECIMAL_PLACES", type := .int, accessFlags := 24, slot := 4, constantValue := 0 }, { name := "TRUE", type := (.object "com/example/dokaz/dokaz/field/BareItem"), accessFlags := 24, slot := 5, constantValue := 0 }]
  methods := #[k2m0, k2m1]
  instanceTypes := #[]
  staticTypes := #[.int, .long, .int, (.object "java/math/BigDecimal"), .int, (.object "com/example/dokaz/dokaz/field/BareItem")]
  resolved := Array.replicate 211 none
  statics := none }

def pool3 : Array CpInfo := pool [(1, u "java/lang/Cloneable"), (0, .class_ 1), (0, u "java/lang/Object"), (0, .class_ 3)] 3

/-- java/lang/Cloneable -/
def k3 : Class := { plain "java/lang/Cloneable" (some 0) with
  accessFlags := 1537
  interfaces := #[]
  cf := some (fileOf pool3 2 #[] #[] 1537 4 #[] #[])
  fields := #[]
  methods := #[]
  instanceTypes := #[]
  staticTypes := #[]
  resolved := Array.replicate 8 none
  statics := none }

def pool4 : Array CpInfo := pool [(1, u "java/io/Serializable"), (0, .class_ 1), (0, u "java/lang/Object"), (0, .class_ 3)] 3

/-- java/io/Serializable -/
def k4 : Class := { plain "java/io/Serializable" (some 0) with
  accessFlags := 1537
  interfaces := #[]
  cf := some (fileOf pool4 2 #[] #[] 1537 4 #[] #[])
  fields := #[]
  methods := #[]
  instanceTypes := #[]
  staticTypes := #[]
  resolved := Array.replicate 8 none
  statics := none }

/-- the primitive byte -/
def k5 : Class := { plain "byte" none with kind := .primitive 'B', accessFlags := 0x411 }
/-- [B -/
def k6 : Class := { plain "[B" (some 0) with kind := .array 5 .byte, interfaces := #[3, 4], accessFlags := 1041 }

/-- the primitive int -/
def k7 : Class := { plain "int" none with kind := .primitive 'I', accessFlags := 0x411 }
/-- [I -/
def k8 : Class := { plain "[I" (some 0) with kind := .array 7 .int, interfaces := #[3, 4], accessFlags := 1041 }

def heap : Heap := #[]
def classes : Array Class := #[k0, k1, k2, k3, k4, k5, k6, k7, k8]
def interned : List (Array UInt16 × Addr) := []
def slotsUsed : Nat := 0
def theMethod : MethodId := ⟨1, 2⟩
def args0 : Array Value := #[.int 65, .int 300]
def aboutOver (below : List Frame) : State where
  vm := { classes := classes, interned := interned.toArray }
  heap := heap
  slotsUsed := slotsUsed
  threads := #[{ frames := .invoking theMethod args0 :: below }]
def below0 : List Frame := [.native { method := ⟨0, 0⟩, args := #[] }]
def about1 : State := aboutOver below0
def p0 : Program := .bare "" "" ""
def e0 : Env := launch0.env 0 0 0
theorem w_frames : about1.frames = Frame.invoking theMethod args0 :: below0 := rfl
set_option maxRecDepth 65536 in
theorem w_args : argsFit about1.vm theMethod args0 = true := by decide +kernel
set_option maxRecDepth 65536 in
theorem w_heap : heapFits about1 = true := by decide +kernel
set_option maxRecDepth 65536 in
theorem w_runnable : about1.curStatus? = some .runnable := by decide +kernel
set_option maxRecDepth 65536 in
theorem w_alone : about1.alone = true := by decide +kernel
set_option maxRecDepth 65536 in
theorem w_named : about1.methodNamed? x = some theMethod := by decide +kernel
set_option maxRecDepth 65536 in
theorem w_hears : about1.hears theMethod below0 = true := by decide +kernel
set_option maxRecDepth 65536 in
theorem w_ripe : about1.ripe theMethod args0 below0 = true := by decide +kernel
theorem w_running : about1.status = .running := rfl
set_option maxRecDepth 65536 in
theorem w_room : about1.hasRoom e0.platform room_1 = true :=
  launch0.hasRoom_least _ room_1 (by decide +kernel) (by decide +kernel) (by decide +kernel) (by decide +kernel) (by decide +kernel) (by decide +kernel)
theorem allAtoms_all (ts : List Jvm.Cond) (a : Array Jvm.Value) (st : Jvm.State) : (allAtoms ts).before a st = ts.all (fun c => c.before a st) := by
  induction ts with
  | nil => rfl
  | cons c t ih =>
    show (Jvm.Cond.and c (allAtoms t)).before a st = _
    rw [Jvm.Cond.before_and, ih, List.all_cons]
def words1 : List Jvm.Cond := Jvm.Cond.code x code maxLocals ret :: tables_1
/-- a 'code' word, met by the world's own term for the bytes: nothing is compared byte by byte -/
theorem code_word {y : MethodName} {bytes : ByteArray} {mx : Nat} {rt : Option FieldType} {a : Array Value} {s : State} {m : MethodId} {meth : Method} {c : Code} (h1 : s.methodNamed? y = some m) (h2 : s.vm.method? m = some meth) (h3 : meth.code = some c) (h4 : c.code = bytes)
    (h5 : (c.maxLocals == mx && c.exceptionTable.isEmpty && decide (c.maxStack ≤ mostOperands) && decide (meth.sig.returnType = rt) && !meth.locks && decide (parseMethodDescriptor y.desc = some meth.sig)) = true) : (Jvm.Cond.code y bytes mx rt).before a s = true := by
  simp only [Bool.and_eq_true, beq_iff_eq, Bool.not_eq_true', decide_eq_true_eq] at h5
  obtain ⟨⟨⟨⟨⟨g1, g2⟩, g3⟩, g4⟩, g5⟩, g6⟩ := h5
  simp [Cond.before, Cond.holds, Cond.value, h1, h2, h3, h4, g1, g2, g3, g4, g5, g6]
def isCode : Jvm.Cond → Bool
  | .code _ _ _ _ => true
  | _ => false
theorem all_split {L : List Jvm.Cond} {P : Jvm.Cond → Bool} (h1 : L.all (fun c => isCode c || P c) = true) (h2 : ∀ c ∈ L.filter isCode, P c = true) : L.all P = true := by
  refine List.all_eq_true.mpr fun c hc => ?_
  have h := List.all_eq_true.mp h1 c hc
  rcases Bool.eq_false_or_eq_true (isCode c) with hi | hi
  · exact h2 c (List.mem_filter.mpr ⟨hc, hi⟩)
  · simpa [hi] using h
set_option maxRecDepth 65536 in
theorem w_c0 : (Jvm.Cond.code x code maxLocals ret).before args0 about1 = true := code_word (m := ⟨1, 2⟩) (meth := k1m2) (c := k1c2) (by decide +kernel) rfl rfl rfl (by decide +kernel)
set_option maxRecDepth 65536 in
theorem w_c1 : (Jvm.Cond.code ({ cls := "com/example/dokaz/dokaz/field/Syntax", name := "isAlpha", desc := "(I)Z" } : Jvm.MethodName) prog_55_method_3_code (1 : Nat) (Option.some Jvm.ClassFile.FieldType.boolean)).before args0 about1 = true := code_word (m := ⟨2, 1⟩) (meth := k2m1) (c := k2c1) (by decide +kernel) rfl rfl rfl (by decide +kernel)
set_option maxRecDepth 65536 in
theorem w_c2 : (Jvm.Cond.code ({ cls := "com/example/dokaz/dokaz/field/SyntaxIsAlphaPinLaw", name := "reference", desc := "(I)Z" } : Jvm.MethodName) method_2_code (2 : Nat) (Option.some Jvm.ClassFile.FieldType.boolean)).before args0 about1 = true := code_word (m := ⟨1, 1⟩) (meth := k1m1) (c := k1c1) (by decide +kernel) rfl rfl rfl (by decide +kernel)
def codes1 : List Jvm.Cond := [Jvm.Cond.code x code maxLocals ret, Jvm.Cond.code ({ cls := "com/example/dokaz/dokaz/field/Syntax", name := "isAlpha", desc := "(I)Z" } : Jvm.MethodName) prog_55_method_3_code (1 : Nat) (Option.some Jvm.ClassFile.FieldType.boolean), Jvm.Cond.code ({ cls := "com/example/dokaz/dokaz/field/SyntaxIsAlphaPinLaw", name := "reference", desc := "(I)Z" } : Jvm.MethodName) method_2_code (2 : Nat) (Option.some Jvm.ClassFile.FieldType.boolean)]
set_option maxRecDepth 65536 in
theorem codes_eq : words1.filter isCode = codes1 := rfl
theorem w_codes : ∀ c ∈ words1.filter isCode, c.before args0 about1 = true := by
  rw [codes_eq]
  intro c hc
  simp only [codes1, List.mem_cons, List.not_mem_nil, or_false] at hc
  rcases hc with rfl | rfl | rfl
  · exact w_c0
  · exact w_c1
  · exact w_c2
set_option maxRecDepth 65536 in
theorem w_t1 : words1.all (fun c => isCode c || c.before args0 about1) = true := by decide +kernel
theorem w_tables : (allAtoms (Jvm.Cond.code x code maxLocals ret :: tables_1)).before args0 about1 = true := by
  rw [allAtoms_all]
  show words1.all (fun c => c.before args0 about1) = true
  refine all_split ?_ w_codes
  rw [w_t1]
set_option maxRecDepth 65536 in
theorem w_case : (Jvm.Cond.and given_1 narrow_1).before args0 about1 = true := by decide +kernel
theorem w_applies : (headSpec (Jvm.Cond.code x code maxLocals ret :: tables_1) room_1).applies x e0.platform about1 = true :=
  (Spec.applies_iff w_frames).mpr ⟨w_running, w_runnable, w_alone, w_named, w_hears, w_ripe, w_room, w_tables⟩
theorem atStart : AtStart classFile x code maxLocals ret World_1 tables_1 room_1 Calls_1 rest_1 Pre_1 launch0 p0 e0 about1 theMethod args0 below0 :=
  ⟨lists_1, trivial, launch0.admits_env _ _ _, launch0.least_env, fairChoices_fair.cas, fairChoices_fair.clock, w_frames, w_args, w_heap, w_applies, trivial, trivial, w_case⟩
end start1
theorem witness_1 : WitnessClaimed_1 := ⟨start1.p0, start1.e0, start1.about1, start1.theMethod, start1.args0, start1.below0, start1.atStart⟩
end Jvm.Pilot.@@N@@
