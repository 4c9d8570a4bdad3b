import JvmDerived
import JvmDerived.Pilot.@@N@@Statement
import JvmDerived.Pilot.@@N@@Code
set_option linter.unusedVariables false
set_option linter.unusedSimpArgs false
namespace Jvm.OwnKit
open Sem ClassFile Op Lib Jvm.Stand Jvm.Free Jvm.LawKit Jvm.RoadKit
/-- every written place is one of ws or new -/
def FrW (h0 : Heap) (ws : List Addr) (L : List Loc) : Prop := ∀ y ∈ L, y.base ∈ ws ∨ h0.size ≤ y.base
/-- what stays fixed while a body runs -/
def Fix (p : Program) (Z s : State) (m : MethodId) (meth : Method) (c : Code) (bytes : ByteArray) (maxL : Nat) (own nm : String) (ret : Option FieldType) : Prop :=
  p.tables.exec = Jvm.exec ∧ Z.Warmed39 s.vm ∧ c.code = bytes ∧ c.maxLocals = maxL ∧ s.vm.findClass own = some m.cls ∧ meth.name = nm ∧ meth.sig.returnType = ret ∧ meth.locks = false
/-- where the run stands: its heap h, what was kept since h0 -/
def St (p : Program) (l : Launch) (e : Env) (R : Room) (s : State) (m : MethodId) (args : Array Value) (below : List Frame) (meth : Method) (c : Code) (h0 : Heap) (ws : List Addr) (T : State) (h : Heap) (cells slots : Nat) : Prop :=
  ∃ locs, Stand p l e R s m args below meth c T locs cells slots ∧ T.heap = h ∧ Keep h0 h ws ∧ FrW h0 ws locs
/-- from T with the top frame f the body comes to its end, and Q holds there -/
def Go (p : Program) (e : Env) (below : List Frame) (s : State) (K N : Nat) (h0 : Heap) (ws : List Addr) (Q : Option Value → Heap → Prop) (T : State) (f : JFrame) : Prop :=
  ∃ t o, Steps p.tables e below (T.setTop f) t ∧ t.status = .running ∧ Ended t below o ∧ ∃ v L, o = .returned v ∧ (Q v t.heap ∧ Keep h0 t.heap ws ∧ FrW h0 ws L) ∧ FrameEnd s o t L K N
/-- a method's contract: called with as' at the heap h0 it returns, writes ws and new cells alone, and Q holds -/
def Meth (l : Launch) (Z : State) (y : MethodName) (bytes : ByteArray) (maxL : Nat) (ret : Option FieldType) (rm : Room) (as' : Array Value) (h0 : Heap) (ws : List Addr) (Q : Option Value → Heap → Prop) : Prop :=
  ∀ wl, MetFree l y (head1 (Cond.code y bytes maxL ret :: wl) rm) (fun a U => a = as' ∧ Z.Warmed39 U.vm ∧ U.heap = h0) (fun _ _ _ _ _ => True) (fun _ U o U' => ∃ v L, o = .returned v ∧ (Q v U'.heap ∧ Keep h0 U'.heap ws ∧ FrW h0 ws L) ∧ FrameEnd U o U' L rm.cells rm.slots)
/-- an array of the kind ty that holds vs -/
def VA (Z : State) (h : Heap) (a : Addr) (ty : FieldType) (vs : List Value) : Prop := ∃ c : Cell, Arr Z h a c ty ∧ c.slots = vs.toArray ∧ vs.length < 2 ^ 31
section Arrays
variable {Z : State} {h h' : Heap} {a b : Addr} {ty : FieldType} {vs : List Value} {sl : Nat} {v : Value} {ws : List Addr}
theorem VA.lt (F : VA Z h a ty vs) : a < h.size := by obtain ⟨c, A, -⟩ := F; exact A.lt
theorem VA.ext (F : VA Z h a ty vs) (E : Ext h h') : VA Z h' a ty vs := by obtain ⟨c, A, r⟩ := F; exact ⟨c, A.ext E, r⟩
theorem VA.other (F : VA Z h b ty vs) (W : Wr h h' a sl v) (q : b ≠ a) : VA Z h' b ty vs := by obtain ⟨c, A, r⟩ := F; exact ⟨c, A.other W q, r⟩
theorem VA.keep (F : VA Z h a ty vs) (K : Keep h h' ws) (q : a ∉ ws) : VA Z h' a ty vs := by obtain ⟨c, A, r⟩ := F; exact ⟨c, ⟨K.2.1 a c A.1 q, A.2⟩, r⟩
theorem VA.set (F : VA Z h a ty vs) (W : Wr h h' a sl v) : VA Z h' a ty (vs.set sl v) := by
  obtain ⟨c, A, r, n⟩ := F
  refine ⟨_, A.same W, ?_, by simpa using n⟩
  show c.slots.setIfInBounds sl v = _
  rw [r]; simp
theorem VA.new {k : ClassId} {n : Int32} (A : Arr Z h a (newA k ty n) ty) (q : ¬ n < 0) : VA Z h a ty (List.replicate n.toNatClampNeg (defaultValue ty)) :=
  ⟨_, A, by simp [newA], by rw [List.length_replicate]; exact (back32 q).2⟩
theorem VA.len31 (F : VA Z h a ty vs) : vs.length < 2 ^ 31 := by obtain ⟨c, A, r, n⟩ := F; exact n
theorem inb {n : Nat} {j : Int32} (hj : 0 ≤ j.toInt ∧ j.toInt < n) : ¬ (j < 0 ∨ n ≤ j.toNatClampNeg) := by
  simp only [Int32.lt_iff_toInt_lt, Int32.toNatClampNeg, Int32.reduceToInt]; omega
theorem own_at {xs : List Int32} {j : Nat} (hj : j < xs.length) : (xs.map Value.int)[j]? = some (.int (xs.getD j 0)) := by
  simp [List.getElem?_eq_getElem hj]
theorem own_atL {xs : List Int64} {j : Nat} (hj : j < xs.length) : (xs.map Value.long)[j]? = some (.long (xs.getD j 0)) := by
  simp [List.getElem?_eq_getElem hj]
end Arrays
section Go
variable {p : Program} {l : Launch} {e : Env} {R : Room} {s : State} {m : MethodId} {args : Array Value} {below : List Frame} {meth : Method} {c : Code} {Z : State} {bytes : ByteArray} {maxL : Nat} {own nm : String} {ret : Option FieldType} {h0 : Heap} {ws : List Addr} {T T' : State} {locs : List Loc} {h : Heap} {cells slots K N : Nat} {Q : Option Value → Heap → Prop} {pc pc' : Nat} {Ls Ls' : Array Slot} {st : List Value} {a0 : Array Value}
theorem Go.to {f f' : JFrame} (k : ∀ t, Steps p.tables e below (T'.setTop f') t → Steps p.tables e below (T.setTop f) t) (g : Go p e below s K N h0 ws Q T' f') : Go p e below s K N h0 ws Q T f := by
  obtain ⟨t, o, a, r⟩ := g; exact ⟨t, o, k t a, r⟩
theorem Go.mono {Q' : Option Value → Heap → Prop} {f : JFrame} (g : Go p e below s K N h0 ws Q T f) (hq : ∀ v h, Q v h → Q' v h) : Go p e below s K N h0 ws Q' T f := by
  obtain ⟨t, o, a, b, d, v, L, e1, ⟨q, r⟩, z⟩ := g; exact ⟨t, o, a, b, d, v, L, e1, ⟨hq _ _ q, r⟩, z⟩
theorem Go.entry {f f' : JFrame} (q : f = f') (g : Go p e below s K N h0 ws Q T f') : Go p e below s K N h0 ws Q T f := q ▸ g
theorem St.more (X : St p l e R s m args below meth c h0 ws T h cells slots) {cells' slots' : Nat} (h1 : cells ≤ cells') (h2 : slots ≤ slots') : St p l e R s m args below meth c h0 ws T h cells' slots' := by
  obtain ⟨L, X, r⟩ := X; exact ⟨L, X.more h1 h2, r⟩
theorem St.kept (X : St p l e R s m args below meth c h0 ws T h cells slots) : Keep h0 h ws := by obtain ⟨L, X, e1, k, f⟩ := X; exact k
theorem St.here (X : St p l e R s m args below meth c h0 ws T h cells slots) : At T m c below := by obtain ⟨L, X, r⟩ := X; exact X.here
theorem Meth.mono {y : MethodName} {rm : Room} {as' : Array Value} {Q' : Option Value → Heap → Prop} (M : Meth l Z y bytes maxL ret rm as' h0 ws Q) (hq : ∀ v h, Q v h → Q' v h) : Meth l Z y bytes maxL ret rm as' h0 ws Q' := by
  intro wl p e ha hc hk s m args below hf happ hP hK
  obtain ⟨n, o, a, b, d, v, L, e1, ⟨q, r⟩, z⟩ := M wl p e ha hc hk s m args below hf happ hP hK
  exact ⟨n, o, a, b, d, v, L, e1, ⟨hq _ _ q, r⟩, z⟩
theorem Meth.of {y : MethodName} {rm : Room} {as' : Array Value} (hpl : plainFor y = true)
    (body : ∀ (p : Program) (e : Env) (s : State) (m : MethodId) (below : List Frame) (meth : Method) (c : Code) (T : State), Fix p Z s m meth c bytes maxL y.cls y.name ret → St p l e rm s m as' below meth c h0 ws T h0 0 0 → Go p e below s rm.cells rm.slots h0 ws Q T (entryFrame m as' maxL)) :
    Meth l Z y bytes maxL ret rm as' h0 ws Q := by
  intro wl
  refine MetFree.of_bodySF hpl hisR ?_
  intro p e s m args below meth c s₁ Bd hml0 hP hK
  obtain ⟨rfl, hZ, hh⟩ := hP
  have X0 : Stand p l e rm s m _ below meth c s₁ [] 0 0 := Stand.of_body Bd
  have e0 : s₁.heap = h0 := by rw [← hh, Bd.state]; rfl
  exact body p e s m below meth c s₁ ⟨Bd.exec, hZ, Bd.bytes, hml0, findClass_of_methodNamed Bd.named, (name_of_methodNamed Bd.named Bd.method).1, Bd.returns, Bd.notSynchronized⟩ ⟨[], X0, e0, Keep.refl _ _, fun y hy => nomatch hy⟩

theorem giload (B : Fix p Z s m meth c bytes maxL own nm ret) (X : St p l e R s m args below meth c h0 ws T h cells slots) {k : Nat} {v : Int32} (hd : decode bytes pc = .ok (.iload k, 2)) (hl : Ls[k]? = some (.val (.int v))) (hp : pc' = pc + 2) (g : Go p e below s K N h0 ws Q T (mkF m pc' Ls (.int v :: st))) : Go p e below s K N h0 ws Q T (mkF m pc Ls st) := by
  subst hp; obtain ⟨L, X, -⟩ := X; exact Go.to (fun t k => XS.iload X.here B.1 rfl (hb B.2.2.1 hd) hl k) g
theorem giloadN (B : Fix p Z s m meth c bytes maxL own nm ret) (X : St p l e R s m args below meth c h0 ws T h cells slots) {k : Fin 4} {v : Int32} (hd : decode bytes pc = .ok (.iload_n k, 1)) (hl : Ls[k.val]? = some (.val (.int v))) (hp : pc' = pc + 1) (g : Go p e below s K N h0 ws Q T (mkF m pc' Ls (.int v :: st))) : Go p e below s K N h0 ws Q T (mkF m pc Ls st) := by
  subst hp; obtain ⟨L, X, -⟩ := X; exact Go.to (fun t k => XS.iloadN X.here B.1 rfl (hb B.2.2.1 hd) hl k) g
theorem gistore (B : Fix p Z s m meth c bytes maxL own nm ret) (X : St p l e R s m args below meth c h0 ws T h cells slots) {k : Nat} {v : Int32} (hd : decode bytes pc = .ok (.istore k, 2)) (hl : storeLocals Ls k (.int v) = some Ls') (hp : pc' = pc + 2) (g : Go p e below s K N h0 ws Q T (mkF m pc' Ls' st)) : Go p e below s K N h0 ws Q T (mkF m pc Ls (.int v :: st)) := by
  subst hp; obtain ⟨L, X, -⟩ := X; exact Go.to (fun t k => XS.istore X.here B.1 rfl (hb B.2.2.1 hd) rfl hl k) g
theorem gistoreN (B : Fix p Z s m meth c bytes maxL own nm ret) (X : St p l e R s m args below meth c h0 ws T h cells slots) {k : Fin 4} {v : Int32} (hd : decode bytes pc = .ok (.istore_n k, 1)) (hl : storeLocals Ls k.val (.int v) = some Ls') (hp : pc' = pc + 1) (g : Go p e below s K N h0 ws Q T (mkF m pc' Ls' st)) : Go p e below s K N h0 ws Q T (mkF m pc Ls (.int v :: st)) := by
  subst hp; obtain ⟨L, X, -⟩ := X; exact Go.to (fun t k => XS.istoreN X.here B.1 rfl (hb B.2.2.1 hd) rfl hl k) g
theorem glload (B : Fix p Z s m meth c bytes maxL own nm ret) (X : St p l e R s m args below meth c h0 ws T h cells slots) {k : Nat} {v : Int64} (hd : decode bytes pc = .ok (.lload k, 2)) (hl : Ls[k]? = some (.val (.long v))) (hp : pc' = pc + 2) (g : Go p e below s K N h0 ws Q T (mkF m pc' Ls (.long v :: st))) : Go p e below s K N h0 ws Q T (mkF m pc Ls st) := by
  subst hp; obtain ⟨L, X, -⟩ := X; exact Go.to (fun t k => XS.lload X.here B.1 rfl (hb B.2.2.1 hd) hl k) g
theorem glloadN (B : Fix p Z s m meth c bytes maxL own nm ret) (X : St p l e R s m args below meth c h0 ws T h cells slots) {k : Fin 4} {v : Int64} (hd : decode bytes pc = .ok (.lload_n k, 1)) (hl : Ls[k.val]? = some (.val (.long v))) (hp : pc' = pc + 1) (g : Go p e below s K N h0 ws Q T (mkF m pc' Ls (.long v :: st))) : Go p e below s K N h0 ws Q T (mkF m pc Ls st) := by
  subst hp; obtain ⟨L, X, -⟩ := X; exact Go.to (fun t k => XS.lloadN X.here B.1 rfl (hb B.2.2.1 hd) hl k) g
theorem glstore (B : Fix p Z s m meth c bytes maxL own nm ret) (X : St p l e R s m args below meth c h0 ws T h cells slots) {k : Nat} {v : Int64} (hd : decode bytes pc = .ok (.lstore k, 2)) (hl : storeLocals Ls k (.long v) = some Ls') (hp : pc' = pc + 2) (g : Go p e below s K N h0 ws Q T (mkF m pc' Ls' st)) : Go p e below s K N h0 ws Q T (mkF m pc Ls (.long v :: st)) := by
  subst hp; obtain ⟨L, X, -⟩ := X; exact Go.to (fun t k => XS.lstore X.here B.1 rfl (hb B.2.2.1 hd) rfl hl k) g
theorem glstoreN (B : Fix p Z s m meth c bytes maxL own nm ret) (X : St p l e R s m args below meth c h0 ws T h cells slots) {k : Fin 4} {v : Int64} (hd : decode bytes pc = .ok (.lstore_n k, 1)) (hl : storeLocals Ls k.val (.long v) = some Ls') (hp : pc' = pc + 1) (g : Go p e below s K N h0 ws Q T (mkF m pc' Ls' st)) : Go p e below s K N h0 ws Q T (mkF m pc Ls (.long v :: st)) := by
  subst hp; obtain ⟨L, X, -⟩ := X; exact Go.to (fun t k => XS.lstoreN X.here B.1 rfl (hb B.2.2.1 hd) rfl hl k) g
theorem gaload (B : Fix p Z s m meth c bytes maxL own nm ret) (X : St p l e R s m args below meth c h0 ws T h cells slots) {k : Nat} {v : Value} (hd : decode bytes pc = .ok (.aload k, 2)) (hl : Ls[k]? = some (.val v)) (hv : v.isRef = true) (hp : pc' = pc + 2) (g : Go p e below s K N h0 ws Q T (mkF m pc' Ls (v :: st))) : Go p e below s K N h0 ws Q T (mkF m pc Ls st) := by
  subst hp; obtain ⟨L, X, -⟩ := X; exact Go.to (fun t k => XS.aload X.here B.1 rfl (hb B.2.2.1 hd) hl hv k) g
theorem galoadN (B : Fix p Z s m meth c bytes maxL own nm ret) (X : St p l e R s m args below meth c h0 ws T h cells slots) {k : Fin 4} {v : Value} (hd : decode bytes pc = .ok (.aload_n k, 1)) (hl : Ls[k.val]? = some (.val v)) (hv : v.isRef = true) (hp : pc' = pc + 1) (g : Go p e below s K N h0 ws Q T (mkF m pc' Ls (v :: st))) : Go p e below s K N h0 ws Q T (mkF m pc Ls st) := by
  subst hp; obtain ⟨L, X, -⟩ := X; exact Go.to (fun t k => XS.aloadN X.here B.1 rfl (hb B.2.2.1 hd) hl hv k) g
theorem gastore (B : Fix p Z s m meth c bytes maxL own nm ret) (X : St p l e R s m args below meth c h0 ws T h cells slots) {k : Nat} {v : Value} (hd : decode bytes pc = .ok (.astore k, 2)) (hv : v.isRef = true) (hl : storeLocals Ls k v = some Ls') (hp : pc' = pc + 2) (g : Go p e below s K N h0 ws Q T (mkF m pc' Ls' st)) : Go p e below s K N h0 ws Q T (mkF m pc Ls (v :: st)) := by
  subst hp; obtain ⟨L, X, -⟩ := X; exact Go.to (fun t k => XS.astore X.here B.1 rfl (hb B.2.2.1 hd) rfl hv hl k) g
theorem gastoreN (B : Fix p Z s m meth c bytes maxL own nm ret) (X : St p l e R s m args below meth c h0 ws T h cells slots) {k : Fin 4} {v : Value} (hd : decode bytes pc = .ok (.astore_n k, 1)) (hv : v.isRef = true) (hl : storeLocals Ls k.val v = some Ls') (hp : pc' = pc + 1) (g : Go p e below s K N h0 ws Q T (mkF m pc' Ls' st)) : Go p e below s K N h0 ws Q T (mkF m pc Ls (v :: st)) := by
  subst hp; obtain ⟨L, X, -⟩ := X; exact Go.to (fun t k => XS.astoreN X.here B.1 rfl (hb B.2.2.1 hd) rfl hv hl k) g
theorem giconst (B : Fix p Z s m meth c bytes maxL own nm ret) (X : St p l e R s m args below meth c h0 ws T h cells slots) {i : Int} {v : Int32} (hd : decode bytes pc = .ok (.iconst i, 1)) (hv : Int32.ofInt i = v) (hp : pc' = pc + 1) (g : Go p e below s K N h0 ws Q T (mkF m pc' Ls (.int v :: st))) : Go p e below s K N h0 ws Q T (mkF m pc Ls st) := by
  subst hp; subst hv; obtain ⟨L, X, -⟩ := X; exact Go.to (fun t k => XS.iconst X.here B.1 rfl (hb B.2.2.1 hd) k) g
theorem gbipush (B : Fix p Z s m meth c bytes maxL own nm ret) (X : St p l e R s m args below meth c h0 ws T h cells slots) {i : Int} {v : Int32} (hd : decode bytes pc = .ok (.bipush i, 2)) (hv : (Int8.ofInt i).toInt32 = v) (hp : pc' = pc + 2) (g : Go p e below s K N h0 ws Q T (mkF m pc' Ls (.int v :: st))) : Go p e below s K N h0 ws Q T (mkF m pc Ls st) := by
  subst hp; subst hv; obtain ⟨L, X, -⟩ := X; exact Go.to (fun t k => XS.bipush X.here B.1 rfl (hb B.2.2.1 hd) k) g
theorem gsipush (B : Fix p Z s m meth c bytes maxL own nm ret) (X : St p l e R s m args below meth c h0 ws T h cells slots) {i : Int} {v : Int32} (hd : decode bytes pc = .ok (.sipush i, 3)) (hv : (Int16.ofInt i).toInt32 = v) (hp : pc' = pc + 3) (g : Go p e below s K N h0 ws Q T (mkF m pc' Ls (.int v :: st))) : Go p e below s K N h0 ws Q T (mkF m pc Ls st) := by
  subst hp; subst hv; obtain ⟨L, X, -⟩ := X; exact Go.to (fun t k => XS.sipush X.here B.1 rfl (hb B.2.2.1 hd) k) g
theorem glconst (B : Fix p Z s m meth c bytes maxL own nm ret) (X : St p l e R s m args below meth c h0 ws T h cells slots) {k : Fin 2} {v : Int64} (hd : decode bytes pc = .ok (.lconst k, 1)) (hv : Int64.ofNat k = v) (hp : pc' = pc + 1) (g : Go p e below s K N h0 ws Q T (mkF m pc' Ls (.long v :: st))) : Go p e below s K N h0 ws Q T (mkF m pc Ls st) := by
  subst hp; subst hv; obtain ⟨L, X, -⟩ := X; exact Go.to (fun t k => XS.lconst X.here B.1 rfl (hb B.2.2.1 hd) k) g
theorem gnull (B : Fix p Z s m meth c bytes maxL own nm ret) (X : St p l e R s m args below meth c h0 ws T h cells slots)  (hd : decode bytes pc = .ok (.aconst_null, 1))  (hp : pc' = pc + 1) (g : Go p e below s K N h0 ws Q T (mkF m pc' Ls (.null :: st))) : Go p e below s K N h0 ws Q T (mkF m pc Ls st) := by
  subst hp; obtain ⟨L, X, -⟩ := X; exact Go.to (fun t k => XS.aconstNull X.here B.1 rfl (hb B.2.2.1 hd)  k) g
theorem giadd (B : Fix p Z s m meth c bytes maxL own nm ret) (X : St p l e R s m args below meth c h0 ws T h cells slots) {x y : Int32} {v : Int32} (hd : decode bytes pc = .ok (.iadd, 1))  (hv : x + y = v) (hp : pc' = pc + 1) (g : Go p e below s K N h0 ws Q T (mkF m pc' Ls (.int v :: st))) : Go p e below s K N h0 ws Q T (mkF m pc Ls (.int y :: .int x :: st)) := by
  subst hp; subst hv; obtain ⟨L, X, -⟩ := X; exact Go.to (fun t k => XS.iadd X.here B.1 rfl (hb B.2.2.1 hd) rfl k) g
theorem gladd (B : Fix p Z s m meth c bytes maxL own nm ret) (X : St p l e R s m args below meth c h0 ws T h cells slots) {x y : Int64} {v : Int64} (hd : decode bytes pc = .ok (.ladd, 1))  (hv : x + y = v) (hp : pc' = pc + 1) (g : Go p e below s K N h0 ws Q T (mkF m pc' Ls (.long v :: st))) : Go p e below s K N h0 ws Q T (mkF m pc Ls (.long y :: .long x :: st)) := by
  subst hp; subst hv; obtain ⟨L, X, -⟩ := X; exact Go.to (fun t k => XS.ladd X.here B.1 rfl (hb B.2.2.1 hd) rfl k) g
theorem gisub (B : Fix p Z s m meth c bytes maxL own nm ret) (X : St p l e R s m args below meth c h0 ws T h cells slots) {x y : Int32} {v : Int32} (hd : decode bytes pc = .ok (.isub, 1))  (hv : x - y = v) (hp : pc' = pc + 1) (g : Go p e below s K N h0 ws Q T (mkF m pc' Ls (.int v :: st))) : Go p e below s K N h0 ws Q T (mkF m pc Ls (.int y :: .int x :: st)) := by
  subst hp; subst hv; obtain ⟨L, X, -⟩ := X; exact Go.to (fun t k => XS.isub X.here B.1 rfl (hb B.2.2.1 hd) rfl k) g
theorem glsub (B : Fix p Z s m meth c bytes maxL own nm ret) (X : St p l e R s m args below meth c h0 ws T h cells slots) {x y : Int64} {v : Int64} (hd : decode bytes pc = .ok (.lsub, 1))  (hv : x - y = v) (hp : pc' = pc + 1) (g : Go p e below s K N h0 ws Q T (mkF m pc' Ls (.long v :: st))) : Go p e below s K N h0 ws Q T (mkF m pc Ls (.long y :: .long x :: st)) := by
  subst hp; subst hv; obtain ⟨L, X, -⟩ := X; exact Go.to (fun t k => XS.lsub X.here B.1 rfl (hb B.2.2.1 hd) rfl k) g
theorem gimul (B : Fix p Z s m meth c bytes maxL own nm ret) (X : St p l e R s m args below meth c h0 ws T h cells slots) {x y : Int32} {v : Int32} (hd : decode bytes pc = .ok (.imul, 1))  (hv : x * y = v) (hp : pc' = pc + 1) (g : Go p e below s K N h0 ws Q T (mkF m pc' Ls (.int v :: st))) : Go p e below s K N h0 ws Q T (mkF m pc Ls (.int y :: .int x :: st)) := by
  subst hp; subst hv; obtain ⟨L, X, -⟩ := X; exact Go.to (fun t k => XS.imul X.here B.1 rfl (hb B.2.2.1 hd) rfl k) g
theorem glmul (B : Fix p Z s m meth c bytes maxL own nm ret) (X : St p l e R s m args below meth c h0 ws T h cells slots) {x y : Int64} {v : Int64} (hd : decode bytes pc = .ok (.lmul, 1))  (hv : x * y = v) (hp : pc' = pc + 1) (g : Go p e below s K N h0 ws Q T (mkF m pc' Ls (.long v :: st))) : Go p e below s K N h0 ws Q T (mkF m pc Ls (.long y :: .long x :: st)) := by
  subst hp; subst hv; obtain ⟨L, X, -⟩ := X; exact Go.to (fun t k => XS.lmul X.here B.1 rfl (hb B.2.2.1 hd) rfl k) g
theorem giand (B : Fix p Z s m meth c bytes maxL own nm ret) (X : St p l e R s m args below meth c h0 ws T h cells slots) {x y : Int32} {v : Int32} (hd : decode bytes pc = .ok (.iand, 1))  (hv : x &&& y = v) (hp : pc' = pc + 1) (g : Go p e below s K N h0 ws Q T (mkF m pc' Ls (.int v :: st))) : Go p e below s K N h0 ws Q T (mkF m pc Ls (.int y :: .int x :: st)) := by
  subst hp; subst hv; obtain ⟨L, X, -⟩ := X; exact Go.to (fun t k => XS.iand X.here B.1 rfl (hb B.2.2.1 hd) rfl k) g
theorem gland (B : Fix p Z s m meth c bytes maxL own nm ret) (X : St p l e R s m args below meth c h0 ws T h cells slots) {x y : Int64} {v : Int64} (hd : decode bytes pc = .ok (.land, 1))  (hv : x &&& y = v) (hp : pc' = pc + 1) (g : Go p e below s K N h0 ws Q T (mkF m pc' Ls (.long v :: st))) : Go p e below s K N h0 ws Q T (mkF m pc Ls (.long y :: .long x :: st)) := by
  subst hp; subst hv; obtain ⟨L, X, -⟩ := X; exact Go.to (fun t k => XS.land X.here B.1 rfl (hb B.2.2.1 hd) rfl k) g
theorem gior (B : Fix p Z s m meth c bytes maxL own nm ret) (X : St p l e R s m args below meth c h0 ws T h cells slots) {x y : Int32} {v : Int32} (hd : decode bytes pc = .ok (.ior, 1))  (hv : x ||| y = v) (hp : pc' = pc + 1) (g : Go p e below s K N h0 ws Q T (mkF m pc' Ls (.int v :: st))) : Go p e below s K N h0 ws Q T (mkF m pc Ls (.int y :: .int x :: st)) := by
  subst hp; subst hv; obtain ⟨L, X, -⟩ := X; exact Go.to (fun t k => XS.ior X.here B.1 rfl (hb B.2.2.1 hd) rfl k) g
theorem glor (B : Fix p Z s m meth c bytes maxL own nm ret) (X : St p l e R s m args below meth c h0 ws T h cells slots) {x y : Int64} {v : Int64} (hd : decode bytes pc = .ok (.lor, 1))  (hv : x ||| y = v) (hp : pc' = pc + 1) (g : Go p e below s K N h0 ws Q T (mkF m pc' Ls (.long v :: st))) : Go p e below s K N h0 ws Q T (mkF m pc Ls (.long y :: .long x :: st)) := by
  subst hp; subst hv; obtain ⟨L, X, -⟩ := X; exact Go.to (fun t k => XS.lor X.here B.1 rfl (hb B.2.2.1 hd) rfl k) g
theorem gixor (B : Fix p Z s m meth c bytes maxL own nm ret) (X : St p l e R s m args below meth c h0 ws T h cells slots) {x y : Int32} {v : Int32} (hd : decode bytes pc = .ok (.ixor, 1))  (hv : x ^^^ y = v) (hp : pc' = pc + 1) (g : Go p e below s K N h0 ws Q T (mkF m pc' Ls (.int v :: st))) : Go p e below s K N h0 ws Q T (mkF m pc Ls (.int y :: .int x :: st)) := by
  subst hp; subst hv; obtain ⟨L, X, -⟩ := X; exact Go.to (fun t k => XS.ixor X.here B.1 rfl (hb B.2.2.1 hd) rfl k) g
theorem glxor (B : Fix p Z s m meth c bytes maxL own nm ret) (X : St p l e R s m args below meth c h0 ws T h cells slots) {x y : Int64} {v : Int64} (hd : decode bytes pc = .ok (.lxor, 1))  (hv : x ^^^ y = v) (hp : pc' = pc + 1) (g : Go p e below s K N h0 ws Q T (mkF m pc' Ls (.long v :: st))) : Go p e below s K N h0 ws Q T (mkF m pc Ls (.long y :: .long x :: st)) := by
  subst hp; subst hv; obtain ⟨L, X, -⟩ := X; exact Go.to (fun t k => XS.lxor X.here B.1 rfl (hb B.2.2.1 hd) rfl k) g
theorem gidiv (B : Fix p Z s m meth c bytes maxL own nm ret) (X : St p l e R s m args below meth c h0 ws T h cells slots) {x y : Int32} {v : Int32} (hd : decode bytes pc = .ok (.idiv, 1)) (hy : y ≠ 0) (hv : x / y = v) (hp : pc' = pc + 1) (g : Go p e below s K N h0 ws Q T (mkF m pc' Ls (.int v :: st))) : Go p e below s K N h0 ws Q T (mkF m pc Ls (.int y :: .int x :: st)) := by
  subst hp; subst hv; obtain ⟨L, X, -⟩ := X; exact Go.to (fun t k => XS.idiv X.here B.1 rfl (hb B.2.2.1 hd) rfl hy k) g
theorem gldiv (B : Fix p Z s m meth c bytes maxL own nm ret) (X : St p l e R s m args below meth c h0 ws T h cells slots) {x y : Int64} {v : Int64} (hd : decode bytes pc = .ok (.ldiv, 1)) (hy : y ≠ 0) (hv : x / y = v) (hp : pc' = pc + 1) (g : Go p e below s K N h0 ws Q T (mkF m pc' Ls (.long v :: st))) : Go p e below s K N h0 ws Q T (mkF m pc Ls (.long y :: .long x :: st)) := by
  subst hp; subst hv; obtain ⟨L, X, -⟩ := X; exact Go.to (fun t k => XS.ldiv X.here B.1 rfl (hb B.2.2.1 hd) rfl hy k) g
theorem girem (B : Fix p Z s m meth c bytes maxL own nm ret) (X : St p l e R s m args below meth c h0 ws T h cells slots) {x y v : Int32} (hd : decode bytes pc = .ok (.irem, 1)) (hy : y ≠ 0) (hv : x % y = v) (hp : pc' = pc + 1) (g : Go p e below s K N h0 ws Q T (mkF m pc' Ls (.int v :: st))) : Go p e below s K N h0 ws Q T (mkF m pc Ls (.int y :: .int x :: st)) := by
  subst hp; subst hv; obtain ⟨L, X, -⟩ := X; exact Go.to (fun t k => iremM X B.1 rfl (hb B.2.2.1 hd) rfl hy k) g
theorem glrem (B : Fix p Z s m meth c bytes maxL own nm ret) (X : St p l e R s m args below meth c h0 ws T h cells slots) {x y v : Int64} (hd : decode bytes pc = .ok (.lrem, 1)) (hy : y ≠ 0) (hv : x % y = v) (hp : pc' = pc + 1) (g : Go p e below s K N h0 ws Q T (mkF m pc' Ls (.long v :: st))) : Go p e below s K N h0 ws Q T (mkF m pc Ls (.long y :: .long x :: st)) := by
  subst hp; subst hv; obtain ⟨L, X, -⟩ := X; exact Go.to (fun t k => XS.lrem X.here B.1 rfl (hb B.2.2.1 hd) rfl hy (by rw [lrem_mod]; exact k)) g
theorem gishl (B : Fix p Z s m meth c bytes maxL own nm ret) (X : St p l e R s m args below meth c h0 ws T h cells slots) {x y : Int32} {v : Int32} (hd : decode bytes pc = .ok (.ishl, 1))  (hv : x <<< (y &&& 31) = v) (hp : pc' = pc + 1) (g : Go p e below s K N h0 ws Q T (mkF m pc' Ls (.int v :: st))) : Go p e below s K N h0 ws Q T (mkF m pc Ls (.int y :: .int x :: st)) := by
  subst hp; subst hv; obtain ⟨L, X, -⟩ := X; exact Go.to (fun t k => XS.ishl X.here B.1 rfl (hb B.2.2.1 hd) rfl k) g
theorem gishr (B : Fix p Z s m meth c bytes maxL own nm ret) (X : St p l e R s m args below meth c h0 ws T h cells slots) {x y : Int32} {v : Int32} (hd : decode bytes pc = .ok (.ishr, 1))  (hv : x >>> (y &&& 31) = v) (hp : pc' = pc + 1) (g : Go p e below s K N h0 ws Q T (mkF m pc' Ls (.int v :: st))) : Go p e below s K N h0 ws Q T (mkF m pc Ls (.int y :: .int x :: st)) := by
  subst hp; subst hv; obtain ⟨L, X, -⟩ := X; exact Go.to (fun t k => XS.ishr X.here B.1 rfl (hb B.2.2.1 hd) rfl k) g
theorem giushr (B : Fix p Z s m meth c bytes maxL own nm ret) (X : St p l e R s m args below meth c h0 ws T h cells slots) {x y : Int32} {v : Int32} (hd : decode bytes pc = .ok (.iushr, 1))  (hv : (x.toUInt32 >>> (y &&& 31).toUInt32).toInt32 = v) (hp : pc' = pc + 1) (g : Go p e below s K N h0 ws Q T (mkF m pc' Ls (.int v :: st))) : Go p e below s K N h0 ws Q T (mkF m pc Ls (.int y :: .int x :: st)) := by
  subst hp; subst hv; obtain ⟨L, X, -⟩ := X; exact Go.to (fun t k => XS.iushr X.here B.1 rfl (hb B.2.2.1 hd) rfl k) g
theorem glshl (B : Fix p Z s m meth c bytes maxL own nm ret) (X : St p l e R s m args below meth c h0 ws T h cells slots) {x : Int64} {y : Int32} {v : Int64} (hd : decode bytes pc = .ok (.lshl, 1))  (hv : x <<< (y &&& 0x3f).toInt64 = v) (hp : pc' = pc + 1) (g : Go p e below s K N h0 ws Q T (mkF m pc' Ls (.long v :: st))) : Go p e below s K N h0 ws Q T (mkF m pc Ls (.int y :: .long x :: st)) := by
  subst hp; subst hv; obtain ⟨L, X, -⟩ := X; exact Go.to (fun t k => XS.lshl X.here B.1 rfl (hb B.2.2.1 hd) rfl k) g
theorem glshr (B : Fix p Z s m meth c bytes maxL own nm ret) (X : St p l e R s m args below meth c h0 ws T h cells slots) {x : Int64} {y : Int32} {v : Int64} (hd : decode bytes pc = .ok (.lshr, 1))  (hv : x >>> (y &&& 0x3f).toInt64 = v) (hp : pc' = pc + 1) (g : Go p e below s K N h0 ws Q T (mkF m pc' Ls (.long v :: st))) : Go p e below s K N h0 ws Q T (mkF m pc Ls (.int y :: .long x :: st)) := by
  subst hp; subst hv; obtain ⟨L, X, -⟩ := X; exact Go.to (fun t k => XS.lshr X.here B.1 rfl (hb B.2.2.1 hd) rfl k) g
theorem glushr (B : Fix p Z s m meth c bytes maxL own nm ret) (X : St p l e R s m args below meth c h0 ws T h cells slots) {x : Int64} {y : Int32} {v : Int64} (hd : decode bytes pc = .ok (.lushr, 1))  (hv : (x.toUInt64 >>> (y &&& 0x3f).toInt64.toUInt64).toInt64 = v) (hp : pc' = pc + 1) (g : Go p e below s K N h0 ws Q T (mkF m pc' Ls (.long v :: st))) : Go p e below s K N h0 ws Q T (mkF m pc Ls (.int y :: .long x :: st)) := by
  subst hp; subst hv; obtain ⟨L, X, -⟩ := X; exact Go.to (fun t k => XS.lushr X.here B.1 rfl (hb B.2.2.1 hd) rfl k) g
theorem gineg (B : Fix p Z s m meth c bytes maxL own nm ret) (X : St p l e R s m args below meth c h0 ws T h cells slots) {x : Int32} {v : Int32} (hd : decode bytes pc = .ok (.ineg, 1))  (hv : -x = v) (hp : pc' = pc + 1) (g : Go p e below s K N h0 ws Q T (mkF m pc' Ls (.int v :: st))) : Go p e below s K N h0 ws Q T (mkF m pc Ls (.int x :: st)) := by
  subst hp; subst hv; obtain ⟨L, X, -⟩ := X; exact Go.to (fun t k => XS.ineg X.here B.1 rfl (hb B.2.2.1 hd) rfl k) g
theorem glneg (B : Fix p Z s m meth c bytes maxL own nm ret) (X : St p l e R s m args below meth c h0 ws T h cells slots) {x : Int64} {v : Int64} (hd : decode bytes pc = .ok (.lneg, 1))  (hv : -x = v) (hp : pc' = pc + 1) (g : Go p e below s K N h0 ws Q T (mkF m pc' Ls (.long v :: st))) : Go p e below s K N h0 ws Q T (mkF m pc Ls (.long x :: st)) := by
  subst hp; subst hv; obtain ⟨L, X, -⟩ := X; exact Go.to (fun t k => XS.lneg X.here B.1 rfl (hb B.2.2.1 hd) rfl k) g
theorem gi2l (B : Fix p Z s m meth c bytes maxL own nm ret) (X : St p l e R s m args below meth c h0 ws T h cells slots) {x : Int32} {v : Int64} (hd : decode bytes pc = .ok (.i2l, 1))  (hv : x.toInt64 = v) (hp : pc' = pc + 1) (g : Go p e below s K N h0 ws Q T (mkF m pc' Ls (.long v :: st))) : Go p e below s K N h0 ws Q T (mkF m pc Ls (.int x :: st)) := by
  subst hp; subst hv; obtain ⟨L, X, -⟩ := X; exact Go.to (fun t k => XS.i2l X.here B.1 rfl (hb B.2.2.1 hd) rfl k) g
theorem gl2i (B : Fix p Z s m meth c bytes maxL own nm ret) (X : St p l e R s m args below meth c h0 ws T h cells slots) {x : Int64} {v : Int32} (hd : decode bytes pc = .ok (.l2i, 1))  (hv : x.toInt32 = v) (hp : pc' = pc + 1) (g : Go p e below s K N h0 ws Q T (mkF m pc' Ls (.int v :: st))) : Go p e below s K N h0 ws Q T (mkF m pc Ls (.long x :: st)) := by
  subst hp; subst hv; obtain ⟨L, X, -⟩ := X; exact Go.to (fun t k => XS.l2i X.here B.1 rfl (hb B.2.2.1 hd) rfl k) g
theorem gi2b (B : Fix p Z s m meth c bytes maxL own nm ret) (X : St p l e R s m args below meth c h0 ws T h cells slots) {x : Int32} {v : Int32} (hd : decode bytes pc = .ok (.i2b, 1))  (hv : x.toInt8.toInt32 = v) (hp : pc' = pc + 1) (g : Go p e below s K N h0 ws Q T (mkF m pc' Ls (.int v :: st))) : Go p e below s K N h0 ws Q T (mkF m pc Ls (.int x :: st)) := by
  subst hp; subst hv; obtain ⟨L, X, -⟩ := X; exact Go.to (fun t k => XS.i2b X.here B.1 rfl (hb B.2.2.1 hd) rfl k) g
theorem gi2s (B : Fix p Z s m meth c bytes maxL own nm ret) (X : St p l e R s m args below meth c h0 ws T h cells slots) {x : Int32} {v : Int32} (hd : decode bytes pc = .ok (.i2s, 1))  (hv : x.toInt16.toInt32 = v) (hp : pc' = pc + 1) (g : Go p e below s K N h0 ws Q T (mkF m pc' Ls (.int v :: st))) : Go p e below s K N h0 ws Q T (mkF m pc Ls (.int x :: st)) := by
  subst hp; subst hv; obtain ⟨L, X, -⟩ := X; exact Go.to (fun t k => XS.i2s X.here B.1 rfl (hb B.2.2.1 hd) rfl k) g
theorem gi2c (B : Fix p Z s m meth c bytes maxL own nm ret) (X : St p l e R s m args below meth c h0 ws T h cells slots) {x : Int32} {v : Int32} (hd : decode bytes pc = .ok (.i2c, 1))  (hv : x.toUInt32.toUInt16.toUInt32.toInt32 = v) (hp : pc' = pc + 1) (g : Go p e below s K N h0 ws Q T (mkF m pc' Ls (.int v :: st))) : Go p e below s K N h0 ws Q T (mkF m pc Ls (.int x :: st)) := by
  subst hp; subst hv; obtain ⟨L, X, -⟩ := X; exact Go.to (fun t k => XS.i2c X.here B.1 rfl (hb B.2.2.1 hd) rfl k) g
theorem glcmp (B : Fix p Z s m meth c bytes maxL own nm ret) (X : St p l e R s m args below meth c h0 ws T h cells slots) {x y : Int64} (hd : decode bytes pc = .ok (.lcmp, 1))  (hp : pc' = pc + 1) (g : Go p e below s K N h0 ws Q T (mkF m pc' Ls (.int (lcmpW x y) :: st))) : Go p e below s K N h0 ws Q T (mkF m pc Ls (.long y :: .long x :: st)) := by
  subst hp; obtain ⟨L, X, -⟩ := X; exact Go.to (fun t k => XS.lcmp X.here B.1 rfl (hb B.2.2.1 hd) rfl k) g
theorem gdup (B : Fix p Z s m meth c bytes maxL own nm ret) (X : St p l e R s m args below meth c h0 ws T h cells slots) {x : Value} (hd : decode bytes pc = .ok (.dup, 1)) (hc : x.category = 1) (hp : pc' = pc + 1) (g : Go p e below s K N h0 ws Q T (mkF m pc' Ls (x :: x :: st))) : Go p e below s K N h0 ws Q T (mkF m pc Ls (x :: st)) := by
  subst hp; obtain ⟨L, X, -⟩ := X; exact Go.to (fun t k => XS.dup X.here B.1 rfl (hb B.2.2.1 hd) rfl hc k) g
theorem gpop (B : Fix p Z s m meth c bytes maxL own nm ret) (X : St p l e R s m args below meth c h0 ws T h cells slots) {x : Value} (hd : decode bytes pc = .ok (.pop, 1)) (hc : x.category = 1) (hp : pc' = pc + 1) (g : Go p e below s K N h0 ws Q T (mkF m pc' Ls st)) : Go p e below s K N h0 ws Q T (mkF m pc Ls (x :: st)) := by
  subst hp; obtain ⟨L, X, -⟩ := X; exact Go.to (fun t k => XS.pop X.here B.1 rfl (hb B.2.2.1 hd) rfl hc k) g
theorem gdup_x1 (B : Fix p Z s m meth c bytes maxL own nm ret) (X : St p l e R s m args below meth c h0 ws T h cells slots) {x y : Value} (hd : decode bytes pc = .ok (.dup_x1, 1)) (hc : x.category = 1) (hc2 : y.category = 1) (hp : pc' = pc + 1) (g : Go p e below s K N h0 ws Q T (mkF m pc' Ls (x :: y :: x :: st))) : Go p e below s K N h0 ws Q T (mkF m pc Ls (x :: y :: st)) := by
  subst hp; obtain ⟨L, X, -⟩ := X; exact Go.to (fun t k => XS.dupX1 X.here B.1 rfl (hb B.2.2.1 hd) rfl hc hc2 k) g
theorem gdup2 (B : Fix p Z s m meth c bytes maxL own nm ret) (X : St p l e R s m args below meth c h0 ws T h cells slots) {x y : Value} (hd : decode bytes pc = .ok (.dup2, 1)) (hc : x.category = 1) (hc2 : y.category = 1) (hp : pc' = pc + 1) (g : Go p e below s K N h0 ws Q T (mkF m pc' Ls (x :: y :: x :: y :: st))) : Go p e below s K N h0 ws Q T (mkF m pc Ls (x :: y :: st)) := by
  subst hp; obtain ⟨L, X, -⟩ := X; exact Go.to (fun t k => Jvm.Free.XT.dup2 X.here B.1 rfl (hb B.2.2.1 hd) rfl hc hc2 k) g
theorem xdup_x2 {tb : Tables} [Ours tb] {target : State} {g : JFrame} (h : At T m c below) (hx : tb.exec = Jvm.exec) (hg : g.method = m) {x y z : Value} {rest : List Value} (hd : decode c.code g.pc = .ok (.dup_x2, 1)) (hs : g.stack = x :: y :: z :: rest) (hc : x.category = 1) (hc' : y.category = 1) (hc2 : z.category = 1)
    (hr : Steps tb e below (T.setTop { g with pc := g.pc + 1, stack := x :: y :: z :: x :: rest }) target) : Steps tb e below (T.setTop g) target := by
  subst hg
  jvm_step h [h.top, hx, hd, hs, hc, hc', hc2]
  exact hr
theorem gdup_x2 (B : Fix p Z s m meth c bytes maxL own nm ret) (X : St p l e R s m args below meth c h0 ws T h cells slots) {x y z : Value} (hd : decode bytes pc = .ok (.dup_x2, 1)) (hc : x.category = 1) (hc2 : y.category = 1) (hc3 : z.category = 1) (hp : pc' = pc + 1) (g : Go p e below s K N h0 ws Q T (mkF m pc' Ls (x :: y :: z :: x :: st))) : Go p e below s K N h0 ws Q T (mkF m pc Ls (x :: y :: z :: st)) := by
  subst hp; obtain ⟨L, X, -⟩ := X; exact Go.to (fun t k => xdup_x2 X.here B.1 rfl (hb B.2.2.1 hd) rfl hc hc2 hc3 k) g
theorem giinc (B : Fix p Z s m meth c bytes maxL own nm ret) (X : St p l e R s m args below meth c h0 ws T h cells slots) {k : Nat} {cst : Int} {x v : Int32} (hd : decode bytes pc = .ok (.iinc k cst, 3)) (hl : Ls[k]? = some (.val (.int x))) (hv : x + Int32.ofInt cst = v) (hl' : storeLocals Ls k (.int v) = some Ls') (hp : pc' = pc + 3) (g : Go p e below s K N h0 ws Q T (mkF m pc' Ls' st)) : Go p e below s K N h0 ws Q T (mkF m pc Ls st) := by
  subst hp; subst hv; obtain ⟨L, X, -⟩ := X; exact Go.to (fun t k => XS.iinc X.here B.1 rfl (hb B.2.2.1 hd) hl hl' k) g
theorem ggoto (B : Fix p Z s m meth c bytes maxL own nm ret) (X : St p l e R s m args below meth c h0 ws T h cells slots) {o : Int} (hd : decode bytes pc = .ok (.goto o, 3)) (ho : 0 ≤ (pc : Int) + o ∧ ((pc : Int) + o).toNat = pc') (g : Go p e below s K N h0 ws Q T (mkF m pc' Ls st)) : Go p e below s K N h0 ws Q T (mkF m pc Ls st) := by
  obtain ⟨L, X, -⟩ := X; exact Go.to (fun t k => XS.goto X.here B.1 rfl (pc0 := pc) rfl (hb B.2.2.1 hd) ho.1 ho.2 k) g
theorem gifY (B : Fix p Z s m meth c bytes maxL own nm ret) (X : St p l e R s m args below meth c h0 ws T h cells slots) {cd : ClassFile.Cond} {o : Int} {x : Int32} (hd : decode bytes pc = .ok (.ifCond cd o, 3)) (hc : ifCond.holds cd x = true) (ho : 0 ≤ (pc : Int) + o ∧ ((pc : Int) + o).toNat = pc') (g : Go p e below s K N h0 ws Q T (mkF m pc' Ls st)) : Go p e below s K N h0 ws Q T (mkF m pc Ls (.int x :: st)) := by
  obtain ⟨L, X, -⟩ := X; exact Go.to (fun t k => XS.ifYes X.here B.1 rfl (pc0 := pc) rfl (hb B.2.2.1 hd) rfl hc ho.1 ho.2 k) g
theorem gifN (B : Fix p Z s m meth c bytes maxL own nm ret) (X : St p l e R s m args below meth c h0 ws T h cells slots) {cd : ClassFile.Cond} {o : Int} {x : Int32} (hd : decode bytes pc = .ok (.ifCond cd o, 3)) (hc : ifCond.holds cd x = false) (hp : pc' = pc + 3) (g : Go p e below s K N h0 ws Q T (mkF m pc' Ls st)) : Go p e below s K N h0 ws Q T (mkF m pc Ls (.int x :: st)) := by
  subst hp; obtain ⟨L, X, -⟩ := X; exact Go.to (fun t k => XS.ifNo X.here B.1 rfl (hb B.2.2.1 hd) rfl hc k) g
theorem gicY (B : Fix p Z s m meth c bytes maxL own nm ret) (X : St p l e R s m args below meth c h0 ws T h cells slots) {cd : ClassFile.Cond} {o : Int} {x y : Int32} (hd : decode bytes pc = .ok (.if_icmp cd o, 3)) (hc : if_icmp.holds cd x y = true) (ho : 0 ≤ (pc : Int) + o ∧ ((pc : Int) + o).toNat = pc') (g : Go p e below s K N h0 ws Q T (mkF m pc' Ls st)) : Go p e below s K N h0 ws Q T (mkF m pc Ls (.int y :: .int x :: st)) := by
  obtain ⟨L, X, -⟩ := X; exact Go.to (fun t k => XS.icmpYes X.here B.1 rfl (pc0 := pc) rfl (hb B.2.2.1 hd) rfl hc ho.1 ho.2 k) g
theorem gicN (B : Fix p Z s m meth c bytes maxL own nm ret) (X : St p l e R s m args below meth c h0 ws T h cells slots) {cd : ClassFile.Cond} {o : Int} {x y : Int32} (hd : decode bytes pc = .ok (.if_icmp cd o, 3)) (hc : if_icmp.holds cd x y = false) (hp : pc' = pc + 3) (g : Go p e below s K N h0 ws Q T (mkF m pc' Ls st)) : Go p e below s K N h0 ws Q T (mkF m pc Ls (.int y :: .int x :: st)) := by
  subst hp; obtain ⟨L, X, -⟩ := X; exact Go.to (fun t k => XS.icmpNo X.here B.1 rfl (hb B.2.2.1 hd) rfl hc k) g
theorem gnullN (B : Fix p Z s m meth c bytes maxL own nm ret) (X : St p l e R s m args below meth c h0 ws T h cells slots) {a : Addr} {o : Int} (hd : decode bytes pc = .ok (.ifnull o, 3)) (hp : pc' = pc + 3) (g : Go p e below s K N h0 ws Q T (mkF m pc' Ls st)) : Go p e below s K N h0 ws Q T (mkF m pc Ls (.ref a :: st)) := by
  subst hp; obtain ⟨L, X, -⟩ := X; exact Go.to (fun t k => XS.ifnullNo X.here B.1 rfl (hb B.2.2.1 hd) rfl k) g
theorem gldc (B : Fix p Z s m meth c bytes maxL own nm ret) (X : St p l e R s m args below meth c h0 ws T h cells slots) {i : Nat} {v : Int32} (w : (Cond.constant own i v).before a0 Z = true) (hd : decode bytes pc = .ok (.ldc i, 2)) (hp : pc' = pc + 2) (g : Go p e below s K N h0 ws Q T (mkF m pc' Ls (.int v :: st))) : Go p e below s K N h0 ws Q T (mkF m pc Ls st) := by
  subst hp; obtain ⟨L, X, -⟩ := X; exact Go.to (fun t k => X.ldcInt B.1 B.2.2.2.2.1 (mvT B.2.1 w) (g := mkF m pc Ls st) rfl (hb B.2.2.1 hd) t k) g
theorem gldcw (B : Fix p Z s m meth c bytes maxL own nm ret) (X : St p l e R s m args below meth c h0 ws T h cells slots) {i : Nat} {v : Int32} (w : (Cond.constant own i v).before a0 Z = true) (hd : decode bytes pc = .ok (.ldc_w i, 3)) (hp : pc' = pc + 3) (g : Go p e below s K N h0 ws Q T (mkF m pc' Ls (.int v :: st))) : Go p e below s K N h0 ws Q T (mkF m pc Ls st) := by
  subst hp; obtain ⟨L, X, -⟩ := X; exact Go.to (fun t k => X.ldcwInt B.1 B.2.2.2.2.1 (mvT B.2.1 w) (g := mkF m pc Ls st) rfl (hb B.2.2.1 hd) t k) g
theorem gldc2 (B : Fix p Z s m meth c bytes maxL own nm ret) (X : St p l e R s m args below meth c h0 ws T h cells slots) {i : Nat} {v : Int64} (w : (Cond.constantLong own i v).before a0 Z = true) (hd : decode bytes pc = .ok (.ldc2_w i, 3)) (hp : pc' = pc + 3) (g : Go p e below s K N h0 ws Q T (mkF m pc' Ls (.long v :: st))) : Go p e below s K N h0 ws Q T (mkF m pc Ls st) := by
  subst hp; obtain ⟨L, X, -⟩ := X; exact Go.to (fun t k => X.ldc2Long B.1 B.2.2.2.2.1 (mvT B.2.1 w) (g := mkF m pc Ls st) rfl (hb B.2.2.1 hd) t k) g
theorem giaload (B : Fix p Z s m meth c bytes maxL own nm ret) (X : St p l e R s m args below meth c h0 ws T h cells slots) {a : Addr} {vs : List Value} {j : Int32} {v : Value} {n : Nat} (A : VA Z h a .int vs) (hn : vs.length = n) (hj : 0 ≤ j.toInt ∧ j.toInt < n) (hv : vs[j.toNatClampNeg]? = some v) (hd : decode bytes pc = .ok (.iaload, 1)) (hp : pc' = pc + 1) (g : Go p e below s K N h0 ws Q T (mkF m pc' Ls (v :: st))) : Go p e below s K N h0 ws Q T (mkF m pc Ls (.int j :: .ref a :: st)) := by
  subst hp; subst hn; obtain ⟨L, X, eT, -⟩ := X; obtain ⟨cl, A, r, n⟩ := A
  exact Go.to (fun t k => X.iaload B.1 (by rw [eT]; exact A.1) (State.isArrayOf_alike B.2.1.alike A.2.1) A.2.2 (by rw [r]; exact inb (by simpa using hj)) (by rw [r]; simpa using hv) (g := mkF m pc Ls (.int j :: .ref a :: st)) rfl rfl (hb B.2.2.1 hd) t k) g
theorem glaload (B : Fix p Z s m meth c bytes maxL own nm ret) (X : St p l e R s m args below meth c h0 ws T h cells slots) {a : Addr} {vs : List Value} {j : Int32} {v : Value} {n : Nat} (A : VA Z h a .long vs) (hn : vs.length = n) (hj : 0 ≤ j.toInt ∧ j.toInt < n) (hv : vs[j.toNatClampNeg]? = some v) (hd : decode bytes pc = .ok (.laload, 1)) (hp : pc' = pc + 1) (g : Go p e below s K N h0 ws Q T (mkF m pc' Ls (v :: st))) : Go p e below s K N h0 ws Q T (mkF m pc Ls (.int j :: .ref a :: st)) := by
  subst hp; subst hn; obtain ⟨L, X, eT, -⟩ := X; obtain ⟨cl, A, r, n⟩ := A
  exact Go.to (fun t k => X.laload B.1 (by rw [eT]; exact A.1) (State.isArrayOf_alike B.2.1.alike A.2.1) A.2.2 (by rw [r]; exact inb (by simpa using hj)) (by rw [r]; simpa using hv) (g := mkF m pc Ls (.int j :: .ref a :: st)) rfl rfl (hb B.2.2.1 hd) t k) g
theorem gbaload (B : Fix p Z s m meth c bytes maxL own nm ret) (X : St p l e R s m args below meth c h0 ws T h cells slots) {a : Addr} {vs : List Value} {j : Int32} {v : Value} {n : Nat} (A : VA Z h a .byte vs) (hn : vs.length = n) (hj : 0 ≤ j.toInt ∧ j.toInt < n) (hv : vs[j.toNatClampNeg]? = some v) (hd : decode bytes pc = .ok (.baload, 1)) (hp : pc' = pc + 1) (g : Go p e below s K N h0 ws Q T (mkF m pc' Ls (v :: st))) : Go p e below s K N h0 ws Q T (mkF m pc Ls (.int j :: .ref a :: st)) := by
  subst hp; subst hn; obtain ⟨L, X, eT, -⟩ := X; obtain ⟨cl, A, r, n⟩ := A
  exact Go.to (fun t k => X.baloadBytes B.1 (by rw [eT]; exact A.1) (State.isArrayOf_alike B.2.1.alike A.2.1) A.2.2 (by rw [r]; exact inb (by simpa using hj)) (by rw [r]; simpa using hv) (g := mkF m pc Ls (.int j :: .ref a :: st)) rfl rfl (hb B.2.2.1 hd) t k) g
theorem gzaload (B : Fix p Z s m meth c bytes maxL own nm ret) (X : St p l e R s m args below meth c h0 ws T h cells slots) {a : Addr} {vs : List Value} {j : Int32} {v : Value} {n : Nat} (A : VA Z h a .boolean vs) (hn : vs.length = n) (hj : 0 ≤ j.toInt ∧ j.toInt < n) (hv : vs[j.toNatClampNeg]? = some v) (hd : decode bytes pc = .ok (.baload, 1)) (hp : pc' = pc + 1) (g : Go p e below s K N h0 ws Q T (mkF m pc' Ls (v :: st))) : Go p e below s K N h0 ws Q T (mkF m pc Ls (.int j :: .ref a :: st)) := by
  subst hp; subst hn; obtain ⟨L, X, eT, -⟩ := X; obtain ⟨cl, A, r, n⟩ := A
  exact Go.to (fun t k => X.baloadBooleans B.1 (by rw [eT]; exact A.1) (State.isArrayOf_alike B.2.1.alike A.2.1) A.2.2 (by rw [r]; exact inb (by simpa using hj)) (by rw [r]; simpa using hv) (g := mkF m pc Ls (.int j :: .ref a :: st)) rfl rfl (hb B.2.2.1 hd) t k) g
theorem glength (B : Fix p Z s m meth c bytes maxL own nm ret) (X : St p l e R s m args below meth c h0 ws T h cells slots) {a : Addr} {ty : FieldType} {vs : List Value} {n : Int32} {k : Nat} (A : VA Z h a ty vs) (hk : vs.length = k) (hn : n.toInt = k) (hd : decode bytes pc = .ok (.arraylength, 1)) (hp : pc' = pc + 1) (g : Go p e below s K N h0 ws Q T (mkF m pc' Ls (.int n :: st))) : Go p e below s K N h0 ws Q T (mkF m pc Ls (.ref a :: st)) := by
  subst hp; subst hk; obtain ⟨L, X, eT, -⟩ := X; obtain ⟨cl, A, r, q⟩ := A
  have e1 : cl.slots.size.toInt32 = n := by rw [r]; apply Int32.toInt_inj.mp; rw [len_toInt (by simpa using q), hn]; simp
  exact Go.to (fun t k => X.arraylength B.1 (by rw [eT]; exact A.1) (State.isArrayOf_alike B.2.1.alike A.2.1) (g := mkF m pc Ls (.ref a :: st)) rfl rfl (hb B.2.2.1 hd) t (by rw [e1]; exact k)) g
theorem giastore (B : Fix p Z s m meth c bytes maxL own nm ret) (X : St p l e R s m args below meth c h0 ws T h cells slots) {a : Addr} {vs vs' : List Value} {j : Int32} {x : Int32} {i n : Nat} (A : VA Z h a .int vs) (hn : vs.length = n) (hj : 0 ≤ j.toInt ∧ j.toInt < n) (hi : j.toNatClampNeg = i) (hvs : vs.set i (.int x) = vs') (ha : a ∈ ws ∨ h0.size ≤ a) (hd : decode bytes pc = .ok (.iastore, 1)) (hp : pc' = pc + 1) (g : ∀ T' h', St p l e R s m args below meth c h0 ws T' h' cells slots → Wr h h' a i (.int x) → VA Z h' a .int vs' → Go p e below s K N h0 ws Q T' (mkF m pc' Ls st)) : Go p e below s K N h0 ws Q T (mkF m pc Ls (.int x :: .int j :: .ref a :: st)) := by
  subst hp; subst hi; subst hvs; subst hn; obtain ⟨L, X, eT, KK, FF⟩ := X; have A0 := A; obtain ⟨cl, A, r, n⟩ := A
  obtain ⟨T', h', X', e', W, k⟩ := stI X B.1 B.2.1 eT A (by rw [r]; exact inb (by simpa using hj)) (g := mkF m pc Ls (.int x :: .int j :: .ref a :: st)) rfl rfl (hb B.2.2.1 hd)
  exact Go.to k (g T' h' ⟨_, X', e', KK.wr W ha, fun y hy => (List.mem_append.mp hy).elim (FF y) fun q => by cases List.mem_singleton.mp q; exact ha⟩ W (A0.set W))
theorem glastore (B : Fix p Z s m meth c bytes maxL own nm ret) (X : St p l e R s m args below meth c h0 ws T h cells slots) {a : Addr} {vs vs' : List Value} {j : Int32} {x : Int64} {i n : Nat} (A : VA Z h a .long vs) (hn : vs.length = n) (hj : 0 ≤ j.toInt ∧ j.toInt < n) (hi : j.toNatClampNeg = i) (hvs : vs.set i (.long x) = vs') (ha : a ∈ ws ∨ h0.size ≤ a) (hd : decode bytes pc = .ok (.lastore, 1)) (hp : pc' = pc + 1) (g : ∀ T' h', St p l e R s m args below meth c h0 ws T' h' cells slots → Wr h h' a i (.long x) → VA Z h' a .long vs' → Go p e below s K N h0 ws Q T' (mkF m pc' Ls st)) : Go p e below s K N h0 ws Q T (mkF m pc Ls (.long x :: .int j :: .ref a :: st)) := by
  subst hp; subst hi; subst hvs; subst hn; obtain ⟨L, X, eT, KK, FF⟩ := X; have A0 := A; obtain ⟨cl, A, r, n⟩ := A
  obtain ⟨T', h', X', e', W, k⟩ := stJ X B.1 B.2.1 eT A (by rw [r]; exact inb (by simpa using hj)) (g := mkF m pc Ls (.long x :: .int j :: .ref a :: st)) rfl rfl (hb B.2.2.1 hd)
  exact Go.to k (g T' h' ⟨_, X', e', KK.wr W ha, fun y hy => (List.mem_append.mp hy).elim (FF y) fun q => by cases List.mem_singleton.mp q; exact ha⟩ W (A0.set W))
theorem gbastore (B : Fix p Z s m meth c bytes maxL own nm ret) (X : St p l e R s m args below meth c h0 ws T h cells slots) {a : Addr} {vs vs' : List Value} {j : Int32} {x : Int32} {i n : Nat} (A : VA Z h a .byte vs) (hn : vs.length = n) (hj : 0 ≤ j.toInt ∧ j.toInt < n) (hi : j.toNatClampNeg = i) (hvs : vs.set i (.int x.toInt8.toInt32) = vs') (ha : a ∈ ws ∨ h0.size ≤ a) (hd : decode bytes pc = .ok (.bastore, 1)) (hp : pc' = pc + 1) (g : ∀ T' h', St p l e R s m args below meth c h0 ws T' h' cells slots → Wr h h' a i (.int x.toInt8.toInt32) → VA Z h' a .byte vs' → Go p e below s K N h0 ws Q T' (mkF m pc' Ls st)) : Go p e below s K N h0 ws Q T (mkF m pc Ls (.int x :: .int j :: .ref a :: st)) := by
  subst hp; subst hi; subst hvs; subst hn; obtain ⟨L, X, eT, KK, FF⟩ := X; have A0 := A; obtain ⟨cl, A, r, n⟩ := A
  obtain ⟨T', h', X', e', W, k⟩ := stB X B.1 B.2.1 eT A (by rw [r]; exact inb (by simpa using hj)) (g := mkF m pc Ls (.int x :: .int j :: .ref a :: st)) rfl rfl (hb B.2.2.1 hd)
  exact Go.to k (g T' h' ⟨_, X', e', KK.wr W ha, fun y hy => (List.mem_append.mp hy).elim (FF y) fun q => by cases List.mem_singleton.mp q; exact ha⟩ W (A0.set W))
theorem gzastore (B : Fix p Z s m meth c bytes maxL own nm ret) (X : St p l e R s m args below meth c h0 ws T h cells slots) {a : Addr} {vs vs' : List Value} {j : Int32} {x : Int32} {i n : Nat} (A : VA Z h a .boolean vs) (hn : vs.length = n) (hj : 0 ≤ j.toInt ∧ j.toInt < n) (hi : j.toNatClampNeg = i) (hvs : vs.set i (.int (x &&& 1)) = vs') (ha : a ∈ ws ∨ h0.size ≤ a) (hd : decode bytes pc = .ok (.bastore, 1)) (hp : pc' = pc + 1) (g : ∀ T' h', St p l e R s m args below meth c h0 ws T' h' cells slots → Wr h h' a i (.int (x &&& 1)) → VA Z h' a .boolean vs' → Go p e below s K N h0 ws Q T' (mkF m pc' Ls st)) : Go p e below s K N h0 ws Q T (mkF m pc Ls (.int x :: .int j :: .ref a :: st)) := by
  subst hp; subst hi; subst hvs; subst hn; obtain ⟨L, X, eT, KK, FF⟩ := X; have A0 := A; obtain ⟨cl, A, r, n⟩ := A
  obtain ⟨T', h', X', e', W, k⟩ := stZ X B.1 B.2.1 eT A (by rw [r]; exact inb (by simpa using hj)) (g := mkF m pc Ls (.int x :: .int j :: .ref a :: st)) rfl rfl (hb B.2.2.1 hd)
  exact Go.to k (g T' h' ⟨_, X', e', KK.wr W ha, fun y hy => (List.mem_append.mp hy).elim (FF y) fun q => by cases List.mem_singleton.mp q; exact ha⟩ W (A0.set W))
theorem gnewarray (B : Fix p Z s m meth c bytes maxL own nm ret) (X : St p l e R s m args below meth c h0 ws T h cells slots) {aty : ArrayType} {n : Int32} {cap : Nat} {vs : List Value} {ty : FieldType} (hty : newarray.typeOf aty = ty) (hvs : List.replicate n.toNatClampNeg (defaultValue ty) = vs) (w : (Cond.arrayClass ty).before a0 Z = true) (hn : 0 ≤ n.toInt) (hcap : n.toInt ≤ cap) (hb8 : cap * 8 ≤ 536870912) (hc : cells + 1 ≤ R.cells) (hl : slots + cap ≤ R.slots) (hd : decode bytes pc = .ok (.newarray aty, 2)) (hp : pc' = pc + 2) (g : ∀ T' h' a, St p l e R s m args below meth c h0 ws T' h' (cells + 1) (slots + cap) → a = h.size → Ext h h' → h0.size ≤ a → VA Z h' a ty vs → Go p e below s K N h0 ws Q T' (mkF m pc' Ls (.ref a :: st))) : Go p e below s K N h0 ws Q T (mkF m pc Ls (.int n :: st)) := by
  subst hp; subst hty; subst hvs; obtain ⟨L, X, eT, KK, FF⟩ := X
  have hn' : ¬ n < 0 := by rw [Int32.lt_iff_toInt_lt, show (0 : Int32).toInt = 0 from rfl]; omega
  obtain ⟨T', h', cA, X', e', E, A, k⟩ := newP X B.1 B.2.1 w eT (g := mkF m pc Ls (.int n :: st)) rfl (hb B.2.2.1 hd) rfl hn' (cap := cap) (by simp only [Int32.toNatClampNeg]; omega) hb8 hc hl
  exact Go.to k (g T' h' _ ⟨_, X', e', KK.ext E, FF⟩ rfl E KK.1 (VA.new A hn'))
theorem gget (B : Fix p Z s m meth c bytes maxL own nm ret) (X : St p l e R s m args below meth c h0 ws T h cells slots) {a : Addr} {i : Nat} {C n d : String} {v : Value} (w : (Cond.fieldLink own i C n d).before a0 Z = true) (F : Fld Z h a C n d v) (hd : decode bytes pc = .ok (.getfield i, 3)) (hp : pc' = pc + 3) (g : ∀ T', St p l e R s m args below meth c h0 ws T' h cells slots → Go p e below s K N h0 ws Q T' (mkF m pc' Ls (v :: st))) : Go p e below s K N h0 ws Q T (mkF m pc Ls (.ref a :: st)) := by
  subst hp; obtain ⟨L, X, eT, r⟩ := X
  obtain ⟨T', X', e', k⟩ := getF X B.1 B.2.1 B.2.2.2.2.1 (host := "") (Or.inl w) Via.refl eT F (g := mkF m pc Ls (.ref a :: st)) rfl rfl (hb B.2.2.1 hd)
  exact Go.to k (g T' ⟨L, X', e', r⟩)
theorem gput (B : Fix p Z s m meth c bytes maxL own nm ret) (X : St p l e R s m args below meth c h0 ws T h cells slots) {a : Addr} {i kk : Nat} {C O n d : String} {ty : FieldType} {v old : Value} (w : (Cond.fieldLink own i O n d).before a0 Z = true) (F : Fld Z h a O n d old) (E : Exa Z h a C) (L : (Cond.lays C O n d).before a0 Z = true ∨ ((Cond.laysFinal C O n d).before a0 Z = true ∧ own = O ∧ nm = "<init>")) (wi : (Cond.instantiable C kk).before a0 Z = true) (hty : parseFieldDescriptor d = some ty) (hn : narrow ty v = v) (hf : fits ty v = true) (ha : a ∈ ws ∨ h0.size ≤ a) (hd : decode bytes pc = .ok (.putfield i, 3)) (hp : pc' = pc + 3) (g : ∀ T' h', St p l e R s m args below meth c h0 ws T' h' cells slots → Wr h h' a (Jvm.RoadKit.slotOf Z O n d) v → Go p e below s K N h0 ws Q T' (mkF m pc' Ls st)) : Go p e below s K N h0 ws Q T (mkF m pc Ls (v :: .ref a :: st)) := by
  subst hp; obtain ⟨L0, X, eT, KK, FF⟩ := X
  obtain ⟨T', h', X', e', W, k⟩ := putF X B.1 B.2.1 B.2.2.2.2.1 (host := "") (Or.inl w) Via.refl eT F E (L.imp id fun q => ⟨q.1, q.2.1, B.2.2.2.2.2.1.trans q.2.2⟩) wi hty hn hf (g := mkF m pc Ls (v :: .ref a :: st)) rfl rfl (hb B.2.2.1 hd)
  exact Go.to k (g T' h' ⟨_, X', e', KK.wr W ha, fun y hy => (List.mem_append.mp hy).elim (FF y) fun q => by cases List.mem_singleton.mp q; exact ha⟩ W)
theorem gnew (B : Fix p Z s m meth c bytes maxL own nm ret) (X : St p l e R s m args below meth c h0 ws T h cells slots) {i n : Nat} {C : String} (w : (Cond.classLink own i C).before a0 Z = true) (wi : (Cond.instantiable C n).before a0 Z = true) (wz : (Cond.initialized C).before a0 Z = true) (hc : cells + 1 ≤ R.cells) (hl : slots + n ≤ R.slots) (hd : decode bytes pc = .ok (.new i, 3)) (hp : pc' = pc + 3) (g : ∀ T' h' a, St p l e R s m args below meth c h0 ws T' h' (cells + 1) (slots + n) → a = h.size → Ext h h' → h0.size ≤ a → Exa Z h' a C → (∀ {O nm d : String} {ty : FieldType}, Laid Z a0 C O nm d → parseFieldDescriptor d = some ty → Fld Z h' a O nm d (defaultValue ty)) → Go p e below s K N h0 ws Q T' (mkF m pc' Ls (.ref a :: st))) : Go p e below s K N h0 ws Q T (mkF m pc Ls st) := by
  subst hp; obtain ⟨L0, X, eT, KK, FF⟩ := X
  obtain ⟨T', h', X', e', E, A, D, -, k⟩ := newO X B.1 B.2.1 B.2.2.2.2.1 w wi wz eT (g := mkF m pc Ls st) rfl (hb B.2.2.1 hd) hc hl
  exact Go.to k (g T' h' _ ⟨_, X', e', KK.ext E, FF⟩ rfl E KK.1 A D)
theorem ginitO (B : Fix p Z s m meth c bytes maxL own nm ret) (X : St p l e R s m args below meth c h0 ws T h cells slots) {a : Addr} {i W : Nat} (w1 : (Cond.methodLink own i Lib.objectInit).before a0 Z = true) (w2 : (Cond.instanceMethod Lib.objectInit).before a0 Z = true) (w3 : (Cond.code Lib.objectInit ⟨#[0xb1]⟩ 1 none).before a0 Z = true) (hsz : Ls.size = maxL) (hf : 1 ≤ R.frames) (hW : (st.map fun v => v.category).sum ≤ W) (hl : W + 12 ≤ R.locals) (hd : decode bytes pc = .ok (.invokespecial i, 3)) (hp : pc' = pc + 3) (g : ∀ T', St p l e R s m args below meth c h0 ws T' h cells slots → Go p e below s K N h0 ws Q T' (mkF m pc' Ls st)) : Go p e below s K N h0 ws Q T (mkF m pc Ls (.ref a :: st)) := by
  subst hp; obtain ⟨L0, X, eT, r⟩ := X
  obtain ⟨T', X', e', k⟩ := initO X B.1 B.2.1 B.2.2.2.2.1 w1 w2 w3 eT (g := mkF m pc Ls (.ref a :: st)) rfl (hsz.trans B.2.2.2.1.symm) rfl (hb B.2.2.1 hd) hf (W := W) (by show 2 * 0 + _ ≤ _; rw [Nat.mul_zero, Nat.zero_add]; exact hW) hl
  exact Go.to k (g T' ⟨L0, X', e', r⟩)
theorem gcallS (B : Fix p Z s m meth c bytes maxL own nm ret) (X : St p l e R s m args below meth c h0 ws T h cells slots) {y : MethodName} {bytes' : ByteArray} {maxL' : Nat} {ret' : Option FieldType} {rm : Room} {ws' : List Addr} {Q' : Option Value → Heap → Prop} {stk argsL : List Value} {i W : Nat} {ps : List FieldType} {rr : Option FieldType}  (w1 : (Cond.methodLink own i y).before a0 Z = true) (w2 : (Cond.static y).before a0 Z = true) (w3 : (Cond.initialized y.cls).before a0 Z = true) (w4 : (Cond.code y bytes' maxL' ret').before a0 Z = true) (hy : y.cls ≠ "java/lang/invoke/MethodHandle" ∧ y.cls ≠ "java/lang/invoke/VarHandle") (M : Meth l Z y bytes' maxL' ret' rm argsL.toArray h ws' Q') (hpd : parseMethodDescriptor y.desc = some ⟨ps, rr⟩) (hlen : argsL.length = ps.length) (hstk : stk = argsL.reverse ++ st) (hsz : Ls.size = maxL) (hW : (st.map fun v => v.category).sum ≤ W) (hfr : rm.frames + 1 ≤ R.frames) (hlo : W + (maxL' + 11) + rm.locals ≤ R.locals) (hcs : cells + rm.cells ≤ R.cells) (hss : slots + rm.slots ≤ R.slots) (hws : ∀ x ∈ ws', x ∈ ws ∨ h0.size ≤ x) (hd : decode bytes pc = .ok (.invokestatic i, 3)) (hp : pc' = pc + 3)
    (g : ∀ T' h' v, St p l e R s m args below meth c h0 ws T' h' (cells + rm.cells) (slots + rm.slots) → Keep h h' ws' → Q' v h' → Go p e below s K N h0 ws Q T' (mkF m pc' Ls (v.toList ++ st))) : Go p e below s K N h0 ws Q T (mkF m pc Ls stk) := by
  subst hp; subst hstk; obtain ⟨L0, X, eT, KK, FF⟩ := X
  obtain ⟨v2, _, ⟨T2, L2, c2, n2⟩, -, X2, ⟨Lc2, hq, l2, y2, z2⟩, k2⟩ := Jvm.LawKit.callS X B.1 (y := y) B.2.2.2.2.1 (mvT B.2.1 w1) (mvT B.2.1 w2) (mvT B.2.1 w3) (mvT B.2.1 w4) hy (backOf (W := W) (Q := fun v h' L => Q' v h' ∧ Keep h h' ws' ∧ FrW h ws' L) (M []) B.2.1 w4 w3 hfr hlo) (g := mkF m pc Ls (argsL.reverse ++ st)) rfl (hsz.trans B.2.2.2.1.symm) (argsL := argsL) (rest := st) (lenOf hpd hlen) rfl (by show 2 * 0 + _ ≤ _; rw [Nat.mul_zero, Nat.zero_add]; exact hW) (hb B.2.2.1 hd) (fun _ _ => ⟨rfl, eT, hcs, hss⟩)
  dsimp only [Pt.U, Pt.locs, Pt.cells, Pt.slots] at X2 l2 y2 z2 k2 hq
  subst l2 y2 z2
  refine Go.to k2 (g T2 T2.heap v2 ⟨_, X2, rfl, KK.trans hq.2.1 hws, fun y hy => (List.mem_append.mp hy).elim (FF y) fun q => ?_⟩ hq.2.1 hq.1)
  exact (hq.2.2 y q).elim (fun z => hws _ z) fun z => Or.inr (Nat.le_trans KK.1 z)
theorem gcallI (B : Fix p Z s m meth c bytes maxL own nm ret) (X : St p l e R s m args below meth c h0 ws T h cells slots) {y : MethodName} {bytes' : ByteArray} {maxL' : Nat} {ret' : Option FieldType} {rm : Room} {ws' : List Addr} {Q' : Option Value → Heap → Prop} {stk argsL : List Value} {i W : Nat} {ps : List FieldType} {rr : Option FieldType} {a : Addr} (hni : y.name = "<init>") (hret : ret' = none) (w1 : (Cond.methodLink own i y).before a0 Z = true) (w2 : (Cond.instanceMethod y).before a0 Z = true) (w3 : (Cond.initialized y.cls).before a0 Z = true) (w4 : (Cond.code y bytes' maxL' ret').before a0 Z = true) (hy : y.cls ≠ "java/lang/invoke/MethodHandle" ∧ y.cls ≠ "java/lang/invoke/VarHandle") (M : Meth l Z y bytes' maxL' ret' rm (.ref a :: argsL).toArray h ws' Q') (hpd : parseMethodDescriptor y.desc = some ⟨ps, rr⟩) (hlen : argsL.length = ps.length) (hstk : stk = argsL.reverse ++ .ref a :: st) (hsz : Ls.size = maxL) (hW : (st.map fun v => v.category).sum ≤ W) (hfr : rm.frames + 1 ≤ R.frames) (hlo : W + (maxL' + 11) + rm.locals ≤ R.locals) (hcs : cells + rm.cells ≤ R.cells) (hss : slots + rm.slots ≤ R.slots) (hws : ∀ x ∈ ws', x ∈ ws ∨ h0.size ≤ x) (hd : decode bytes pc = .ok (.invokespecial i, 3)) (hp : pc' = pc + 3)
    (g : ∀ T' h' v, St p l e R s m args below meth c h0 ws T' h' (cells + rm.cells) (slots + rm.slots) → Keep h h' ws' → Q' v h' → Go p e below s K N h0 ws Q T' (mkF m pc' Ls (v.toList ++ st))) : Go p e below s K N h0 ws Q T (mkF m pc Ls stk) := by
  subst hp; subst hstk; obtain ⟨L0, X, eT, KK, FF⟩ := X
  subst hret
  obtain ⟨v2, _, ⟨T2, L2, c2, n2⟩, -, X2, ⟨Lc2, hq, l2, y2, z2⟩, k2⟩ := X.specialBack B.1 (y := y) hni B.2.2.2.2.1 (mvT B.2.1 w1) (mvT B.2.1 w2) (mvT B.2.1 w4) hy (backOf (W := W) (Q := fun v h' L => Q' v h' ∧ Keep h h' ws' ∧ FrW h ws' L) (M []) B.2.1 w4 w3 hfr hlo) (g := mkF m pc Ls (argsL.reverse ++ .ref a :: st)) rfl (hsz.trans B.2.2.2.1.symm) (Steps.refl _) (a := a) (argsL := argsL) (rest := st) (lenOf hpd hlen) rfl (by show 2 * 0 + _ ≤ _; rw [Nat.mul_zero, Nat.zero_add]; exact hW) (hb B.2.2.1 hd) (fun _ _ => ⟨rfl, eT, hcs, hss⟩)
  dsimp only [Pt.U, Pt.locs, Pt.cells, Pt.slots] at X2 l2 y2 z2 k2 hq
  subst l2 y2 z2
  refine Go.to (fun t kt => k2.trans kt) (g T2 T2.heap v2 ⟨_, X2, rfl, KK.trans hq.2.1 hws, fun y hy => (List.mem_append.mp hy).elim (FF y) fun q => ?_⟩ hq.2.1 hq.1)
  exact (hq.2.2 y q).elim (fun z => hws _ z) fun z => Or.inr (Nat.le_trans KK.1 z)
theorem gcallV (B : Fix p Z s m meth c bytes maxL own nm ret) (X : St p l e R s m args below meth c h0 ws T h cells slots) {y : MethodName} {bytes' : ByteArray} {maxL' : Nat} {ret' : Option FieldType} {rm : Room} {ws' : List Addr} {Q' : Option Value → Heap → Prop} {stk argsL : List Value} {i W : Nat} {ps : List FieldType} {rr : Option FieldType} {a : Addr} {z : MethodName} {C : String} (E : Exa Z h a C) (w1 : (Cond.methodLink own i y).before a0 Z = true) (w2 : (Cond.declares y).before a0 Z = true) (w5 : (Cond.selects C y z).before a0 Z = true) (w6 : (Cond.instanceMethod z).before a0 Z = true) (w3 : (Cond.initialized z.cls).before a0 Z = true) (w4 : (Cond.code z bytes' maxL' ret').before a0 Z = true) (hyz : y = z) (hy : y.cls ≠ "java/lang/invoke/MethodHandle" ∧ y.cls ≠ "java/lang/invoke/VarHandle") (M : Meth l Z z bytes' maxL' ret' rm (.ref a :: argsL).toArray h ws' Q') (hpd : parseMethodDescriptor y.desc = some ⟨ps, rr⟩) (hlen : argsL.length = ps.length) (hstk : stk = argsL.reverse ++ .ref a :: st) (hsz : Ls.size = maxL) (hW : (st.map fun v => v.category).sum ≤ W) (hfr : rm.frames + 1 ≤ R.frames) (hlo : W + (maxL' + 11) + rm.locals ≤ R.locals) (hcs : cells + rm.cells ≤ R.cells) (hss : slots + rm.slots ≤ R.slots) (hws : ∀ x ∈ ws', x ∈ ws ∨ h0.size ≤ x) (hd : decode bytes pc = .ok (.invokevirtual i, 3)) (hp : pc' = pc + 3)
    (g : ∀ T' h' v, St p l e R s m args below meth c h0 ws T' h' (cells + rm.cells) (slots + rm.slots) → Keep h h' ws' → Q' v h' → Go p e below s K N h0 ws Q T' (mkF m pc' Ls (v.toList ++ st))) : Go p e below s K N h0 ws Q T (mkF m pc Ls stk) := by
  subst hp; subst hstk; obtain ⟨L0, X, eT, KK, FF⟩ := X
  subst hyz
  obtain ⟨cq, kq, qa, qb, qc⟩ := isOf B.2.1 eT E
  obtain ⟨v2, _, ⟨T2, L2, c2, n2⟩, -, X2, ⟨Lc2, hq, l2, y2, z2⟩, k2⟩ := X.virtualBack B.1 (y := y) (z := y) B.2.2.2.2.1 (mvT B.2.1 w1) (mvT B.2.1 w2) (notFace_of_selects (args := #[]) (mvT B.2.1 w5)) (mvT B.2.1 w5) (mvT B.2.1 w6) hy (backOf (W := W) (Q := fun v h' L => Q' v h' ∧ Keep h h' ws' ∧ FrW h ws' L) (M []) B.2.1 w4 w3 hfr hlo) qa qc (g := mkF m pc Ls (argsL.reverse ++ .ref a :: st)) rfl (hsz.trans B.2.2.2.1.symm) (Steps.refl _) (argsL := argsL) (rest := st) (lenOf hpd hlen) rfl (by show 2 * 0 + _ ≤ _; rw [Nat.mul_zero, Nat.zero_add]; exact hW) (hb B.2.2.1 hd) (fun _ _ => ⟨rfl, eT, hcs, hss⟩)
  dsimp only [Pt.U, Pt.locs, Pt.cells, Pt.slots] at X2 l2 y2 z2 k2 hq
  subst l2 y2 z2
  refine Go.to (fun t kt => k2.trans kt) (g T2 T2.heap v2 ⟨_, X2, rfl, KK.trans hq.2.1 hws, fun y hy => (List.mem_append.mp hy).elim (FF y) fun q => ?_⟩ hq.2.1 hq.1)
  exact (hq.2.2 y q).elim (fun z => hws _ z) fun z => Or.inr (Nat.le_trans KK.1 z)
theorem gcallP (B : Fix p Z s m meth c bytes maxL own nm ret) (X : St p l e R s m args below meth c h0 ws T h cells slots) {y : MethodName} {bytes' : ByteArray} {maxL' : Nat} {ret' : Option FieldType} {rm : Room} {ws' : List Addr} {Q' : Option Value → Heap → Prop} {stk argsL : List Value} {i W : Nat} {ps : List FieldType} {rr : Option FieldType} {a : Addr} {C : String} (E : Exa Z h a C) (w1 : (Cond.methodLink own i y).before a0 Z = true) (w2 : (Cond.instanceMethod y).before a0 Z = true) (w5 : (Cond.selects y.cls y y).before a0 Z = true) (w6 : (Cond.privateMethod y).before a0 Z = true) (w3 : (Cond.initialized y.cls).before a0 Z = true) (w4 : (Cond.code y bytes' maxL' ret').before a0 Z = true) (hy : y.cls ≠ "java/lang/invoke/MethodHandle" ∧ y.cls ≠ "java/lang/invoke/VarHandle") (M : Meth l Z y bytes' maxL' ret' rm (.ref a :: argsL).toArray h ws' Q') (hpd : parseMethodDescriptor y.desc = some ⟨ps, rr⟩) (hlen : argsL.length = ps.length) (hstk : stk = argsL.reverse ++ .ref a :: st) (hsz : Ls.size = maxL) (hW : (st.map fun v => v.category).sum ≤ W) (hfr : rm.frames + 1 ≤ R.frames) (hlo : W + (maxL' + 11) + rm.locals ≤ R.locals) (hcs : cells + rm.cells ≤ R.cells) (hss : slots + rm.slots ≤ R.slots) (hws : ∀ x ∈ ws', x ∈ ws ∨ h0.size ≤ x) (hd : decode bytes pc = .ok (.invokevirtual i, 3)) (hp : pc' = pc + 3)
    (g : ∀ T' h' v, St p l e R s m args below meth c h0 ws T' h' (cells + rm.cells) (slots + rm.slots) → Keep h h' ws' → Q' v h' → Go p e below s K N h0 ws Q T' (mkF m pc' Ls (v.toList ++ st))) : Go p e below s K N h0 ws Q T (mkF m pc Ls stk) := by
  subst hp; subst hstk; obtain ⟨L0, X, eT, KK, FF⟩ := X
  obtain ⟨cq, q, q'⟩ := E.cell
  obtain ⟨v2, _, ⟨T2, L2, c2, n2⟩, -, X2, ⟨Lc2, hq, l2, y2, z2⟩, k2⟩ := X.privateBack B.1 (y := y) B.2.2.2.2.1 (mvT B.2.1 w1) (mvT B.2.1 w2) (mvT B.2.1 w5) (Cond.privateMethod_at (mvP B.2.1 w6 (args := #[]))) (mvT B.2.1 w4) hy (backOf (W := W) (Q := fun v h' L => Q' v h' ∧ Keep h h' ws' ∧ FrW h ws' L) (M []) B.2.1 w4 w3 hfr hlo) (g := mkF m pc Ls (argsL.reverse ++ .ref a :: st)) rfl (hsz.trans B.2.2.2.1.symm) (Steps.refl _) (a := a) (by rw [eT]; exact q) q' (argsL := argsL) (rest := st) (lenOf hpd hlen) rfl (by show 2 * 0 + _ ≤ _; rw [Nat.mul_zero, Nat.zero_add]; exact hW) (hb B.2.2.1 hd) (fun _ _ => ⟨rfl, eT, hcs, hss⟩)
  dsimp only [Pt.U, Pt.locs, Pt.cells, Pt.slots] at X2 l2 y2 z2 k2 hq
  subst l2 y2 z2
  refine Go.to (fun t kt => k2.trans kt) (g T2 T2.heap v2 ⟨_, X2, rfl, KK.trans hq.2.1 hws, fun y hy => (List.mem_append.mp hy).elim (FF y) fun q => ?_⟩ hq.2.1 hq.1)
  exact (hq.2.2 y q).elim (fun z => hws _ z) fun z => Or.inr (Nat.le_trans KK.1 z)
theorem pureG {rm : Room} {r : Value} {ws' : List Addr} (hc : rm.cells = 0) (hs : rm.slots = 0) (g : ∀ T', St p l e R s m args below meth c h0 ws T' h cells slots → Go p e below s K N h0 ws Q T' (mkF m pc' Ls (r :: st))) : ∀ T' h' v, St p l e R s m args below meth c h0 ws T' h' (cells + rm.cells) (slots + rm.slots) → Keep h h' ws' → (v = some r ∧ h' = h) → Go p e below s K N h0 ws Q T' (mkF m pc' Ls (v.toList ++ st)) := by
  rintro T' h' v X k ⟨rfl, rfl⟩
  rw [hc, hs] at X; exact g T' X
theorem pureV {rm : Room} {r : Value} {ws' : List Addr} (hc : rm.cells = 0) (hs : rm.slots = 0) (g : ∀ T', St p l e R s m args below meth c h0 ws T' h cells slots → Go p e below s K N h0 ws Q T' (mkF m pc' Ls st)) : ∀ T' h' v, St p l e R s m args below meth c h0 ws T' h' (cells + rm.cells) (slots + rm.slots) → Keep h h' ws' → (v = none ∧ h' = h) → Go p e below s K N h0 ws Q T' (mkF m pc' Ls (v.toList ++ st)) := by
  rintro T' h' v X k ⟨rfl, rfl⟩
  rw [hc, hs] at X; exact g T' X
theorem joinG {α : Type} (B : Fix p Z s m meth c bytes maxL own nm ret) (X : St p l e R s m args below meth c h0 ws T h cells slots) {F : α → JFrame} {r : α} {f : JFrame} (b : (∀ T', St p l e R s m args below meth c h0 ws T' h cells slots → Go p e below s K N h0 ws Q T' (F r)) → Go p e below s K N h0 ws Q T f) (k : ∀ T', St p l e R s m args below meth c h0 ws T' h cells slots → Go p e below s K N h0 ws Q T' (F r)) : Go p e below s K N h0 ws Q T f := b k
theorem nbb (x : Int32) : x.toInt8.toInt32.toInt8.toInt32 = x.toInt8.toInt32 := by simp
theorem nb (x : Int32) : nar .byte x.toInt8.toInt32 = x.toInt8.toInt32 := by simp [nar]
theorem retI (X : Stand p l e R s m args below meth c T locs cells slots) (hx : p.tables.exec = Jvm.exec) {z : Int32} {rest : List Value} (hret : meth.sig.returnType = some .int) (hd : decode c.code pc = .ok (.ireturn, 1)) {fs : List Frame}
    (hl : ∀ (f : JFrame) (acts : List Action), f.method = m → f.locked = none → f.entered = [] → (doReturn e (T.setTop f) acts (some (.int z))).1 = T.setFrames fs) : Steps p.tables e below (T.setTop (mkF m pc Ls (.int z :: rest))) (T.setFrames fs) := by
  have hm' : T.vm.method? m = some meth := X.method'
  have hn : narrow .int (.int z) = .int z := rfl
  show Steps p.tables e below (T.setTop { method := m, pc := pc, locals := Ls, stack := _ :: rest, locked := none }) _
  jvm_step X.here [X.here.top, hx, hd, hm', hret, hn]
  first | (intro acts; rw [hl _ acts rfl rfl rfl]) | rw [hl _ _ rfl rfl rfl]
  exact Steps.refl _
theorem gretI (B : Fix p Z s m meth c bytes maxL own nm (some .int)) (X : St p l e R s m args below meth c h0 ws T h cells slots) {z : Int32} (hd : decode bytes pc = .ok (.ireturn, 1)) (hk : cells ≤ K) (hn : slots ≤ N) (hQ : Q (some (.int z)) h) : Go p e below s K N h0 ws Q T (mkF m pc Ls (.int z :: st)) := by
  obtain ⟨L0, X, eT, KK, FF⟩ := X; have hlk := B.2.2.2.2.2.2.2; have hrt := B.2.2.2.2.2.2.1
  obtain ⟨fs, hr, hrun, hended, hW, hsame⟩ := X.leave (v := some (.int z)) (fun h => by rw [hrt] at h; cases h) hlk
  exact ⟨_, _, retI X B.1 hrt (hb B.2.2.1 hd) hr, hrun, hended, _, _, rfl, ⟨by show Q _ T.heap; rw [eT]; exact hQ, by show Keep h0 T.heap ws; rw [eT]; exact KK, FF⟩, ⟨_, rfl⟩, hW, hsame.mono hk hn⟩
theorem gretN {t : FieldType} (B : Fix p Z s m meth c bytes maxL own nm (some t)) (X : St p l e R s m args below meth c h0 ws T h cells slots) {z z' : Int32} (ht : t = .boolean ∨ t = .byte ∨ t = .char ∨ t = .short) (hz : nar t z = z') (hd : decode bytes pc = .ok (.ireturn, 1)) (hk : cells ≤ K) (hn : slots ≤ N) (hQ : Q (some (.int z')) h) : Go p e below s K N h0 ws Q T (mkF m pc Ls (.int z :: st)) := by
  subst hz; obtain ⟨L0, X, eT, KK, FF⟩ := X; have hlk := B.2.2.2.2.2.2.2; have hrt := B.2.2.2.2.2.2.1
  obtain ⟨fs, hr, hrun, hended, hW, hsame⟩ := X.leave (v := some (.int (nar t z))) (fun h => by rw [hrt] at h; cases h) hlk
  exact ⟨_, _, retN X B.1 hrt ht (hb B.2.2.1 hd) hr, hrun, hended, _, _, rfl, ⟨by show Q _ T.heap; rw [eT]; exact hQ, by show Keep h0 T.heap ws; rw [eT]; exact KK, FF⟩, ⟨_, rfl⟩, hW, hsame.mono hk hn⟩
theorem gretL (B : Fix p Z s m meth c bytes maxL own nm (some .long)) (X : St p l e R s m args below meth c h0 ws T h cells slots) {z : Int64} (hd : decode bytes pc = .ok (.lreturn, 1)) (hk : cells ≤ K) (hn : slots ≤ N) (hQ : Q (some (.long z)) h) : Go p e below s K N h0 ws Q T (mkF m pc Ls (.long z :: st)) := by
  obtain ⟨L0, X, eT, KK, FF⟩ := X; have hlk := B.2.2.2.2.2.2.2; have hrt := B.2.2.2.2.2.2.1
  obtain ⟨fs, hr, hrun, hended, hW, hsame⟩ := X.leave (v := some (.long z)) (fun h => by rw [hrt] at h; cases h) hlk
  exact ⟨_, _, retOut X B.1 hrt rfl (Or.inr (Or.inl ⟨rfl, rfl, _, rfl⟩)) (hb B.2.2.1 hd) hr, hrun, hended, _, _, rfl, ⟨by show Q _ T.heap; rw [eT]; exact hQ, by show Keep h0 T.heap ws; rw [eT]; exact KK, FF⟩, ⟨_, rfl⟩, hW, hsame.mono hk hn⟩
theorem gretA {t : FieldType} (B : Fix p Z s m meth c bytes maxL own nm (some t)) (X : St p l e R s m args below meth c h0 ws T h cells slots) {a : Addr} (ht : t.isReference = true) (hnn : narrow t (.ref a) = .ref a) (hd : decode bytes pc = .ok (.areturn, 1)) (hk : cells ≤ K) (hn : slots ≤ N) (hQ : Q (some (.ref a)) h) : Go p e below s K N h0 ws Q T (mkF m pc Ls (.ref a :: st)) := by
  obtain ⟨L0, X, eT, KK, FF⟩ := X; have hlk := B.2.2.2.2.2.2.2; have hrt := B.2.2.2.2.2.2.1
  obtain ⟨fs, hr, hrun, hended, hW, hsame⟩ := X.leave (v := some (.ref a)) (fun h => by rw [hrt] at h; cases h) hlk
  exact ⟨_, _, retOut X B.1 hrt hnn (Or.inr (Or.inr (Or.inr (Or.inr ⟨rfl, ht, rfl⟩)))) (hb B.2.2.1 hd) hr, hrun, hended, _, _, rfl, ⟨by show Q _ T.heap; rw [eT]; exact hQ, by show Keep h0 T.heap ws; rw [eT]; exact KK, FF⟩, ⟨_, rfl⟩, hW, hsame.mono hk hn⟩
theorem gretV (B : Fix p Z s m meth c bytes maxL own nm none) (X : St p l e R s m args below meth c h0 ws T h cells slots)  (hd : decode bytes pc = .ok (.return_, 1)) (hk : cells ≤ K) (hn : slots ≤ N) (hQ : Q (none) h) : Go p e below s K N h0 ws Q T (mkF m pc Ls []) := by
  obtain ⟨L0, X, eT, KK, FF⟩ := X; have hlk := B.2.2.2.2.2.2.2; have hrt := B.2.2.2.2.2.2.1
  obtain ⟨fs, hr, hrun, hended, hW, hsame⟩ := X.leave (v := none) (fun h => rfl) hlk
  exact ⟨_, _, X.returnOut B.1 hrt (hb B.2.2.1 hd) hr, hrun, hended, _, _, rfl, ⟨by show Q _ T.heap; rw [eT]; exact hQ, by show Keep h0 T.heap ws; rw [eT]; exact KK, FF⟩, ⟨_, rfl⟩, hW, hsame.mono hk hn⟩
end Go
end Jvm.OwnKit
namespace Jvm.Pilot.@@N@@
open Jvm Jvm.ClassFile Sem Op Lib Jvm.Free Jvm.Stand Jvm.LawKit Jvm.RoadKit Jvm.OwnKit Bundle Jvm.Pilot.@@N@@.Jvm.D
theorem d1_0 : decode method_3_code 0 = .ok (.iload_n 1, 1) := by decide +kernel
theorem d1_1 : decode method_3_code 1 = .ok (.iload_n 0, 1) := by decide +kernel
theorem d1_2 : decode method_3_code 2 = .ok (.if_icmp .gt 12, 3) := by decide +kernel
theorem d1_5 : decode method_3_code 5 = .ok (.iload_n 0, 1) := by decide +kernel
theorem d1_6 : decode method_3_code 6 = .ok (.iload_n 2, 1) := by decide +kernel
theorem d1_7 : decode method_3_code 7 = .ok (.if_icmp .ge 7, 3) := by decide +kernel
theorem d1_10 : decode method_3_code 10 = .ok (.iconst 1, 1) := by decide +kernel
theorem d1_11 : decode method_3_code 11 = .ok (.goto 4, 3) := by decide +kernel
theorem d1_14 : decode method_3_code 14 = .ok (.iconst 0, 1) := by decide +kernel
theorem d1_15 : decode method_3_code 15 = .ok (.ireturn, 1) := by decide +kernel
theorem pn1 : plainFor (⟨"com/example/paycadence/paycadence/format/PrintedNameMayEscapePinLaw", "inRange", "(III)Z"⟩ : MethodName) = true := plainFor_of_name (by first | (simp [plainName, overriddenIn]; done) | decide +kernel)
theorem ef1_III (m : MethodId) (x0 : Int32) (x1 : Int32) (x2 : Int32) : entryFrame m #[(.int x0), (.int x1), (.int x2)] 3 = mkF m 0 #[.val (.int x0), .val (.int x1), .val (.int x2)] [] := by first | (simp [entryFrame, mkF, argsToLocals, Value.category]; done) | rfl
def f1 (i : Int32) (fr : Int32) (to : Int32) : Int32 := if i < fr then (0 : Int32) else (if i < to then (1 : Int32) else ((0 : Int32)))
def rmr1 : Room := { frames := 0, cells := 0, slots := 0, locals := 0 }
set_option maxRecDepth 65536 in
set_option maxHeartbeats 4000000 in
theorem mt1 (l : Launch) (Z : State) (a0 : Array Value) (hw : ∀ d ∈ tables_1, d.before a0 Z = true) (i : Int32) (fr : Int32) (to : Int32)  (h0 : Heap) : Meth l Z (⟨"com/example/paycadence/paycadence/format/PrintedNameMayEscapePinLaw", "inRange", "(III)Z"⟩ : MethodName) method_3_code 3 (some .boolean) rmr1 #[(.int i), (.int fr), (.int to)] h0 [] (fun vr h' => vr = some (.int (f1 i fr to)) ∧ h' = h0) := by
  refine Meth.of pn1 ?_
  intro p e s m below meth c T B X
  refine Go.entry (ef1_III m i fr to) ?_
  refine giloadN B X d1_0 rfl (pc' := 1) rfl ?_
  refine giloadN B X d1_1 rfl (pc' := 2) rfl ?_
  by_cases c2_1 : i < fr
  · refine gicY B X (pc' := 14) d1_2 (tlt c2_1).2.2.1 (by decide) ?_
    refine giconst B X d1_14 (v := (0 : Int32)) rfl (pc' := 15) rfl ?_
    exact gretN B X (z' := (0 : Int32)) (by simp) (rfl) d1_15 (by decide) (by decide) (⟨by rw [f1, if_pos c2_1], rfl⟩)
  · refine gicN B X d1_2 (flt c2_1).2.2.1 (pc' := 5) rfl ?_
    refine giloadN B X d1_5 rfl (pc' := 6) rfl ?_
    refine giloadN B X d1_6 rfl (pc' := 7) rfl ?_
    by_cases c7_2 : i < to
    · refine gicN B X d1_7 (tlt c7_2).2.1 (pc' := 10) rfl ?_
      refine giconst B X d1_10 (v := (1 : Int32)) rfl (pc' := 11) rfl ?_
      refine ggoto B X (pc' := 15) d1_11 (by decide) ?_
      exact gretN B X (z' := (1 : Int32)) (by simp) (rfl) d1_15 (by decide) (by decide) (⟨by rw [f1, if_neg c2_1, if_pos c7_2], rfl⟩)
    · refine gicY B X (pc' := 14) d1_7 (flt c7_2).2.1 (by decide) ?_
      refine giconst B X d1_14 (v := (0 : Int32)) rfl (pc' := 15) rfl ?_
      exact gretN B X (z' := (0 : Int32)) (by simp) (rfl) d1_15 (by decide) (by decide) (⟨by rw [f1, if_neg c2_1, if_neg c7_2], rfl⟩)
theorem d2_0 : decode method_4_code 0 = .ok (.iload_n 0, 1) := by decide +kernel
theorem d2_1 : decode method_4_code 1 = .ok (.sipush 255, 3) := by decide +kernel
theorem d2_4 : decode method_4_code 4 = .ok (.iand, 1) := by decide +kernel
theorem d2_5 : decode method_4_code 5 = .ok (.istore_n 1, 1) := by decide +kernel
theorem d2_6 : decode method_4_code 6 = .ok (.iload_n 1, 1) := by decide +kernel
theorem d2_7 : decode method_4_code 7 = .ok (.bipush 32, 2) := by decide +kernel
theorem d2_9 : decode method_4_code 9 = .ok (.if_icmp .ge 5, 3) := by decide +kernel
theorem d2_12 : decode method_4_code 12 = .ok (.iconst 1, 1) := by decide +kernel
theorem d2_13 : decode method_4_code 13 = .ok (.ireturn, 1) := by decide +kernel
theorem d2_14 : decode method_4_code 14 = .ok (.iload_n 1, 1) := by decide +kernel
theorem d2_15 : decode method_4_code 15 = .ok (.bipush 127, 2) := by decide +kernel
theorem d2_17 : decode method_4_code 17 = .ok (.if_icmp .ne 5, 3) := by decide +kernel
theorem d2_20 : decode method_4_code 20 = .ok (.iconst 1, 1) := by decide +kernel
theorem d2_21 : decode method_4_code 21 = .ok (.ireturn, 1) := by decide +kernel
theorem d2_22 : decode method_4_code 22 = .ok (.iload_n 1, 1) := by decide +kernel
theorem d2_23 : decode method_4_code 23 = .ok (.sipush 194, 3) := by decide +kernel
theorem d2_26 : decode method_4_code 26 = .ok (.if_icmp .ne 5, 3) := by decide +kernel
theorem d2_29 : decode method_4_code 29 = .ok (.iconst 1, 1) := by decide +kernel
theorem d2_30 : decode method_4_code 30 = .ok (.ireturn, 1) := by decide +kernel
theorem d2_31 : decode method_4_code 31 = .ok (.iload_n 1, 1) := by decide +kernel
theorem d2_32 : decode method_4_code 32 = .ok (.sipush 226, 3) := by decide +kernel
theorem d2_35 : decode method_4_code 35 = .ok (.if_icmp .ne 7, 3) := by decide +kernel
theorem d2_38 : decode method_4_code 38 = .ok (.iconst 1, 1) := by decide +kernel
theorem d2_39 : decode method_4_code 39 = .ok (.goto 4, 3) := by decide +kernel
theorem d2_42 : decode method_4_code 42 = .ok (.iconst 0, 1) := by decide +kernel
theorem d2_43 : decode method_4_code 43 = .ok (.ireturn, 1) := by decide +kernel
theorem pn2 : plainFor (⟨"com/example/paycadence/paycadence/format/PrintedNameMayEscapePinLaw", "flagged", "(I)Z"⟩ : MethodName) = true := plainFor_of_name (by first | (simp [plainName, overriddenIn]; done) | decide +kernel)
theorem ef2_I (m : MethodId) (x0 : Int32) : entryFrame m #[(.int x0)] 2 = mkF m 0 #[.val (.int x0), .unset] [] := by first | (simp [entryFrame, mkF, argsToLocals, Value.category]; done) | rfl
def f2 (u : Int32) : Int32 := if (u &&& (255 : Int32)) < (32 : Int32) then (1 : Int32) else (if (u &&& (255 : Int32)) = (127 : Int32) then (1 : Int32) else (if (u &&& (255 : Int32)) = (194 : Int32) then (1 : Int32) else (if (u &&& (255 : Int32)) = (226 : Int32) then (1 : Int32) else ((0 : Int32)))))
def rmr2 : Room := { frames := 0, cells := 0, slots := 0, locals := 0 }
set_option maxRecDepth 65536 in
set_option maxHeartbeats 4000000 in
theorem mt2 (l : Launch) (Z : State) (a0 : Array Value) (hw : ∀ d ∈ tables_1, d.before a0 Z = true) (u : Int32)  (h0 : Heap) : Meth l Z (⟨"com/example/paycadence/paycadence/format/PrintedNameMayEscapePinLaw", "flagged", "(I)Z"⟩ : MethodName) method_4_code 2 (some .boolean) rmr2 #[(.int u)] h0 [] (fun vr h' => vr = some (.int (f2 u)) ∧ h' = h0) := by
  refine Meth.of pn2 ?_
  intro p e s m below meth c T B X
  refine Go.entry (ef2_I m u) ?_
  refine giloadN B X d2_0 rfl (pc' := 1) rfl ?_
  refine gsipush B X d2_1 (v := (255 : Int32)) rfl (pc' := 4) rfl ?_
  refine giand B X d2_4 rfl (pc' := 5) rfl ?_
  refine gistoreN B X d2_5 (Ls' := #[.val (.int u), .val (.int (u &&& (255 : Int32)))]) rfl (pc' := 6) rfl ?_
  refine giloadN B X d2_6 rfl (pc' := 7) rfl ?_
  refine gbipush B X d2_7 (v := (32 : Int32)) rfl (pc' := 9) rfl ?_
  by_cases c9_3 : (u &&& (255 : Int32)) < (32 : Int32)
  · refine gicN B X d2_9 (tlt c9_3).2.1 (pc' := 12) rfl ?_
    refine giconst B X d2_12 (v := (1 : Int32)) rfl (pc' := 13) rfl ?_
    exact gretN B X (z' := (1 : Int32)) (by simp) (rfl) d2_13 (by decide) (by decide) (⟨by rw [f2, if_pos c9_3], rfl⟩)
  · refine gicY B X (pc' := 14) d2_9 (flt c9_3).2.1 (by decide) ?_
    refine giloadN B X d2_14 rfl (pc' := 15) rfl ?_
    refine gbipush B X d2_15 (v := (127 : Int32)) rfl (pc' := 17) rfl ?_
    by_cases c17_4 : (u &&& (255 : Int32)) = (127 : Int32)
    · refine gicN B X d2_17 (teq c17_4).2 (pc' := 20) rfl ?_
      refine giconst B X d2_20 (v := (1 : Int32)) rfl (pc' := 21) rfl ?_
      exact gretN B X (z' := (1 : Int32)) (by simp) (rfl) d2_21 (by decide) (by decide) (⟨by rw [f2, if_neg c9_3, if_pos c17_4], rfl⟩)
    · refine gicY B X (pc' := 22) d2_17 (feq c17_4).2 (by decide) ?_
      refine giloadN B X d2_22 rfl (pc' := 23) rfl ?_
      refine gsipush B X d2_23 (v := (194 : Int32)) rfl (pc' := 26) rfl ?_
      by_cases c26_5 : (u &&& (255 : Int32)) = (194 : Int32)
      · refine gicN B X d2_26 (teq c26_5).2 (pc' := 29) rfl ?_
        refine giconst B X d2_29 (v := (1 : Int32)) rfl (pc' := 30) rfl ?_
        exact gretN B X (z' := (1 : Int32)) (by simp) (rfl) d2_30 (by decide) (by decide) (⟨by rw [f2, if_neg c9_3, if_neg c17_4, if_pos c26_5], rfl⟩)
      · refine gicY B X (pc' := 31) d2_26 (feq c26_5).2 (by decide) ?_
        refine giloadN B X d2_31 rfl (pc' := 32) rfl ?_
        refine gsipush B X d2_32 (v := (226 : Int32)) rfl (pc' := 35) rfl ?_
        by_cases c35_6 : (u &&& (255 : Int32)) = (226 : Int32)
        · refine gicN B X d2_35 (teq c35_6).2 (pc' := 38) rfl ?_
          refine giconst B X d2_38 (v := (1 : Int32)) rfl (pc' := 39) rfl ?_
          refine ggoto B X (pc' := 43) d2_39 (by decide) ?_
          exact gretN B X (z' := (1 : Int32)) (by simp) (rfl) d2_43 (by decide) (by decide) (⟨by rw [f2, if_neg c9_3, if_neg c17_4, if_neg c26_5, if_pos c35_6], rfl⟩)
        · refine gicY B X (pc' := 42) d2_35 (feq c35_6).2 (by decide) ?_
          refine giconst B X d2_42 (v := (0 : Int32)) rfl (pc' := 43) rfl ?_
          exact gretN B X (z' := (0 : Int32)) (by simp) (rfl) d2_43 (by decide) (by decide) (⟨by rw [f2, if_neg c9_3, if_neg c17_4, if_neg c26_5, if_neg c35_6], rfl⟩)
theorem d3_0 : decode prog_52_method_5_code 0 = .ok (.iconst 0, 1) := by decide +kernel
theorem d3_1 : decode prog_52_method_5_code 1 = .ok (.istore_n 3, 1) := by decide +kernel
theorem d3_2 : decode prog_52_method_5_code 2 = .ok (.iload_n 1, 1) := by decide +kernel
theorem d3_3 : decode prog_52_method_5_code 3 = .ok (.istore 4, 2) := by decide +kernel
theorem d3_5 : decode prog_52_method_5_code 5 = .ok (.iload 4, 2) := by decide +kernel
theorem d3_7 : decode prog_52_method_5_code 7 = .ok (.iload_n 2, 1) := by decide +kernel
theorem d3_8 : decode prog_52_method_5_code 8 = .ok (.if_icmp .ge 58, 3) := by decide +kernel
theorem d3_11 : decode prog_52_method_5_code 11 = .ok (.iload_n 3, 1) := by decide +kernel
theorem d3_12 : decode prog_52_method_5_code 12 = .ok (.ifCond .ne 54, 3) := by decide +kernel
theorem d3_15 : decode prog_52_method_5_code 15 = .ok (.aload_n 0, 1) := by decide +kernel
theorem d3_16 : decode prog_52_method_5_code 16 = .ok (.iload 4, 2) := by decide +kernel
theorem d3_18 : decode prog_52_method_5_code 18 = .ok (.baload, 1) := by decide +kernel
theorem d3_19 : decode prog_52_method_5_code 19 = .ok (.istore 5, 2) := by decide +kernel
theorem d3_21 : decode prog_52_method_5_code 21 = .ok (.iload 5, 2) := by decide +kernel
theorem d3_23 : decode prog_52_method_5_code 23 = .ok (.ifCond .lt 10, 3) := by decide +kernel
theorem d3_26 : decode prog_52_method_5_code 26 = .ok (.iload 5, 2) := by decide +kernel
theorem d3_28 : decode prog_52_method_5_code 28 = .ok (.bipush 32, 2) := by decide +kernel
theorem d3_30 : decode prog_52_method_5_code 30 = .ok (.if_icmp .lt 24, 3) := by decide +kernel
theorem d3_33 : decode prog_52_method_5_code 33 = .ok (.iload 5, 2) := by decide +kernel
theorem d3_35 : decode prog_52_method_5_code 35 = .ok (.bipush 127, 2) := by decide +kernel
theorem d3_37 : decode prog_52_method_5_code 37 = .ok (.if_icmp .eq 17, 3) := by decide +kernel
theorem d3_40 : decode prog_52_method_5_code 40 = .ok (.iload 5, 2) := by decide +kernel
theorem d3_42 : decode prog_52_method_5_code 42 = .ok (.bipush (-62), 2) := by decide +kernel
theorem d3_44 : decode prog_52_method_5_code 44 = .ok (.if_icmp .eq 10, 3) := by decide +kernel
theorem d3_47 : decode prog_52_method_5_code 47 = .ok (.iload 5, 2) := by decide +kernel
theorem d3_49 : decode prog_52_method_5_code 49 = .ok (.bipush (-30), 2) := by decide +kernel
theorem d3_51 : decode prog_52_method_5_code 51 = .ok (.if_icmp .ne 7, 3) := by decide +kernel
theorem d3_54 : decode prog_52_method_5_code 54 = .ok (.iconst 1, 1) := by decide +kernel
theorem d3_55 : decode prog_52_method_5_code 55 = .ok (.goto 4, 3) := by decide +kernel
theorem d3_58 : decode prog_52_method_5_code 58 = .ok (.iconst 0, 1) := by decide +kernel
theorem d3_59 : decode prog_52_method_5_code 59 = .ok (.istore_n 3, 1) := by decide +kernel
theorem d3_60 : decode prog_52_method_5_code 60 = .ok (.iinc 4 1, 3) := by decide +kernel
theorem d3_63 : decode prog_52_method_5_code 63 = .ok (.goto (-58), 3) := by decide +kernel
theorem d3_66 : decode prog_52_method_5_code 66 = .ok (.iload_n 3, 1) := by decide +kernel
theorem d3_67 : decode prog_52_method_5_code 67 = .ok (.ireturn, 1) := by decide +kernel
theorem pn3 : plainFor (⟨"com/example/paycadence/paycadence/format/PrintedName", "mayEscape", "([BII)Z"⟩ : MethodName) = true := plainFor_of_name (by first | (simp [plainName, overriddenIn]; done) | decide +kernel)
theorem ef3_RII (m : MethodId) (x0 : Addr) (x1 : Int32) (x2 : Int32) : entryFrame m #[(.ref x0), (.int x1), (.int x2)] 6 = mkF m 0 #[.val (.ref x0), .val (.int x1), .val (.int x2), .unset, .unset, .unset] [] := by first | (simp [entryFrame, mkF, argsToLocals, Value.category]; done) | rfl
def og (b : Int32) : Int32 := if b < (0 : Int32) then (if b = (127 : Int32) then (1 : Int32) else (if b = (-62 : Int32) then (1 : Int32) else (if b = (-30 : Int32) then (1 : Int32) else ((0 : Int32))))) else (if b < (32 : Int32) then (1 : Int32) else (if b = (127 : Int32) then (1 : Int32) else (if b = (-62 : Int32) then (1 : Int32) else (if b = (-30 : Int32) then (1 : Int32) else ((0 : Int32))))))
theorem own_g2 (b : Int32) : og b = 0 ∨ og b = 1 := by unfold og; (repeat' split) <;> simp
theorem own_g01 (b : Int32) : nar .boolean (og b) = og b := by rcases own_g2 b with h | h <;> rw [h] <;> rfl
def f3_0 (to : Int32) (x0 : Int32) (x1 : Int32) (x2 : Int32) (x3 : Int32) : Int32 := if (0 : Int32) < to then (if (1 : Int32) < to then (if (og x0) = (0 : Int32) then (if (2 : Int32) < to then (if (og x1) = (0 : Int32) then (if (3 : Int32) < to then (if (og x2) = (0 : Int32) then (og x3) else ((og x2))) else ((og x2))) else ((og x1))) else ((og x1))) else ((og x0))) else ((og x0))) else ((0 : Int32))
def rmr3 : Room := { frames := 0, cells := 0, slots := 0, locals := 0 }
set_option maxRecDepth 65536 in
set_option maxHeartbeats 4000000 in
theorem mt3_0 (l : Launch) (Z : State) (a0 : Array Value) (hw : ∀ d ∈ tables_1, d.before a0 Z = true) (a : Addr) (to : Int32) (x0 x1 x2 x3 : Int32) (h0 : Heap) (F : VA Z h0 a .byte [.int x0, .int x1, .int x2, .int x3]) (ht : ¬ (4 : Int32) < to) : Meth l Z (⟨"com/example/paycadence/paycadence/format/PrintedName", "mayEscape", "([BII)Z"⟩ : MethodName) prog_52_method_5_code 6 (some .boolean) rmr3 #[(.ref a), (.int (0 : Int32)), (.int to)] h0 [] (fun vr h' => vr = some (.int (f3_0 to x0 x1 x2 x3)) ∧ h' = h0) := by
  refine Meth.of pn3 ?_
  intro p e s m below meth c T B X
  refine Go.entry (ef3_RII m a (0 : Int32) to) ?_
  refine giconst B X d3_0 (v := (0 : Int32)) rfl (pc' := 1) rfl ?_
  refine gistoreN B X d3_1 (Ls' := #[.val (.ref a), .val (.int (0 : Int32)), .val (.int to), .val (.int (0 : Int32)), .unset, .unset]) rfl (pc' := 2) rfl ?_
  refine giloadN B X d3_2 rfl (pc' := 3) rfl ?_
  refine gistore B X d3_3 (Ls' := #[.val (.ref a), .val (.int (0 : Int32)), .val (.int to), .val (.int (0 : Int32)), .val (.int (0 : Int32)), .unset]) rfl (pc' := 5) rfl ?_
  refine giload B X d3_5 rfl (pc' := 7) rfl ?_
  refine giloadN B X d3_7 rfl (pc' := 8) rfl ?_
  by_cases c8_7 : (0 : Int32) < to
  · refine gicN B X d3_8 (tlt c8_7).2.1 (pc' := 11) rfl ?_
    refine giloadN B X d3_11 rfl (pc' := 12) rfl ?_
    have c12_8 : (0 : Int32) = (0 : Int32) := (by decide)
    refine gifN B X d3_12 ((if0 _ _).trans (teq c12_8).2) (pc' := 15) rfl ?_
    refine galoadN B X d3_15 rfl rfl (pc' := 16) rfl ?_
    refine giload B X d3_16 rfl (pc' := 18) rfl ?_
    refine gbaload B X (n := 4) F rfl (by decide) (v := (.int x0)) rfl d3_18 (pc' := 19) rfl ?_
    refine gistore B X d3_19 (Ls' := #[.val (.ref a), .val (.int (0 : Int32)), .val (.int to), .val (.int (0 : Int32)), .val (.int (0 : Int32)), .val (.int x0)]) rfl (pc' := 21) rfl ?_
    refine joinG B X (F := fun z => (mkF m 59 #[.val (.ref a), .val (.int (0 : Int32)), .val (.int to), .val (.int (0 : Int32)), .val (.int (0 : Int32)), .val (.int x0)] [(.int z)])) (r := (og x0)) (fun J => ?_) ?_
    · refine giload B X d3_21 rfl (pc' := 23) rfl ?_
      by_cases c23_9 : x0 < (0 : Int32)
      · refine gifY B X (pc' := 33) d3_23 ((if0 _ _).trans (tlt c23_9).1) (by decide) ?_
        refine giload B X d3_33 rfl (pc' := 35) rfl ?_
        refine gbipush B X d3_35 (v := (127 : Int32)) rfl (pc' := 37) rfl ?_
        by_cases c37_10 : x0 = (127 : Int32)
        · refine gicY B X (pc' := 54) d3_37 (teq c37_10).1 (by decide) ?_
          refine giconst B X d3_54 (v := (1 : Int32)) rfl (pc' := 55) rfl ?_
          refine ggoto B X (pc' := 59) d3_55 (by decide) ?_
          have e_J : (og x0) = (1 : Int32) := by rw [og, if_pos c23_9, if_pos c37_10]
          rw [e_J] at J
          exact J _ X
        · refine gicN B X d3_37 (feq c37_10).1 (pc' := 40) rfl ?_
          refine giload B X d3_40 rfl (pc' := 42) rfl ?_
          refine gbipush B X d3_42 (v := (-62 : Int32)) rfl (pc' := 44) rfl ?_
          by_cases c44_11 : x0 = (-62 : Int32)
          · refine gicY B X (pc' := 54) d3_44 (teq c44_11).1 (by decide) ?_
            refine giconst B X d3_54 (v := (1 : Int32)) rfl (pc' := 55) rfl ?_
            refine ggoto B X (pc' := 59) d3_55 (by decide) ?_
            have e_J : (og x0) = (1 : Int32) := by rw [og, if_pos c23_9, if_neg c37_10, if_pos c44_11]
            rw [e_J] at J
            exact J _ X
          · refine gicN B X d3_44 (feq c44_11).1 (pc' := 47) rfl ?_
            refine giload B X d3_47 rfl (pc' := 49) rfl ?_
            refine gbipush B X d3_49 (v := (-30 : Int32)) rfl (pc' := 51) rfl ?_
            by_cases c51_12 : x0 = (-30 : Int32)
            · refine gicN B X d3_51 (teq c51_12).2 (pc' := 54) rfl ?_
              refine giconst B X d3_54 (v := (1 : Int32)) rfl (pc' := 55) rfl ?_
              refine ggoto B X (pc' := 59) d3_55 (by decide) ?_
              have e_J : (og x0) = (1 : Int32) := by rw [og, if_pos c23_9, if_neg c37_10, if_neg c44_11, if_pos c51_12]
              rw [e_J] at J
              exact J _ X
            · refine gicY B X (pc' := 58) d3_51 (feq c51_12).2 (by decide) ?_
              refine giconst B X d3_58 (v := (0 : Int32)) rfl (pc' := 59) rfl ?_
              have e_J : (og x0) = (0 : Int32) := by rw [og, if_pos c23_9, if_neg c37_10, if_neg c44_11, if_neg c51_12]
              rw [e_J] at J
              exact J _ X
      · refine gifN B X d3_23 ((if0 _ _).trans (flt c23_9).1) (pc' := 26) rfl ?_
        refine giload B X d3_26 rfl (pc' := 28) rfl ?_
        refine gbipush B X d3_28 (v := (32 : Int32)) rfl (pc' := 30) rfl ?_
        by_cases c30_13 : x0 < (32 : Int32)
        · refine gicY B X (pc' := 54) d3_30 (tlt c30_13).1 (by decide) ?_
          refine giconst B X d3_54 (v := (1 : Int32)) rfl (pc' := 55) rfl ?_
          refine ggoto B X (pc' := 59) d3_55 (by decide) ?_
          have e_J : (og x0) = (1 : Int32) := by rw [og, if_neg c23_9, if_pos c30_13]
          rw [e_J] at J
          exact J _ X
        · refine gicN B X d3_30 (flt c30_13).1 (pc' := 33) rfl ?_
          refine giload B X d3_33 rfl (pc' := 35) rfl ?_
          refine gbipush B X d3_35 (v := (127 : Int32)) rfl (pc' := 37) rfl ?_
          by_cases c37_14 : x0 = (127 : Int32)
          · refine gicY B X (pc' := 54) d3_37 (teq c37_14).1 (by decide) ?_
            refine giconst B X d3_54 (v := (1 : Int32)) rfl (pc' := 55) rfl ?_
            refine ggoto B X (pc' := 59) d3_55 (by decide) ?_
            have e_J : (og x0) = (1 : Int32) := by rw [og, if_neg c23_9, if_neg c30_13, if_pos c37_14]
            rw [e_J] at J
            exact J _ X
          · refine gicN B X d3_37 (feq c37_14).1 (pc' := 40) rfl ?_
            refine giload B X d3_40 rfl (pc' := 42) rfl ?_
            refine gbipush B X d3_42 (v := (-62 : Int32)) rfl (pc' := 44) rfl ?_
            by_cases c44_15 : x0 = (-62 : Int32)
            · refine gicY B X (pc' := 54) d3_44 (teq c44_15).1 (by decide) ?_
              refine giconst B X d3_54 (v := (1 : Int32)) rfl (pc' := 55) rfl ?_
              refine ggoto B X (pc' := 59) d3_55 (by decide) ?_
              have e_J : (og x0) = (1 : Int32) := by rw [og, if_neg c23_9, if_neg c30_13, if_neg c37_14, if_pos c44_15]
              rw [e_J] at J
              exact J _ X
            · refine gicN B X d3_44 (feq c44_15).1 (pc' := 47) rfl ?_
              refine giload B X d3_47 rfl (pc' := 49) rfl ?_
              refine gbipush B X d3_49 (v := (-30 : Int32)) rfl (pc' := 51) rfl ?_
              by_cases c51_16 : x0 = (-30 : Int32)
              · refine gicN B X d3_51 (teq c51_16).2 (pc' := 54) rfl ?_
                refine giconst B X d3_54 (v := (1 : Int32)) rfl (pc' := 55) rfl ?_
                refine ggoto B X (pc' := 59) d3_55 (by decide) ?_
                have e_J : (og x0) = (1 : Int32) := by rw [og, if_neg c23_9, if_neg c30_13, if_neg c37_14, if_neg c44_15, if_pos c51_16]
                rw [e_J] at J
                exact J _ X
              · refine gicY B X (pc' := 58) d3_51 (feq c51_16).2 (by decide) ?_
                refine giconst B X d3_58 (v := (0 : Int32)) rfl (pc' := 59) rfl ?_
                have e_J : (og x0) = (0 : Int32) := by rw [og, if_neg c23_9, if_neg c30_13, if_neg c37_14, if_neg c44_15, if_neg c51_16]
                rw [e_J] at J
                exact J _ X
    intro T17 X18
    show Go p e below s _ _ _ _ _ T17 (mkF m 59 #[.val (.ref a), .val (.int (0 : Int32)), .val (.int to), .val (.int (0 : Int32)), .val (.int (0 : Int32)), .val (.int x0)] [(.int (og x0))])
    refine gistoreN B X18 d3_59 (Ls' := #[.val (.ref a), .val (.int (0 : Int32)), .val (.int to), .val (.int (og x0)), .val (.int (0 : Int32)), .val (.int x0)]) rfl (pc' := 60) rfl ?_
    refine giinc B X18 d3_60 rfl (v := (1 : Int32)) (by decide) (Ls' := #[.val (.ref a), .val (.int (0 : Int32)), .val (.int to), .val (.int (og x0)), .val (.int (1 : Int32)), .val (.int x0)]) rfl (pc' := 63) rfl ?_
    refine ggoto B X18 (pc' := 5) d3_63 (by decide) ?_
    refine giload B X18 d3_5 rfl (pc' := 7) rfl ?_
    refine giloadN B X18 d3_7 rfl (pc' := 8) rfl ?_
    by_cases c8_19 : (1 : Int32) < to
    · refine gicN B X18 d3_8 (tlt c8_19).2.1 (pc' := 11) rfl ?_
      refine giloadN B X18 d3_11 rfl (pc' := 12) rfl ?_
      by_cases c12_20 : (og x0) = (0 : Int32)
      · refine gifN B X18 d3_12 ((if0 _ _).trans (teq c12_20).2) (pc' := 15) rfl ?_
        refine galoadN B X18 d3_15 rfl rfl (pc' := 16) rfl ?_
        refine giload B X18 d3_16 rfl (pc' := 18) rfl ?_
        refine gbaload B X18 (n := 4) F rfl (by decide) (v := (.int x1)) rfl d3_18 (pc' := 19) rfl ?_
        refine gistore B X18 d3_19 (Ls' := #[.val (.ref a), .val (.int (0 : Int32)), .val (.int to), .val (.int (og x0)), .val (.int (1 : Int32)), .val (.int x1)]) rfl (pc' := 21) rfl ?_
        refine joinG B X18 (F := fun z => (mkF m 59 #[.val (.ref a), .val (.int (0 : Int32)), .val (.int to), .val (.int (og x0)), .val (.int (1 : Int32)), .val (.int x1)] [(.int z)])) (r := (og x1)) (fun J => ?_) ?_
        · refine giload B X18 d3_21 rfl (pc' := 23) rfl ?_
          by_cases c23_21 : x1 < (0 : Int32)
          · refine gifY B X18 (pc' := 33) d3_23 ((if0 _ _).trans (tlt c23_21).1) (by decide) ?_
            refine giload B X18 d3_33 rfl (pc' := 35) rfl ?_
            refine gbipush B X18 d3_35 (v := (127 : Int32)) rfl (pc' := 37) rfl ?_
            by_cases c37_22 : x1 = (127 : Int32)
            · refine gicY B X18 (pc' := 54) d3_37 (teq c37_22).1 (by decide) ?_
              refine giconst B X18 d3_54 (v := (1 : Int32)) rfl (pc' := 55) rfl ?_
              refine ggoto B X18 (pc' := 59) d3_55 (by decide) ?_
              have e_J : (og x1) = (1 : Int32) := by rw [og, if_pos c23_21, if_pos c37_22]
              rw [e_J] at J
              exact J _ X18
            · refine gicN B X18 d3_37 (feq c37_22).1 (pc' := 40) rfl ?_
              refine giload B X18 d3_40 rfl (pc' := 42) rfl ?_
              refine gbipush B X18 d3_42 (v := (-62 : Int32)) rfl (pc' := 44) rfl ?_
              by_cases c44_23 : x1 = (-62 : Int32)
              · refine gicY B X18 (pc' := 54) d3_44 (teq c44_23).1 (by decide) ?_
                refine giconst B X18 d3_54 (v := (1 : Int32)) rfl (pc' := 55) rfl ?_
                refine ggoto B X18 (pc' := 59) d3_55 (by decide) ?_
                have e_J : (og x1) = (1 : Int32) := by rw [og, if_pos c23_21, if_neg c37_22, if_pos c44_23]
                rw [e_J] at J
                exact J _ X18
              · refine gicN B X18 d3_44 (feq c44_23).1 (pc' := 47) rfl ?_
                refine giload B X18 d3_47 rfl (pc' := 49) rfl ?_
                refine gbipush B X18 d3_49 (v := (-30 : Int32)) rfl (pc' := 51) rfl ?_
                by_cases c51_24 : x1 = (-30 : Int32)
                · refine gicN B X18 d3_51 (teq c51_24).2 (pc' := 54) rfl ?_
                  refine giconst B X18 d3_54 (v := (1 : Int32)) rfl (pc' := 55) rfl ?_
                  refine ggoto B X18 (pc' := 59) d3_55 (by decide) ?_
                  have e_J : (og x1) = (1 : Int32) := by rw [og, if_pos c23_21, if_neg c37_22, if_neg c44_23, if_pos c51_24]
                  rw [e_J] at J
                  exact J _ X18
                · refine gicY B X18 (pc' := 58) d3_51 (feq c51_24).2 (by decide) ?_
                  refine giconst B X18 d3_58 (v := (0 : Int32)) rfl (pc' := 59) rfl ?_
                  have e_J : (og x1) = (0 : Int32) := by rw [og, if_pos c23_21, if_neg c37_22, if_neg c44_23, if_neg c51_24]
                  rw [e_J] at J
                  exact J _ X18
          · refine gifN B X18 d3_23 ((if0 _ _).trans (flt c23_21).1) (pc' := 26) rfl ?_
            refine giload B X18 d3_26 rfl (pc' := 28) rfl ?_
            refine gbipush B X18 d3_28 (v := (32 : Int32)) rfl (pc' := 30) rfl ?_
            by_cases c30_25 : x1 < (32 : Int32)
            · refine gicY B X18 (pc' := 54) d3_30 (tlt c30_25).1 (by decide) ?_
              refine giconst B X18 d3_54 (v := (1 : Int32)) rfl (pc' := 55) rfl ?_
              refine ggoto B X18 (pc' := 59) d3_55 (by decide) ?_
              have e_J : (og x1) = (1 : Int32) := by rw [og, if_neg c23_21, if_pos c30_25]
              rw [e_J] at J
              exact J _ X18
            · refine gicN B X18 d3_30 (flt c30_25).1 (pc' := 33) rfl ?_
              refine giload B X18 d3_33 rfl (pc' := 35) rfl ?_
              refine gbipush B X18 d3_35 (v := (127 : Int32)) rfl (pc' := 37) rfl ?_
              by_cases c37_26 : x1 = (127 : Int32)
              · refine gicY B X18 (pc' := 54) d3_37 (teq c37_26).1 (by decide) ?_
                refine giconst B X18 d3_54 (v := (1 : Int32)) rfl (pc' := 55) rfl ?_
                refine ggoto B X18 (pc' := 59) d3_55 (by decide) ?_
                have e_J : (og x1) = (1 : Int32) := by rw [og, if_neg c23_21, if_neg c30_25, if_pos c37_26]
                rw [e_J] at J
                exact J _ X18
              · refine gicN B X18 d3_37 (feq c37_26).1 (pc' := 40) rfl ?_
                refine giload B X18 d3_40 rfl (pc' := 42) rfl ?_
                refine gbipush B X18 d3_42 (v := (-62 : Int32)) rfl (pc' := 44) rfl ?_
                by_cases c44_27 : x1 = (-62 : Int32)
                · refine gicY B X18 (pc' := 54) d3_44 (teq c44_27).1 (by decide) ?_
                  refine giconst B X18 d3_54 (v := (1 : Int32)) rfl (pc' := 55) rfl ?_
                  refine ggoto B X18 (pc' := 59) d3_55 (by decide) ?_
                  have e_J : (og x1) = (1 : Int32) := by rw [og, if_neg c23_21, if_neg c30_25, if_neg c37_26, if_pos c44_27]
                  rw [e_J] at J
                  exact J _ X18
                · refine gicN B X18 d3_44 (feq c44_27).1 (pc' := 47) rfl ?_
                  refine giload B X18 d3_47 rfl (pc' := 49) rfl ?_
                  refine gbipush B X18 d3_49 (v := (-30 : Int32)) rfl (pc' := 51) rfl ?_
                  by_cases c51_28 : x1 = (-30 : Int32)
                  · refine gicN B X18 d3_51 (teq c51_28).2 (pc' := 54) rfl ?_
                    refine giconst B X18 d3_54 (v := (1 : Int32)) rfl (pc' := 55) rfl ?_
                    refine ggoto B X18 (pc' := 59) d3_55 (by decide) ?_
                    have e_J : (og x1) = (1 : Int32) := by rw [og, if_neg c23_21, if_neg c30_25, if_neg c37_26, if_neg c44_27, if_pos c51_28]
                    rw [e_J] at J
                    exact J _ X18
                  · refine gicY B X18 (pc' := 58) d3_51 (feq c51_28).2 (by decide) ?_
                    refine giconst B X18 d3_58 (v := (0 : Int32)) rfl (pc' := 59) rfl ?_
                    have e_J : (og x1) = (0 : Int32) := by rw [og, if_neg c23_21, if_neg c30_25, if_neg c37_26, if_neg c44_27, if_neg c51_28]
                    rw [e_J] at J
                    exact J _ X18
        intro T29 X30
        show Go p e below s _ _ _ _ _ T29 (mkF m 59 #[.val (.ref a), .val (.int (0 : Int32)), .val (.int to), .val (.int (og x0)), .val (.int (1 : Int32)), .val (.int x1)] [(.int (og x1))])
        refine gistoreN B X30 d3_59 (Ls' := #[.val (.ref a), .val (.int (0 : Int32)), .val (.int to), .val (.int (og x1)), .val (.int (1 : Int32)), .val (.int x1)]) rfl (pc' := 60) rfl ?_
        refine giinc B X30 d3_60 rfl (v := (2 : Int32)) (by decide) (Ls' := #[.val (.ref a), .val (.int (0 : Int32)), .val (.int to), .val (.int (og x1)), .val (.int (2 : Int32)), .val (.int x1)]) rfl (pc' := 63) rfl ?_
        refine ggoto B X30 (pc' := 5) d3_63 (by decide) ?_
        refine giload B X30 d3_5 rfl (pc' := 7) rfl ?_
        refine giloadN B X30 d3_7 rfl (pc' := 8) rfl ?_
        by_cases c8_31 : (2 : Int32) < to
        · refine gicN B X30 d3_8 (tlt c8_31).2.1 (pc' := 11) rfl ?_
          refine giloadN B X30 d3_11 rfl (pc' := 12) rfl ?_
          by_cases c12_32 : (og x1) = (0 : Int32)
          · refine gifN B X30 d3_12 ((if0 _ _).trans (teq c12_32).2) (pc' := 15) rfl ?_
            refine galoadN B X30 d3_15 rfl rfl (pc' := 16) rfl ?_
            refine giload B X30 d3_16 rfl (pc' := 18) rfl ?_
            refine gbaload B X30 (n := 4) F rfl (by decide) (v := (.int x2)) rfl d3_18 (pc' := 19) rfl ?_
            refine gistore B X30 d3_19 (Ls' := #[.val (.ref a), .val (.int (0 : Int32)), .val (.int to), .val (.int (og x1)), .val (.int (2 : Int32)), .val (.int x2)]) rfl (pc' := 21) rfl ?_
            refine joinG B X30 (F := fun z => (mkF m 59 #[.val (.ref a), .val (.int (0 : Int32)), .val (.int to), .val (.int (og x1)), .val (.int (2 : Int32)), .val (.int x2)] [(.int z)])) (r := (og x2)) (fun J => ?_) ?_
            · refine giload B X30 d3_21 rfl (pc' := 23) rfl ?_
              by_cases c23_33 : x2 < (0 : Int32)
              · refine gifY B X30 (pc' := 33) d3_23 ((if0 _ _).trans (tlt c23_33).1) (by decide) ?_
                refine giload B X30 d3_33 rfl (pc' := 35) rfl ?_
                refine gbipush B X30 d3_35 (v := (127 : Int32)) rfl (pc' := 37) rfl ?_
                by_cases c37_34 : x2 = (127 : Int32)
                · refine gicY B X30 (pc' := 54) d3_37 (teq c37_34).1 (by decide) ?_
                  refine giconst B X30 d3_54 (v := (1 : Int32)) rfl (pc' := 55) rfl ?_
                  refine ggoto B X30 (pc' := 59) d3_55 (by decide) ?_
                  have e_J : (og x2) = (1 : Int32) := by rw [og, if_pos c23_33, if_pos c37_34]
                  rw [e_J] at J
                  exact J _ X30
                · refine gicN B X30 d3_37 (feq c37_34).1 (pc' := 40) rfl ?_
                  refine giload B X30 d3_40 rfl (pc' := 42) rfl ?_
                  refine gbipush B X30 d3_42 (v := (-62 : Int32)) rfl (pc' := 44) rfl ?_
                  by_cases c44_35 : x2 = (-62 : Int32)
                  · refine gicY B X30 (pc' := 54) d3_44 (teq c44_35).1 (by decide) ?_
                    refine giconst B X30 d3_54 (v := (1 : Int32)) rfl (pc' := 55) rfl ?_
                    refine ggoto B X30 (pc' := 59) d3_55 (by decide) ?_
                    have e_J : (og x2) = (1 : Int32) := by rw [og, if_pos c23_33, if_neg c37_34, if_pos c44_35]
                    rw [e_J] at J
                    exact J _ X30
                  · refine gicN B X30 d3_44 (feq c44_35).1 (pc' := 47) rfl ?_
                    refine giload B X30 d3_47 rfl (pc' := 49) rfl ?_
                    refine gbipush B X30 d3_49 (v := (-30 : Int32)) rfl (pc' := 51) rfl ?_
                    by_cases c51_36 : x2 = (-30 : Int32)
                    · refine gicN B X30 d3_51 (teq c51_36).2 (pc' := 54) rfl ?_
                      refine giconst B X30 d3_54 (v := (1 : Int32)) rfl (pc' := 55) rfl ?_
                      refine ggoto B X30 (pc' := 59) d3_55 (by decide) ?_
                      have e_J : (og x2) = (1 : Int32) := by rw [og, if_pos c23_33, if_neg c37_34, if_neg c44_35, if_pos c51_36]
                      rw [e_J] at J
                      exact J _ X30
                    · refine gicY B X30 (pc' := 58) d3_51 (feq c51_36).2 (by decide) ?_
                      refine giconst B X30 d3_58 (v := (0 : Int32)) rfl (pc' := 59) rfl ?_
                      have e_J : (og x2) = (0 : Int32) := by rw [og, if_pos c23_33, if_neg c37_34, if_neg c44_35, if_neg c51_36]
                      rw [e_J] at J
                      exact J _ X30
              · refine gifN B X30 d3_23 ((if0 _ _).trans (flt c23_33).1) (pc' := 26) rfl ?_
                refine giload B X30 d3_26 rfl (pc' := 28) rfl ?_
                refine gbipush B X30 d3_28 (v := (32 : Int32)) rfl (pc' := 30) rfl ?_
                by_cases c30_37 : x2 < (32 : Int32)
                · refine gicY B X30 (pc' := 54) d3_30 (tlt c30_37).1 (by decide) ?_
                  refine giconst B X30 d3_54 (v := (1 : Int32)) rfl (pc' := 55) rfl ?_
                  refine ggoto B X30 (pc' := 59) d3_55 (by decide) ?_
                  have e_J : (og x2) = (1 : Int32) := by rw [og, if_neg c23_33, if_pos c30_37]
                  rw [e_J] at J
                  exact J _ X30
                · refine gicN B X30 d3_30 (flt c30_37).1 (pc' := 33) rfl ?_
                  refine giload B X30 d3_33 rfl (pc' := 35) rfl ?_
                  refine gbipush B X30 d3_35 (v := (127 : Int32)) rfl (pc' := 37) rfl ?_
                  by_cases c37_38 : x2 = (127 : Int32)
                  · refine gicY B X30 (pc' := 54) d3_37 (teq c37_38).1 (by decide) ?_
                    refine giconst B X30 d3_54 (v := (1 : Int32)) rfl (pc' := 55) rfl ?_
                    refine ggoto B X30 (pc' := 59) d3_55 (by decide) ?_
                    have e_J : (og x2) = (1 : Int32) := by rw [og, if_neg c23_33, if_neg c30_37, if_pos c37_38]
                    rw [e_J] at J
                    exact J _ X30
                  · refine gicN B X30 d3_37 (feq c37_38).1 (pc' := 40) rfl ?_
                    refine giload B X30 d3_40 rfl (pc' := 42) rfl ?_
                    refine gbipush B X30 d3_42 (v := (-62 : Int32)) rfl (pc' := 44) rfl ?_
                    by_cases c44_39 : x2 = (-62 : Int32)
                    · refine gicY B X30 (pc' := 54) d3_44 (teq c44_39).1 (by decide) ?_
                      refine giconst B X30 d3_54 (v := (1 : Int32)) rfl (pc' := 55) rfl ?_
                      refine ggoto B X30 (pc' := 59) d3_55 (by decide) ?_
                      have e_J : (og x2) = (1 : Int32) := by rw [og, if_neg c23_33, if_neg c30_37, if_neg c37_38, if_pos c44_39]
                      rw [e_J] at J
                      exact J _ X30
                    · refine gicN B X30 d3_44 (feq c44_39).1 (pc' := 47) rfl ?_
                      refine giload B X30 d3_47 rfl (pc' := 49) rfl ?_
                      refine gbipush B X30 d3_49 (v := (-30 : Int32)) rfl (pc' := 51) rfl ?_
                      by_cases c51_40 : x2 = (-30 : Int32)
                      · refine gicN B X30 d3_51 (teq c51_40).2 (pc' := 54) rfl ?_
                        refine giconst B X30 d3_54 (v := (1 : Int32)) rfl (pc' := 55) rfl ?_
                        refine ggoto B X30 (pc' := 59) d3_55 (by decide) ?_
                        have e_J : (og x2) = (1 : Int32) := by rw [og, if_neg c23_33, if_neg c30_37, if_neg c37_38, if_neg c44_39, if_pos c51_40]
                        rw [e_J] at J
                        exact J _ X30
                      · refine gicY B X30 (pc' := 58) d3_51 (feq c51_40).2 (by decide) ?_
                        refine giconst B X30 d3_58 (v := (0 : Int32)) rfl (pc' := 59) rfl ?_
                        have e_J : (og x2) = (0 : Int32) := by rw [og, if_neg c23_33, if_neg c30_37, if_neg c37_38, if_neg c44_39, if_neg c51_40]
                        rw [e_J] at J
                        exact J _ X30
            intro T41 X42
            show Go p e below s _ _ _ _ _ T41 (mkF m 59 #[.val (.ref a), .val (.int (0 : Int32)), .val (.int to), .val (.int (og x1)), .val (.int (2 : Int32)), .val (.int x2)] [(.int (og x2))])
            refine gistoreN B X42 d3_59 (Ls' := #[.val (.ref a), .val (.int (0 : Int32)), .val (.int to), .val (.int (og x2)), .val (.int (2 : Int32)), .val (.int x2)]) rfl (pc' := 60) rfl ?_
            refine giinc B X42 d3_60 rfl (v := (3 : Int32)) (by decide) (Ls' := #[.val (.ref a), .val (.int (0 : Int32)), .val (.int to), .val (.int (og x2)), .val (.int (3 : Int32)), .val (.int x2)]) rfl (pc' := 63) rfl ?_
            refine ggoto B X42 (pc' := 5) d3_63 (by decide) ?_
            refine giload B X42 d3_5 rfl (pc' := 7) rfl ?_
            refine giloadN B X42 d3_7 rfl (pc' := 8) rfl ?_
            by_cases c8_43 : (3 : Int32) < to
            · refine gicN B X42 d3_8 (tlt c8_43).2.1 (pc' := 11) rfl ?_
              refine giloadN B X42 d3_11 rfl (pc' := 12) rfl ?_
              by_cases c12_44 : (og x2) = (0 : Int32)
              · refine gifN B X42 d3_12 ((if0 _ _).trans (teq c12_44).2) (pc' := 15) rfl ?_
                refine galoadN B X42 d3_15 rfl rfl (pc' := 16) rfl ?_
                refine giload B X42 d3_16 rfl (pc' := 18) rfl ?_
                refine gbaload B X42 (n := 4) F rfl (by decide) (v := (.int x3)) rfl d3_18 (pc' := 19) rfl ?_
                refine gistore B X42 d3_19 (Ls' := #[.val (.ref a), .val (.int (0 : Int32)), .val (.int to), .val (.int (og x2)), .val (.int (3 : Int32)), .val (.int x3)]) rfl (pc' := 21) rfl ?_
                refine joinG B X42 (F := fun z => (mkF m 59 #[.val (.ref a), .val (.int (0 : Int32)), .val (.int to), .val (.int (og x2)), .val (.int (3 : Int32)), .val (.int x3)] [(.int z)])) (r := (og x3)) (fun J => ?_) ?_
                · refine giload B X42 d3_21 rfl (pc' := 23) rfl ?_
                  by_cases c23_45 : x3 < (0 : Int32)
                  · refine gifY B X42 (pc' := 33) d3_23 ((if0 _ _).trans (tlt c23_45).1) (by decide) ?_
                    refine giload B X42 d3_33 rfl (pc' := 35) rfl ?_
                    refine gbipush B X42 d3_35 (v := (127 : Int32)) rfl (pc' := 37) rfl ?_
                    by_cases c37_46 : x3 = (127 : Int32)
                    · refine gicY B X42 (pc' := 54) d3_37 (teq c37_46).1 (by decide) ?_
                      refine giconst B X42 d3_54 (v := (1 : Int32)) rfl (pc' := 55) rfl ?_
                      refine ggoto B X42 (pc' := 59) d3_55 (by decide) ?_
                      have e_J : (og x3) = (1 : Int32) := by rw [og, if_pos c23_45, if_pos c37_46]
                      rw [e_J] at J
                      exact J _ X42
                    · refine gicN B X42 d3_37 (feq c37_46).1 (pc' := 40) rfl ?_
                      refine giload B X42 d3_40 rfl (pc' := 42) rfl ?_
                      refine gbipush B X42 d3_42 (v := (-62 : Int32)) rfl (pc' := 44) rfl ?_
                      by_cases c44_47 : x3 = (-62 : Int32)
                      · refine gicY B X42 (pc' := 54) d3_44 (teq c44_47).1 (by decide) ?_
                        refine giconst B X42 d3_54 (v := (1 : Int32)) rfl (pc' := 55) rfl ?_
                        refine ggoto B X42 (pc' := 59) d3_55 (by decide) ?_
                        have e_J : (og x3) = (1 : Int32) := by rw [og, if_pos c23_45, if_neg c37_46, if_pos c44_47]
                        rw [e_J] at J
                        exact J _ X42
                      · refine gicN B X42 d3_44 (feq c44_47).1 (pc' := 47) rfl ?_
                        refine giload B X42 d3_47 rfl (pc' := 49) rfl ?_
                        refine gbipush B X42 d3_49 (v := (-30 : Int32)) rfl (pc' := 51) rfl ?_
                        by_cases c51_48 : x3 = (-30 : Int32)
                        · refine gicN B X42 d3_51 (teq c51_48).2 (pc' := 54) rfl ?_
                          refine giconst B X42 d3_54 (v := (1 : Int32)) rfl (pc' := 55) rfl ?_
                          refine ggoto B X42 (pc' := 59) d3_55 (by decide) ?_
                          have e_J : (og x3) = (1 : Int32) := by rw [og, if_pos c23_45, if_neg c37_46, if_neg c44_47, if_pos c51_48]
                          rw [e_J] at J
                          exact J _ X42
                        · refine gicY B X42 (pc' := 58) d3_51 (feq c51_48).2 (by decide) ?_
                          refine giconst B X42 d3_58 (v := (0 : Int32)) rfl (pc' := 59) rfl ?_
                          have e_J : (og x3) = (0 : Int32) := by rw [og, if_pos c23_45, if_neg c37_46, if_neg c44_47, if_neg c51_48]
                          rw [e_J] at J
                          exact J _ X42
                  · refine gifN B X42 d3_23 ((if0 _ _).trans (flt c23_45).1) (pc' := 26) rfl ?_
                    refine giload B X42 d3_26 rfl (pc' := 28) rfl ?_
                    refine gbipush B X42 d3_28 (v := (32 : Int32)) rfl (pc' := 30) rfl ?_
                    by_cases c30_49 : x3 < (32 : Int32)
                    · refine gicY B X42 (pc' := 54) d3_30 (tlt c30_49).1 (by decide) ?_
                      refine giconst B X42 d3_54 (v := (1 : Int32)) rfl (pc' := 55) rfl ?_
                      refine ggoto B X42 (pc' := 59) d3_55 (by decide) ?_
                      have e_J : (og x3) = (1 : Int32) := by rw [og, if_neg c23_45, if_pos c30_49]
                      rw [e_J] at J
                      exact J _ X42
                    · refine gicN B X42 d3_30 (flt c30_49).1 (pc' := 33) rfl ?_
                      refine giload B X42 d3_33 rfl (pc' := 35) rfl ?_
                      refine gbipush B X42 d3_35 (v := (127 : Int32)) rfl (pc' := 37) rfl ?_
                      by_cases c37_50 : x3 = (127 : Int32)
                      · refine gicY B X42 (pc' := 54) d3_37 (teq c37_50).1 (by decide) ?_
                        refine giconst B X42 d3_54 (v := (1 : Int32)) rfl (pc' := 55) rfl ?_
                        refine ggoto B X42 (pc' := 59) d3_55 (by decide) ?_
                        have e_J : (og x3) = (1 : Int32) := by rw [og, if_neg c23_45, if_neg c30_49, if_pos c37_50]
                        rw [e_J] at J
                        exact J _ X42
                      · refine gicN B X42 d3_37 (feq c37_50).1 (pc' := 40) rfl ?_
                        refine giload B X42 d3_40 rfl (pc' := 42) rfl ?_
                        refine gbipush B X42 d3_42 (v := (-62 : Int32)) rfl (pc' := 44) rfl ?_
                        by_cases c44_51 : x3 = (-62 : Int32)
                        · refine gicY B X42 (pc' := 54) d3_44 (teq c44_51).1 (by decide) ?_
                          refine giconst B X42 d3_54 (v := (1 : Int32)) rfl (pc' := 55) rfl ?_
                          refine ggoto B X42 (pc' := 59) d3_55 (by decide) ?_
                          have e_J : (og x3) = (1 : Int32) := by rw [og, if_neg c23_45, if_neg c30_49, if_neg c37_50, if_pos c44_51]
                          rw [e_J] at J
                          exact J _ X42
                        · refine gicN B X42 d3_44 (feq c44_51).1 (pc' := 47) rfl ?_
                          refine giload B X42 d3_47 rfl (pc' := 49) rfl ?_
                          refine gbipush B X42 d3_49 (v := (-30 : Int32)) rfl (pc' := 51) rfl ?_
                          by_cases c51_52 : x3 = (-30 : Int32)
                          · refine gicN B X42 d3_51 (teq c51_52).2 (pc' := 54) rfl ?_
                            refine giconst B X42 d3_54 (v := (1 : Int32)) rfl (pc' := 55) rfl ?_
                            refine ggoto B X42 (pc' := 59) d3_55 (by decide) ?_
                            have e_J : (og x3) = (1 : Int32) := by rw [og, if_neg c23_45, if_neg c30_49, if_neg c37_50, if_neg c44_51, if_pos c51_52]
                            rw [e_J] at J
                            exact J _ X42
                          · refine gicY B X42 (pc' := 58) d3_51 (feq c51_52).2 (by decide) ?_
                            refine giconst B X42 d3_58 (v := (0 : Int32)) rfl (pc' := 59) rfl ?_
                            have e_J : (og x3) = (0 : Int32) := by rw [og, if_neg c23_45, if_neg c30_49, if_neg c37_50, if_neg c44_51, if_neg c51_52]
                            rw [e_J] at J
                            exact J _ X42
                intro T53 X54
                show Go p e below s _ _ _ _ _ T53 (mkF m 59 #[.val (.ref a), .val (.int (0 : Int32)), .val (.int to), .val (.int (og x2)), .val (.int (3 : Int32)), .val (.int x3)] [(.int (og x3))])
                refine gistoreN B X54 d3_59 (Ls' := #[.val (.ref a), .val (.int (0 : Int32)), .val (.int to), .val (.int (og x3)), .val (.int (3 : Int32)), .val (.int x3)]) rfl (pc' := 60) rfl ?_
                refine giinc B X54 d3_60 rfl (v := (4 : Int32)) (by decide) (Ls' := #[.val (.ref a), .val (.int (0 : Int32)), .val (.int to), .val (.int (og x3)), .val (.int (4 : Int32)), .val (.int x3)]) rfl (pc' := 63) rfl ?_
                refine ggoto B X54 (pc' := 5) d3_63 (by decide) ?_
                refine giload B X54 d3_5 rfl (pc' := 7) rfl ?_
                refine giloadN B X54 d3_7 rfl (pc' := 8) rfl ?_
                have c8_55 : ¬ ((4 : Int32) < to) := ht
                refine gicY B X54 (pc' := 66) d3_8 (flt c8_55).2.1 (by decide) ?_
                refine giloadN B X54 d3_66 rfl (pc' := 67) rfl ?_
                exact gretN B X54 (z' := (og x3)) (by simp) (own_g01 _) d3_67 (by decide) (by decide) (⟨by rw [f3_0, if_pos c8_7, if_pos c8_19, if_pos c12_20, if_pos c8_31, if_pos c12_32, if_pos c8_43, if_pos c12_44], rfl⟩)
              · refine gifY B X42 (pc' := 66) d3_12 ((if0 _ _).trans (feq c12_44).2) (by decide) ?_
                refine giloadN B X42 d3_66 rfl (pc' := 67) rfl ?_
                exact gretN B X42 (z' := (og x2)) (by simp) (own_g01 _) d3_67 (by decide) (by decide) (⟨by rw [f3_0, if_pos c8_7, if_pos c8_19, if_pos c12_20, if_pos c8_31, if_pos c12_32, if_pos c8_43, if_neg c12_44], rfl⟩)
            · refine gicY B X42 (pc' := 66) d3_8 (flt c8_43).2.1 (by decide) ?_
              refine giloadN B X42 d3_66 rfl (pc' := 67) rfl ?_
              exact gretN B X42 (z' := (og x2)) (by simp) (own_g01 _) d3_67 (by decide) (by decide) (⟨by rw [f3_0, if_pos c8_7, if_pos c8_19, if_pos c12_20, if_pos c8_31, if_pos c12_32, if_neg c8_43], rfl⟩)
          · refine gifY B X30 (pc' := 66) d3_12 ((if0 _ _).trans (feq c12_32).2) (by decide) ?_
            refine giloadN B X30 d3_66 rfl (pc' := 67) rfl ?_
            exact gretN B X30 (z' := (og x1)) (by simp) (own_g01 _) d3_67 (by decide) (by decide) (⟨by rw [f3_0, if_pos c8_7, if_pos c8_19, if_pos c12_20, if_pos c8_31, if_neg c12_32], rfl⟩)
        · refine gicY B X30 (pc' := 66) d3_8 (flt c8_31).2.1 (by decide) ?_
          refine giloadN B X30 d3_66 rfl (pc' := 67) rfl ?_
          exact gretN B X30 (z' := (og x1)) (by simp) (own_g01 _) d3_67 (by decide) (by decide) (⟨by rw [f3_0, if_pos c8_7, if_pos c8_19, if_pos c12_20, if_neg c8_31], rfl⟩)
      · refine gifY B X18 (pc' := 66) d3_12 ((if0 _ _).trans (feq c12_20).2) (by decide) ?_
        refine giloadN B X18 d3_66 rfl (pc' := 67) rfl ?_
        exact gretN B X18 (z' := (og x0)) (by simp) (own_g01 _) d3_67 (by decide) (by decide) (⟨by rw [f3_0, if_pos c8_7, if_pos c8_19, if_neg c12_20], rfl⟩)
    · refine gicY B X18 (pc' := 66) d3_8 (flt c8_19).2.1 (by decide) ?_
      refine giloadN B X18 d3_66 rfl (pc' := 67) rfl ?_
      exact gretN B X18 (z' := (og x0)) (by simp) (own_g01 _) d3_67 (by decide) (by decide) (⟨by rw [f3_0, if_pos c8_7, if_neg c8_19], rfl⟩)
  · refine gicY B X (pc' := 66) d3_8 (flt c8_7).2.1 (by decide) ?_
    refine giloadN B X d3_66 rfl (pc' := 67) rfl ?_
    exact gretN B X (z' := (0 : Int32)) (by simp) (rfl) d3_67 (by decide) (by decide) (⟨by rw [f3_0, if_neg c8_7], rfl⟩)
def f3_1 (to : Int32) (x0 : Int32) (x1 : Int32) (x2 : Int32) (x3 : Int32) : Int32 := if (1 : Int32) < to then (if (2 : Int32) < to then (if (og x1) = (0 : Int32) then (if (3 : Int32) < to then (if (og x2) = (0 : Int32) then (og x3) else ((og x2))) else ((og x2))) else ((og x1))) else ((og x1))) else ((0 : Int32))
set_option maxRecDepth 65536 in
set_option maxHeartbeats 4000000 in
theorem mt3_1 (l : Launch) (Z : State) (a0 : Array Value) (hw : ∀ d ∈ tables_1, d.before a0 Z = true) (a : Addr) (to : Int32) (x0 x1 x2 x3 : Int32) (h0 : Heap) (F : VA Z h0 a .byte [.int x0, .int x1, .int x2, .int x3]) (ht : ¬ (4 : Int32) < to) : Meth l Z (⟨"com/example/paycadence/paycadence/format/PrintedName", "mayEscape", "([BII)Z"⟩ : MethodName) prog_52_method_5_code 6 (some .boolean) rmr3 #[(.ref a), (.int (1 : Int32)), (.int to)] h0 [] (fun vr h' => vr = some (.int (f3_1 to x0 x1 x2 x3)) ∧ h' = h0) := by
  refine Meth.of pn3 ?_
  intro p e s m below meth c T B X
  refine Go.entry (ef3_RII m a (1 : Int32) to) ?_
  refine giconst B X d3_0 (v := (0 : Int32)) rfl (pc' := 1) rfl ?_
  refine gistoreN B X d3_1 (Ls' := #[.val (.ref a), .val (.int (1 : Int32)), .val (.int to), .val (.int (0 : Int32)), .unset, .unset]) rfl (pc' := 2) rfl ?_
  refine giloadN B X d3_2 rfl (pc' := 3) rfl ?_
  refine gistore B X d3_3 (Ls' := #[.val (.ref a), .val (.int (1 : Int32)), .val (.int to), .val (.int (0 : Int32)), .val (.int (1 : Int32)), .unset]) rfl (pc' := 5) rfl ?_
  refine giload B X d3_5 rfl (pc' := 7) rfl ?_
  refine giloadN B X d3_7 rfl (pc' := 8) rfl ?_
  by_cases c8_56 : (1 : Int32) < to
  · refine gicN B X d3_8 (tlt c8_56).2.1 (pc' := 11) rfl ?_
    refine giloadN B X d3_11 rfl (pc' := 12) rfl ?_
    have c12_57 : (0 : Int32) = (0 : Int32) := (by decide)
    refine gifN B X d3_12 ((if0 _ _).trans (teq c12_57).2) (pc' := 15) rfl ?_
    refine galoadN B X d3_15 rfl rfl (pc' := 16) rfl ?_
    refine giload B X d3_16 rfl (pc' := 18) rfl ?_
    refine gbaload B X (n := 4) F rfl (by decide) (v := (.int x1)) rfl d3_18 (pc' := 19) rfl ?_
    refine gistore B X d3_19 (Ls' := #[.val (.ref a), .val (.int (1 : Int32)), .val (.int to), .val (.int (0 : Int32)), .val (.int (1 : Int32)), .val (.int x1)]) rfl (pc' := 21) rfl ?_
    refine joinG B X (F := fun z => (mkF m 59 #[.val (.ref a), .val (.int (1 : Int32)), .val (.int to), .val (.int (0 : Int32)), .val (.int (1 : Int32)), .val (.int x1)] [(.int z)])) (r := (og x1)) (fun J => ?_) ?_
    · refine giload B X d3_21 rfl (pc' := 23) rfl ?_
      by_cases c23_58 : x1 < (0 : Int32)
      · refine gifY B X (pc' := 33) d3_23 ((if0 _ _).trans (tlt c23_58).1) (by decide) ?_
        refine giload B X d3_33 rfl (pc' := 35) rfl ?_
        refine gbipush B X d3_35 (v := (127 : Int32)) rfl (pc' := 37) rfl ?_
        by_cases c37_59 : x1 = (127 : Int32)
        · refine gicY B X (pc' := 54) d3_37 (teq c37_59).1 (by decide) ?_
          refine giconst B X d3_54 (v := (1 : Int32)) rfl (pc' := 55) rfl ?_
          refine ggoto B X (pc' := 59) d3_55 (by decide) ?_
          have e_J : (og x1) = (1 : Int32) := by rw [og, if_pos c23_58, if_pos c37_59]
          rw [e_J] at J
          exact J _ X
        · refine gicN B X d3_37 (feq c37_59).1 (pc' := 40) rfl ?_
          refine giload B X d3_40 rfl (pc' := 42) rfl ?_
          refine gbipush B X d3_42 (v := (-62 : Int32)) rfl (pc' := 44) rfl ?_
          by_cases c44_60 : x1 = (-62 : Int32)
          · refine gicY B X (pc' := 54) d3_44 (teq c44_60).1 (by decide) ?_
            refine giconst B X d3_54 (v := (1 : Int32)) rfl (pc' := 55) rfl ?_
            refine ggoto B X (pc' := 59) d3_55 (by decide) ?_
            have e_J : (og x1) = (1 : Int32) := by rw [og, if_pos c23_58, if_neg c37_59, if_pos c44_60]
            rw [e_J] at J
            exact J _ X
          · refine gicN B X d3_44 (feq c44_60).1 (pc' := 47) rfl ?_
            refine giload B X d3_47 rfl (pc' := 49) rfl ?_
            refine gbipush B X d3_49 (v := (-30 : Int32)) rfl (pc' := 51) rfl ?_
            by_cases c51_61 : x1 = (-30 : Int32)
            · refine gicN B X d3_51 (teq c51_61).2 (pc' := 54) rfl ?_
              refine giconst B X d3_54 (v := (1 : Int32)) rfl (pc' := 55) rfl ?_
              refine ggoto B X (pc' := 59) d3_55 (by decide) ?_
              have e_J : (og x1) = (1 : Int32) := by rw [og, if_pos c23_58, if_neg c37_59, if_neg c44_60, if_pos c51_61]
              rw [e_J] at J
              exact J _ X
            · refine gicY B X (pc' := 58) d3_51 (feq c51_61).2 (by decide) ?_
              refine giconst B X d3_58 (v := (0 : Int32)) rfl (pc' := 59) rfl ?_
              have e_J : (og x1) = (0 : Int32) := by rw [og, if_pos c23_58, if_neg c37_59, if_neg c44_60, if_neg c51_61]
              rw [e_J] at J
              exact J _ X
      · refine gifN B X d3_23 ((if0 _ _).trans (flt c23_58).1) (pc' := 26) rfl ?_
        refine giload B X d3_26 rfl (pc' := 28) rfl ?_
        refine gbipush B X d3_28 (v := (32 : Int32)) rfl (pc' := 30) rfl ?_
        by_cases c30_62 : x1 < (32 : Int32)
        · refine gicY B X (pc' := 54) d3_30 (tlt c30_62).1 (by decide) ?_
          refine giconst B X d3_54 (v := (1 : Int32)) rfl (pc' := 55) rfl ?_
          refine ggoto B X (pc' := 59) d3_55 (by decide) ?_
          have e_J : (og x1) = (1 : Int32) := by rw [og, if_neg c23_58, if_pos c30_62]
          rw [e_J] at J
          exact J _ X
        · refine gicN B X d3_30 (flt c30_62).1 (pc' := 33) rfl ?_
          refine giload B X d3_33 rfl (pc' := 35) rfl ?_
          refine gbipush B X d3_35 (v := (127 : Int32)) rfl (pc' := 37) rfl ?_
          by_cases c37_63 : x1 = (127 : Int32)
          · refine gicY B X (pc' := 54) d3_37 (teq c37_63).1 (by decide) ?_
            refine giconst B X d3_54 (v := (1 : Int32)) rfl (pc' := 55) rfl ?_
            refine ggoto B X (pc' := 59) d3_55 (by decide) ?_
            have e_J : (og x1) = (1 : Int32) := by rw [og, if_neg c23_58, if_neg c30_62, if_pos c37_63]
            rw [e_J] at J
            exact J _ X
          · refine gicN B X d3_37 (feq c37_63).1 (pc' := 40) rfl ?_
            refine giload B X d3_40 rfl (pc' := 42) rfl ?_
            refine gbipush B X d3_42 (v := (-62 : Int32)) rfl (pc' := 44) rfl ?_
            by_cases c44_64 : x1 = (-62 : Int32)
            · refine gicY B X (pc' := 54) d3_44 (teq c44_64).1 (by decide) ?_
              refine giconst B X d3_54 (v := (1 : Int32)) rfl (pc' := 55) rfl ?_
              refine ggoto B X (pc' := 59) d3_55 (by decide) ?_
              have e_J : (og x1) = (1 : Int32) := by rw [og, if_neg c23_58, if_neg c30_62, if_neg c37_63, if_pos c44_64]
              rw [e_J] at J
              exact J _ X
            · refine gicN B X d3_44 (feq c44_64).1 (pc' := 47) rfl ?_
              refine giload B X d3_47 rfl (pc' := 49) rfl ?_
              refine gbipush B X d3_49 (v := (-30 : Int32)) rfl (pc' := 51) rfl ?_
              by_cases c51_65 : x1 = (-30 : Int32)
              · refine gicN B X d3_51 (teq c51_65).2 (pc' := 54) rfl ?_
                refine giconst B X d3_54 (v := (1 : Int32)) rfl (pc' := 55) rfl ?_
                refine ggoto B X (pc' := 59) d3_55 (by decide) ?_
                have e_J : (og x1) = (1 : Int32) := by rw [og, if_neg c23_58, if_neg c30_62, if_neg c37_63, if_neg c44_64, if_pos c51_65]
                rw [e_J] at J
                exact J _ X
              · refine gicY B X (pc' := 58) d3_51 (feq c51_65).2 (by decide) ?_
                refine giconst B X d3_58 (v := (0 : Int32)) rfl (pc' := 59) rfl ?_
                have e_J : (og x1) = (0 : Int32) := by rw [og, if_neg c23_58, if_neg c30_62, if_neg c37_63, if_neg c44_64, if_neg c51_65]
                rw [e_J] at J
                exact J _ X
    intro T66 X67
    show Go p e below s _ _ _ _ _ T66 (mkF m 59 #[.val (.ref a), .val (.int (1 : Int32)), .val (.int to), .val (.int (0 : Int32)), .val (.int (1 : Int32)), .val (.int x1)] [(.int (og x1))])
    refine gistoreN B X67 d3_59 (Ls' := #[.val (.ref a), .val (.int (1 : Int32)), .val (.int to), .val (.int (og x1)), .val (.int (1 : Int32)), .val (.int x1)]) rfl (pc' := 60) rfl ?_
    refine giinc B X67 d3_60 rfl (v := (2 : Int32)) (by decide) (Ls' := #[.val (.ref a), .val (.int (1 : Int32)), .val (.int to), .val (.int (og x1)), .val (.int (2 : Int32)), .val (.int x1)]) rfl (pc' := 63) rfl ?_
    refine ggoto B X67 (pc' := 5) d3_63 (by decide) ?_
    refine giload B X67 d3_5 rfl (pc' := 7) rfl ?_
    refine giloadN B X67 d3_7 rfl (pc' := 8) rfl ?_
    by_cases c8_68 : (2 : Int32) < to
    · refine gicN B X67 d3_8 (tlt c8_68).2.1 (pc' := 11) rfl ?_
      refine giloadN B X67 d3_11 rfl (pc' := 12) rfl ?_
      by_cases c12_69 : (og x1) = (0 : Int32)
      · refine gifN B X67 d3_12 ((if0 _ _).trans (teq c12_69).2) (pc' := 15) rfl ?_
        refine galoadN B X67 d3_15 rfl rfl (pc' := 16) rfl ?_
        refine giload B X67 d3_16 rfl (pc' := 18) rfl ?_
        refine gbaload B X67 (n := 4) F rfl (by decide) (v := (.int x2)) rfl d3_18 (pc' := 19) rfl ?_
        refine gistore B X67 d3_19 (Ls' := #[.val (.ref a), .val (.int (1 : Int32)), .val (.int to), .val (.int (og x1)), .val (.int (2 : Int32)), .val (.int x2)]) rfl (pc' := 21) rfl ?_
        refine joinG B X67 (F := fun z => (mkF m 59 #[.val (.ref a), .val (.int (1 : Int32)), .val (.int to), .val (.int (og x1)), .val (.int (2 : Int32)), .val (.int x2)] [(.int z)])) (r := (og x2)) (fun J => ?_) ?_
        · refine giload B X67 d3_21 rfl (pc' := 23) rfl ?_
          by_cases c23_70 : x2 < (0 : Int32)
          · refine gifY B X67 (pc' := 33) d3_23 ((if0 _ _).trans (tlt c23_70).1) (by decide) ?_
            refine giload B X67 d3_33 rfl (pc' := 35) rfl ?_
            refine gbipush B X67 d3_35 (v := (127 : Int32)) rfl (pc' := 37) rfl ?_
            by_cases c37_71 : x2 = (127 : Int32)
            · refine gicY B X67 (pc' := 54) d3_37 (teq c37_71).1 (by decide) ?_
              refine giconst B X67 d3_54 (v := (1 : Int32)) rfl (pc' := 55) rfl ?_
              refine ggoto B X67 (pc' := 59) d3_55 (by decide) ?_
              have e_J : (og x2) = (1 : Int32) := by rw [og, if_pos c23_70, if_pos c37_71]
              rw [e_J] at J
              exact J _ X67
            · refine gicN B X67 d3_37 (feq c37_71).1 (pc' := 40) rfl ?_
              refine giload B X67 d3_40 rfl (pc' := 42) rfl ?_
              refine gbipush B X67 d3_42 (v := (-62 : Int32)) rfl (pc' := 44) rfl ?_
              by_cases c44_72 : x2 = (-62 : Int32)
              · refine gicY B X67 (pc' := 54) d3_44 (teq c44_72).1 (by decide) ?_
                refine giconst B X67 d3_54 (v := (1 : Int32)) rfl (pc' := 55) rfl ?_
                refine ggoto B X67 (pc' := 59) d3_55 (by decide) ?_
                have e_J : (og x2) = (1 : Int32) := by rw [og, if_pos c23_70, if_neg c37_71, if_pos c44_72]
                rw [e_J] at J
                exact J _ X67
              · refine gicN B X67 d3_44 (feq c44_72).1 (pc' := 47) rfl ?_
                refine giload B X67 d3_47 rfl (pc' := 49) rfl ?_
                refine gbipush B X67 d3_49 (v := (-30 : Int32)) rfl (pc' := 51) rfl ?_
                by_cases c51_73 : x2 = (-30 : Int32)
                · refine gicN B X67 d3_51 (teq c51_73).2 (pc' := 54) rfl ?_
                  refine giconst B X67 d3_54 (v := (1 : Int32)) rfl (pc' := 55) rfl ?_
                  refine ggoto B X67 (pc' := 59) d3_55 (by decide) ?_
                  have e_J : (og x2) = (1 : Int32) := by rw [og, if_pos c23_70, if_neg c37_71, if_neg c44_72, if_pos c51_73]
                  rw [e_J] at J
                  exact J _ X67
                · refine gicY B X67 (pc' := 58) d3_51 (feq c51_73).2 (by decide) ?_
                  refine giconst B X67 d3_58 (v := (0 : Int32)) rfl (pc' := 59) rfl ?_
                  have e_J : (og x2) = (0 : Int32) := by rw [og, if_pos c23_70, if_neg c37_71, if_neg c44_72, if_neg c51_73]
                  rw [e_J] at J
                  exact J _ X67
          · refine gifN B X67 d3_23 ((if0 _ _).trans (flt c23_70).1) (pc' := 26) rfl ?_
            refine giload B X67 d3_26 rfl (pc' := 28) rfl ?_
            refine gbipush B X67 d3_28 (v := (32 : Int32)) rfl (pc' := 30) rfl ?_
            by_cases c30_74 : x2 < (32 : Int32)
            · refine gicY B X67 (pc' := 54) d3_30 (tlt c30_74).1 (by decide) ?_
              refine giconst B X67 d3_54 (v := (1 : Int32)) rfl (pc' := 55) rfl ?_
              refine ggoto B X67 (pc' := 59) d3_55 (by decide) ?_
              have e_J : (og x2) = (1 : Int32) := by rw [og, if_neg c23_70, if_pos c30_74]
              rw [e_J] at J
              exact J _ X67
            · refine gicN B X67 d3_30 (flt c30_74).1 (pc' := 33) rfl ?_
              refine giload B X67 d3_33 rfl (pc' := 35) rfl ?_
              refine gbipush B X67 d3_35 (v := (127 : Int32)) rfl (pc' := 37) rfl ?_
              by_cases c37_75 : x2 = (127 : Int32)
              · refine gicY B X67 (pc' := 54) d3_37 (teq c37_75).1 (by decide) ?_
                refine giconst B X67 d3_54 (v := (1 : Int32)) rfl (pc' := 55) rfl ?_
                refine ggoto B X67 (pc' := 59) d3_55 (by decide) ?_
                have e_J : (og x2) = (1 : Int32) := by rw [og, if_neg c23_70, if_neg c30_74, if_pos c37_75]
                rw [e_J] at J
                exact J _ X67
              · refine gicN B X67 d3_37 (feq c37_75).1 (pc' := 40) rfl ?_
                refine giload B X67 d3_40 rfl (pc' := 42) rfl ?_
                refine gbipush B X67 d3_42 (v := (-62 : Int32)) rfl (pc' := 44) rfl ?_
                by_cases c44_76 : x2 = (-62 : Int32)
                · refine gicY B X67 (pc' := 54) d3_44 (teq c44_76).1 (by decide) ?_
                  refine giconst B X67 d3_54 (v := (1 : Int32)) rfl (pc' := 55) rfl ?_
                  refine ggoto B X67 (pc' := 59) d3_55 (by decide) ?_
                  have e_J : (og x2) = (1 : Int32) := by rw [og, if_neg c23_70, if_neg c30_74, if_neg c37_75, if_pos c44_76]
                  rw [e_J] at J
                  exact J _ X67
                · refine gicN B X67 d3_44 (feq c44_76).1 (pc' := 47) rfl ?_
                  refine giload B X67 d3_47 rfl (pc' := 49) rfl ?_
                  refine gbipush B X67 d3_49 (v := (-30 : Int32)) rfl (pc' := 51) rfl ?_
                  by_cases c51_77 : x2 = (-30 : Int32)
                  · refine gicN B X67 d3_51 (teq c51_77).2 (pc' := 54) rfl ?_
                    refine giconst B X67 d3_54 (v := (1 : Int32)) rfl (pc' := 55) rfl ?_
                    refine ggoto B X67 (pc' := 59) d3_55 (by decide) ?_
                    have e_J : (og x2) = (1 : Int32) := by rw [og, if_neg c23_70, if_neg c30_74, if_neg c37_75, if_neg c44_76, if_pos c51_77]
                    rw [e_J] at J
                    exact J _ X67
                  · refine gicY B X67 (pc' := 58) d3_51 (feq c51_77).2 (by decide) ?_
                    refine giconst B X67 d3_58 (v := (0 : Int32)) rfl (pc' := 59) rfl ?_
                    have e_J : (og x2) = (0 : Int32) := by rw [og, if_neg c23_70, if_neg c30_74, if_neg c37_75, if_neg c44_76, if_neg c51_77]
                    rw [e_J] at J
                    exact J _ X67
        intro T78 X79
        show Go p e below s _ _ _ _ _ T78 (mkF m 59 #[.val (.ref a), .val (.int (1 : Int32)), .val (.int to), .val (.int (og x1)), .val (.int (2 : Int32)), .val (.int x2)] [(.int (og x2))])
        refine gistoreN B X79 d3_59 (Ls' := #[.val (.ref a), .val (.int (1 : Int32)), .val (.int to), .val (.int (og x2)), .val (.int (2 : Int32)), .val (.int x2)]) rfl (pc' := 60) rfl ?_
        refine giinc B X79 d3_60 rfl (v := (3 : Int32)) (by decide) (Ls' := #[.val (.ref a), .val (.int (1 : Int32)), .val (.int to), .val (.int (og x2)), .val (.int (3 : Int32)), .val (.int x2)]) rfl (pc' := 63) rfl ?_
        refine ggoto B X79 (pc' := 5) d3_63 (by decide) ?_
        refine giload B X79 d3_5 rfl (pc' := 7) rfl ?_
        refine giloadN B X79 d3_7 rfl (pc' := 8) rfl ?_
        by_cases c8_80 : (3 : Int32) < to
        · refine gicN B X79 d3_8 (tlt c8_80).2.1 (pc' := 11) rfl ?_
          refine giloadN B X79 d3_11 rfl (pc' := 12) rfl ?_
          by_cases c12_81 : (og x2) = (0 : Int32)
          · refine gifN B X79 d3_12 ((if0 _ _).trans (teq c12_81).2) (pc' := 15) rfl ?_
            refine galoadN B X79 d3_15 rfl rfl (pc' := 16) rfl ?_
            refine giload B X79 d3_16 rfl (pc' := 18) rfl ?_
            refine gbaload B X79 (n := 4) F rfl (by decide) (v := (.int x3)) rfl d3_18 (pc' := 19) rfl ?_
            refine gistore B X79 d3_19 (Ls' := #[.val (.ref a), .val (.int (1 : Int32)), .val (.int to), .val (.int (og x2)), .val (.int (3 : Int32)), .val (.int x3)]) rfl (pc' := 21) rfl ?_
            refine joinG B X79 (F := fun z => (mkF m 59 #[.val (.ref a), .val (.int (1 : Int32)), .val (.int to), .val (.int (og x2)), .val (.int (3 : Int32)), .val (.int x3)] [(.int z)])) (r := (og x3)) (fun J => ?_) ?_
            · refine giload B X79 d3_21 rfl (pc' := 23) rfl ?_
              by_cases c23_82 : x3 < (0 : Int32)
              · refine gifY B X79 (pc' := 33) d3_23 ((if0 _ _).trans (tlt c23_82).1) (by decide) ?_
                refine giload B X79 d3_33 rfl (pc' := 35) rfl ?_
                refine gbipush B X79 d3_35 (v := (127 : Int32)) rfl (pc' := 37) rfl ?_
                by_cases c37_83 : x3 = (127 : Int32)
                · refine gicY B X79 (pc' := 54) d3_37 (teq c37_83).1 (by decide) ?_
                  refine giconst B X79 d3_54 (v := (1 : Int32)) rfl (pc' := 55) rfl ?_
                  refine ggoto B X79 (pc' := 59) d3_55 (by decide) ?_
                  have e_J : (og x3) = (1 : Int32) := by rw [og, if_pos c23_82, if_pos c37_83]
                  rw [e_J] at J
                  exact J _ X79
                · refine gicN B X79 d3_37 (feq c37_83).1 (pc' := 40) rfl ?_
                  refine giload B X79 d3_40 rfl (pc' := 42) rfl ?_
                  refine gbipush B X79 d3_42 (v := (-62 : Int32)) rfl (pc' := 44) rfl ?_
                  by_cases c44_84 : x3 = (-62 : Int32)
                  · refine gicY B X79 (pc' := 54) d3_44 (teq c44_84).1 (by decide) ?_
                    refine giconst B X79 d3_54 (v := (1 : Int32)) rfl (pc' := 55) rfl ?_
                    refine ggoto B X79 (pc' := 59) d3_55 (by decide) ?_
                    have e_J : (og x3) = (1 : Int32) := by rw [og, if_pos c23_82, if_neg c37_83, if_pos c44_84]
                    rw [e_J] at J
                    exact J _ X79
                  · refine gicN B X79 d3_44 (feq c44_84).1 (pc' := 47) rfl ?_
                    refine giload B X79 d3_47 rfl (pc' := 49) rfl ?_
                    refine gbipush B X79 d3_49 (v := (-30 : Int32)) rfl (pc' := 51) rfl ?_
                    by_cases c51_85 : x3 = (-30 : Int32)
                    · refine gicN B X79 d3_51 (teq c51_85).2 (pc' := 54) rfl ?_
                      refine giconst B X79 d3_54 (v := (1 : Int32)) rfl (pc' := 55) rfl ?_
                      refine ggoto B X79 (pc' := 59) d3_55 (by decide) ?_
                      have e_J : (og x3) = (1 : Int32) := by rw [og, if_pos c23_82, if_neg c37_83, if_neg c44_84, if_pos c51_85]
                      rw [e_J] at J
                      exact J _ X79
                    · refine gicY B X79 (pc' := 58) d3_51 (feq c51_85).2 (by decide) ?_
                      refine giconst B X79 d3_58 (v := (0 : Int32)) rfl (pc' := 59) rfl ?_
                      have e_J : (og x3) = (0 : Int32) := by rw [og, if_pos c23_82, if_neg c37_83, if_neg c44_84, if_neg c51_85]
                      rw [e_J] at J
                      exact J _ X79
              · refine gifN B X79 d3_23 ((if0 _ _).trans (flt c23_82).1) (pc' := 26) rfl ?_
                refine giload B X79 d3_26 rfl (pc' := 28) rfl ?_
                refine gbipush B X79 d3_28 (v := (32 : Int32)) rfl (pc' := 30) rfl ?_
                by_cases c30_86 : x3 < (32 : Int32)
                · refine gicY B X79 (pc' := 54) d3_30 (tlt c30_86).1 (by decide) ?_
                  refine giconst B X79 d3_54 (v := (1 : Int32)) rfl (pc' := 55) rfl ?_
                  refine ggoto B X79 (pc' := 59) d3_55 (by decide) ?_
                  have e_J : (og x3) = (1 : Int32) := by rw [og, if_neg c23_82, if_pos c30_86]
                  rw [e_J] at J
                  exact J _ X79
                · refine gicN B X79 d3_30 (flt c30_86).1 (pc' := 33) rfl ?_
                  refine giload B X79 d3_33 rfl (pc' := 35) rfl ?_
                  refine gbipush B X79 d3_35 (v := (127 : Int32)) rfl (pc' := 37) rfl ?_
                  by_cases c37_87 : x3 = (127 : Int32)
                  · refine gicY B X79 (pc' := 54) d3_37 (teq c37_87).1 (by decide) ?_
                    refine giconst B X79 d3_54 (v := (1 : Int32)) rfl (pc' := 55) rfl ?_
                    refine ggoto B X79 (pc' := 59) d3_55 (by decide) ?_
                    have e_J : (og x3) = (1 : Int32) := by rw [og, if_neg c23_82, if_neg c30_86, if_pos c37_87]
                    rw [e_J] at J
                    exact J _ X79
                  · refine gicN B X79 d3_37 (feq c37_87).1 (pc' := 40) rfl ?_
                    refine giload B X79 d3_40 rfl (pc' := 42) rfl ?_
                    refine gbipush B X79 d3_42 (v := (-62 : Int32)) rfl (pc' := 44) rfl ?_
                    by_cases c44_88 : x3 = (-62 : Int32)
                    · refine gicY B X79 (pc' := 54) d3_44 (teq c44_88).1 (by decide) ?_
                      refine giconst B X79 d3_54 (v := (1 : Int32)) rfl (pc' := 55) rfl ?_
                      refine ggoto B X79 (pc' := 59) d3_55 (by decide) ?_
                      have e_J : (og x3) = (1 : Int32) := by rw [og, if_neg c23_82, if_neg c30_86, if_neg c37_87, if_pos c44_88]
                      rw [e_J] at J
                      exact J _ X79
                    · refine gicN B X79 d3_44 (feq c44_88).1 (pc' := 47) rfl ?_
                      refine giload B X79 d3_47 rfl (pc' := 49) rfl ?_
                      refine gbipush B X79 d3_49 (v := (-30 : Int32)) rfl (pc' := 51) rfl ?_
                      by_cases c51_89 : x3 = (-30 : Int32)
                      · refine gicN B X79 d3_51 (teq c51_89).2 (pc' := 54) rfl ?_
                        refine giconst B X79 d3_54 (v := (1 : Int32)) rfl (pc' := 55) rfl ?_
                        refine ggoto B X79 (pc' := 59) d3_55 (by decide) ?_
                        have e_J : (og x3) = (1 : Int32) := by rw [og, if_neg c23_82, if_neg c30_86, if_neg c37_87, if_neg c44_88, if_pos c51_89]
                        rw [e_J] at J
                        exact J _ X79
                      · refine gicY B X79 (pc' := 58) d3_51 (feq c51_89).2 (by decide) ?_
                        refine giconst B X79 d3_58 (v := (0 : Int32)) rfl (pc' := 59) rfl ?_
                        have e_J : (og x3) = (0 : Int32) := by rw [og, if_neg c23_82, if_neg c30_86, if_neg c37_87, if_neg c44_88, if_neg c51_89]
                        rw [e_J] at J
                        exact J _ X79
            intro T90 X91
            show Go p e below s _ _ _ _ _ T90 (mkF m 59 #[.val (.ref a), .val (.int (1 : Int32)), .val (.int to), .val (.int (og x2)), .val (.int (3 : Int32)), .val (.int x3)] [(.int (og x3))])
            refine gistoreN B X91 d3_59 (Ls' := #[.val (.ref a), .val (.int (1 : Int32)), .val (.int to), .val (.int (og x3)), .val (.int (3 : Int32)), .val (.int x3)]) rfl (pc' := 60) rfl ?_
            refine giinc B X91 d3_60 rfl (v := (4 : Int32)) (by decide) (Ls' := #[.val (.ref a), .val (.int (1 : Int32)), .val (.int to), .val (.int (og x3)), .val (.int (4 : Int32)), .val (.int x3)]) rfl (pc' := 63) rfl ?_
            refine ggoto B X91 (pc' := 5) d3_63 (by decide) ?_
            refine giload B X91 d3_5 rfl (pc' := 7) rfl ?_
            refine giloadN B X91 d3_7 rfl (pc' := 8) rfl ?_
            have c8_92 : ¬ ((4 : Int32) < to) := ht
            refine gicY B X91 (pc' := 66) d3_8 (flt c8_92).2.1 (by decide) ?_
            refine giloadN B X91 d3_66 rfl (pc' := 67) rfl ?_
            exact gretN B X91 (z' := (og x3)) (by simp) (own_g01 _) d3_67 (by decide) (by decide) (⟨by rw [f3_1, if_pos c8_56, if_pos c8_68, if_pos c12_69, if_pos c8_80, if_pos c12_81], rfl⟩)
          · refine gifY B X79 (pc' := 66) d3_12 ((if0 _ _).trans (feq c12_81).2) (by decide) ?_
            refine giloadN B X79 d3_66 rfl (pc' := 67) rfl ?_
            exact gretN B X79 (z' := (og x2)) (by simp) (own_g01 _) d3_67 (by decide) (by decide) (⟨by rw [f3_1, if_pos c8_56, if_pos c8_68, if_pos c12_69, if_pos c8_80, if_neg c12_81], rfl⟩)
        · refine gicY B X79 (pc' := 66) d3_8 (flt c8_80).2.1 (by decide) ?_
          refine giloadN B X79 d3_66 rfl (pc' := 67) rfl ?_
          exact gretN B X79 (z' := (og x2)) (by simp) (own_g01 _) d3_67 (by decide) (by decide) (⟨by rw [f3_1, if_pos c8_56, if_pos c8_68, if_pos c12_69, if_neg c8_80], rfl⟩)
      · refine gifY B X67 (pc' := 66) d3_12 ((if0 _ _).trans (feq c12_69).2) (by decide) ?_
        refine giloadN B X67 d3_66 rfl (pc' := 67) rfl ?_
        exact gretN B X67 (z' := (og x1)) (by simp) (own_g01 _) d3_67 (by decide) (by decide) (⟨by rw [f3_1, if_pos c8_56, if_pos c8_68, if_neg c12_69], rfl⟩)
    · refine gicY B X67 (pc' := 66) d3_8 (flt c8_68).2.1 (by decide) ?_
      refine giloadN B X67 d3_66 rfl (pc' := 67) rfl ?_
      exact gretN B X67 (z' := (og x1)) (by simp) (own_g01 _) d3_67 (by decide) (by decide) (⟨by rw [f3_1, if_pos c8_56, if_neg c8_68], rfl⟩)
  · refine gicY B X (pc' := 66) d3_8 (flt c8_56).2.1 (by decide) ?_
    refine giloadN B X d3_66 rfl (pc' := 67) rfl ?_
    exact gretN B X (z' := (0 : Int32)) (by simp) (rfl) d3_67 (by decide) (by decide) (⟨by rw [f3_1, if_neg c8_56], rfl⟩)
def f3_2 (to : Int32) (x0 : Int32) (x1 : Int32) (x2 : Int32) (x3 : Int32) : Int32 := if (2 : Int32) < to then (if (3 : Int32) < to then (if (og x2) = (0 : Int32) then (og x3) else ((og x2))) else ((og x2))) else ((0 : Int32))
set_option maxRecDepth 65536 in
set_option maxHeartbeats 4000000 in
theorem mt3_2 (l : Launch) (Z : State) (a0 : Array Value) (hw : ∀ d ∈ tables_1, d.before a0 Z = true) (a : Addr) (to : Int32) (x0 x1 x2 x3 : Int32) (h0 : Heap) (F : VA Z h0 a .byte [.int x0, .int x1, .int x2, .int x3]) (ht : ¬ (4 : Int32) < to) : Meth l Z (⟨"com/example/paycadence/paycadence/format/PrintedName", "mayEscape", "([BII)Z"⟩ : MethodName) prog_52_method_5_code 6 (some .boolean) rmr3 #[(.ref a), (.int (2 : Int32)), (.int to)] h0 [] (fun vr h' => vr = some (.int (f3_2 to x0 x1 x2 x3)) ∧ h' = h0) := by
  refine Meth.of pn3 ?_
  intro p e s m below meth c T B X
  refine Go.entry (ef3_RII m a (2 : Int32) to) ?_
  refine giconst B X d3_0 (v := (0 : Int32)) rfl (pc' := 1) rfl ?_
  refine gistoreN B X d3_1 (Ls' := #[.val (.ref a), .val (.int (2 : Int32)), .val (.int to), .val (.int (0 : Int32)), .unset, .unset]) rfl (pc' := 2) rfl ?_
  refine giloadN B X d3_2 rfl (pc' := 3) rfl ?_
  refine gistore B X d3_3 (Ls' := #[.val (.ref a), .val (.int (2 : Int32)), .val (.int to), .val (.int (0 : Int32)), .val (.int (2 : Int32)), .unset]) rfl (pc' := 5) rfl ?_
  refine giload B X d3_5 rfl (pc' := 7) rfl ?_
  refine giloadN B X d3_7 rfl (pc' := 8) rfl ?_
  by_cases c8_93 : (2 : Int32) < to
  · refine gicN B X d3_8 (tlt c8_93).2.1 (pc' := 11) rfl ?_
    refine giloadN B X d3_11 rfl (pc' := 12) rfl ?_
    have c12_94 : (0 : Int32) = (0 : Int32) := (by decide)
    refine gifN B X d3_12 ((if0 _ _).trans (teq c12_94).2) (pc' := 15) rfl ?_
    refine galoadN B X d3_15 rfl rfl (pc' := 16) rfl ?_
    refine giload B X d3_16 rfl (pc' := 18) rfl ?_
    refine gbaload B X (n := 4) F rfl (by decide) (v := (.int x2)) rfl d3_18 (pc' := 19) rfl ?_
    refine gistore B X d3_19 (Ls' := #[.val (.ref a), .val (.int (2 : Int32)), .val (.int to), .val (.int (0 : Int32)), .val (.int (2 : Int32)), .val (.int x2)]) rfl (pc' := 21) rfl ?_
    refine joinG B X (F := fun z => (mkF m 59 #[.val (.ref a), .val (.int (2 : Int32)), .val (.int to), .val (.int (0 : Int32)), .val (.int (2 : Int32)), .val (.int x2)] [(.int z)])) (r := (og x2)) (fun J => ?_) ?_
    · refine giload B X d3_21 rfl (pc' := 23) rfl ?_
      by_cases c23_95 : x2 < (0 : Int32)
      · refine gifY B X (pc' := 33) d3_23 ((if0 _ _).trans (tlt c23_95).1) (by decide) ?_
        refine giload B X d3_33 rfl (pc' := 35) rfl ?_
        refine gbipush B X d3_35 (v := (127 : Int32)) rfl (pc' := 37) rfl ?_
        by_cases c37_96 : x2 = (127 : Int32)
        · refine gicY B X (pc' := 54) d3_37 (teq c37_96).1 (by decide) ?_
          refine giconst B X d3_54 (v := (1 : Int32)) rfl (pc' := 55) rfl ?_
          refine ggoto B X (pc' := 59) d3_55 (by decide) ?_
          have e_J : (og x2) = (1 : Int32) := by rw [og, if_pos c23_95, if_pos c37_96]
          rw [e_J] at J
          exact J _ X
        · refine gicN B X d3_37 (feq c37_96).1 (pc' := 40) rfl ?_
          refine giload B X d3_40 rfl (pc' := 42) rfl ?_
          refine gbipush B X d3_42 (v := (-62 : Int32)) rfl (pc' := 44) rfl ?_
          by_cases c44_97 : x2 = (-62 : Int32)
          · refine gicY B X (pc' := 54) d3_44 (teq c44_97).1 (by decide) ?_
            refine giconst B X d3_54 (v := (1 : Int32)) rfl (pc' := 55) rfl ?_
            refine ggoto B X (pc' := 59) d3_55 (by decide) ?_
            have e_J : (og x2) = (1 : Int32) := by rw [og, if_pos c23_95, if_neg c37_96, if_pos c44_97]
            rw [e_J] at J
            exact J _ X
          · refine gicN B X d3_44 (feq c44_97).1 (pc' := 47) rfl ?_
            refine giload B X d3_47 rfl (pc' := 49) rfl ?_
            refine gbipush B X d3_49 (v := (-30 : Int32)) rfl (pc' := 51) rfl ?_
            by_cases c51_98 : x2 = (-30 : Int32)
            · refine gicN B X d3_51 (teq c51_98).2 (pc' := 54) rfl ?_
              refine giconst B X d3_54 (v := (1 : Int32)) rfl (pc' := 55) rfl ?_
              refine ggoto B X (pc' := 59) d3_55 (by decide) ?_
              have e_J : (og x2) = (1 : Int32) := by rw [og, if_pos c23_95, if_neg c37_96, if_neg c44_97, if_pos c51_98]
              rw [e_J] at J
              exact J _ X
            · refine gicY B X (pc' := 58) d3_51 (feq c51_98).2 (by decide) ?_
              refine giconst B X d3_58 (v := (0 : Int32)) rfl (pc' := 59) rfl ?_
              have e_J : (og x2) = (0 : Int32) := by rw [og, if_pos c23_95, if_neg c37_96, if_neg c44_97, if_neg c51_98]
              rw [e_J] at J
              exact J _ X
      · refine gifN B X d3_23 ((if0 _ _).trans (flt c23_95).1) (pc' := 26) rfl ?_
        refine giload B X d3_26 rfl (pc' := 28) rfl ?_
        refine gbipush B X d3_28 (v := (32 : Int32)) rfl (pc' := 30) rfl ?_
        by_cases c30_99 : x2 < (32 : Int32)
        · refine gicY B X (pc' := 54) d3_30 (tlt c30_99).1 (by decide) ?_
          refine giconst B X d3_54 (v := (1 : Int32)) rfl (pc' := 55) rfl ?_
          refine ggoto B X (pc' := 59) d3_55 (by decide) ?_
          have e_J : (og x2) = (1 : Int32) := by rw [og, if_neg c23_95, if_pos c30_99]
          rw [e_J] at J
          exact J _ X
        · refine gicN B X d3_30 (flt c30_99).1 (pc' := 33) rfl ?_
          refine giload B X d3_33 rfl (pc' := 35) rfl ?_
          refine gbipush B X d3_35 (v := (127 : Int32)) rfl (pc' := 37) rfl ?_
          by_cases c37_100 : x2 = (127 : Int32)
          · refine gicY B X (pc' := 54) d3_37 (teq c37_100).1 (by decide) ?_
            refine giconst B X d3_54 (v := (1 : Int32)) rfl (pc' := 55) rfl ?_
            refine ggoto B X (pc' := 59) d3_55 (by decide) ?_
            have e_J : (og x2) = (1 : Int32) := by rw [og, if_neg c23_95, if_neg c30_99, if_pos c37_100]
            rw [e_J] at J
            exact J _ X
          · refine gicN B X d3_37 (feq c37_100).1 (pc' := 40) rfl ?_
            refine giload B X d3_40 rfl (pc' := 42) rfl ?_
            refine gbipush B X d3_42 (v := (-62 : Int32)) rfl (pc' := 44) rfl ?_
            by_cases c44_101 : x2 = (-62 : Int32)
            · refine gicY B X (pc' := 54) d3_44 (teq c44_101).1 (by decide) ?_
              refine giconst B X d3_54 (v := (1 : Int32)) rfl (pc' := 55) rfl ?_
              refine ggoto B X (pc' := 59) d3_55 (by decide) ?_
              have e_J : (og x2) = (1 : Int32) := by rw [og, if_neg c23_95, if_neg c30_99, if_neg c37_100, if_pos c44_101]
              rw [e_J] at J
              exact J _ X
            · refine gicN B X d3_44 (feq c44_101).1 (pc' := 47) rfl ?_
              refine giload B X d3_47 rfl (pc' := 49) rfl ?_
              refine gbipush B X d3_49 (v := (-30 : Int32)) rfl (pc' := 51) rfl ?_
              by_cases c51_102 : x2 = (-30 : Int32)
              · refine gicN B X d3_51 (teq c51_102).2 (pc' := 54) rfl ?_
                refine giconst B X d3_54 (v := (1 : Int32)) rfl (pc' := 55) rfl ?_
                refine ggoto B X (pc' := 59) d3_55 (by decide) ?_
                have e_J : (og x2) = (1 : Int32) := by rw [og, if_neg c23_95, if_neg c30_99, if_neg c37_100, if_neg c44_101, if_pos c51_102]
                rw [e_J] at J
                exact J _ X
              · refine gicY B X (pc' := 58) d3_51 (feq c51_102).2 (by decide) ?_
                refine giconst B X d3_58 (v := (0 : Int32)) rfl (pc' := 59) rfl ?_
                have e_J : (og x2) = (0 : Int32) := by rw [og, if_neg c23_95, if_neg c30_99, if_neg c37_100, if_neg c44_101, if_neg c51_102]
                rw [e_J] at J
                exact J _ X
    intro T103 X104
    show Go p e below s _ _ _ _ _ T103 (mkF m 59 #[.val (.ref a), .val (.int (2 : Int32)), .val (.int to), .val (.int (0 : Int32)), .val (.int (2 : Int32)), .val (.int x2)] [(.int (og x2))])
    refine gistoreN B X104 d3_59 (Ls' := #[.val (.ref a), .val (.int (2 : Int32)), .val (.int to), .val (.int (og x2)), .val (.int (2 : Int32)), .val (.int x2)]) rfl (pc' := 60) rfl ?_
    refine giinc B X104 d3_60 rfl (v := (3 : Int32)) (by decide) (Ls' := #[.val (.ref a), .val (.int (2 : Int32)), .val (.int to), .val (.int (og x2)), .val (.int (3 : Int32)), .val (.int x2)]) rfl (pc' := 63) rfl ?_
    refine ggoto B X104 (pc' := 5) d3_63 (by decide) ?_
    refine giload B X104 d3_5 rfl (pc' := 7) rfl ?_
    refine giloadN B X104 d3_7 rfl (pc' := 8) rfl ?_
    by_cases c8_105 : (3 : Int32) < to
    · refine gicN B X104 d3_8 (tlt c8_105).2.1 (pc' := 11) rfl ?_
      refine giloadN B X104 d3_11 rfl (pc' := 12) rfl ?_
      by_cases c12_106 : (og x2) = (0 : Int32)
      · refine gifN B X104 d3_12 ((if0 _ _).trans (teq c12_106).2) (pc' := 15) rfl ?_
        refine galoadN B X104 d3_15 rfl rfl (pc' := 16) rfl ?_
        refine giload B X104 d3_16 rfl (pc' := 18) rfl ?_
        refine gbaload B X104 (n := 4) F rfl (by decide) (v := (.int x3)) rfl d3_18 (pc' := 19) rfl ?_
        refine gistore B X104 d3_19 (Ls' := #[.val (.ref a), .val (.int (2 : Int32)), .val (.int to), .val (.int (og x2)), .val (.int (3 : Int32)), .val (.int x3)]) rfl (pc' := 21) rfl ?_
        refine joinG B X104 (F := fun z => (mkF m 59 #[.val (.ref a), .val (.int (2 : Int32)), .val (.int to), .val (.int (og x2)), .val (.int (3 : Int32)), .val (.int x3)] [(.int z)])) (r := (og x3)) (fun J => ?_) ?_
        · refine giload B X104 d3_21 rfl (pc' := 23) rfl ?_
          by_cases c23_107 : x3 < (0 : Int32)
          · refine gifY B X104 (pc' := 33) d3_23 ((if0 _ _).trans (tlt c23_107).1) (by decide) ?_
            refine giload B X104 d3_33 rfl (pc' := 35) rfl ?_
            refine gbipush B X104 d3_35 (v := (127 : Int32)) rfl (pc' := 37) rfl ?_
            by_cases c37_108 : x3 = (127 : Int32)
            · refine gicY B X104 (pc' := 54) d3_37 (teq c37_108).1 (by decide) ?_
              refine giconst B X104 d3_54 (v := (1 : Int32)) rfl (pc' := 55) rfl ?_
              refine ggoto B X104 (pc' := 59) d3_55 (by decide) ?_
              have e_J : (og x3) = (1 : Int32) := by rw [og, if_pos c23_107, if_pos c37_108]
              rw [e_J] at J
              exact J _ X104
            · refine gicN B X104 d3_37 (feq c37_108).1 (pc' := 40) rfl ?_
              refine giload B X104 d3_40 rfl (pc' := 42) rfl ?_
              refine gbipush B X104 d3_42 (v := (-62 : Int32)) rfl (pc' := 44) rfl ?_
              by_cases c44_109 : x3 = (-62 : Int32)
              · refine gicY B X104 (pc' := 54) d3_44 (teq c44_109).1 (by decide) ?_
                refine giconst B X104 d3_54 (v := (1 : Int32)) rfl (pc' := 55) rfl ?_
                refine ggoto B X104 (pc' := 59) d3_55 (by decide) ?_
                have e_J : (og x3) = (1 : Int32) := by rw [og, if_pos c23_107, if_neg c37_108, if_pos c44_109]
                rw [e_J] at J
                exact J _ X104
              · refine gicN B X104 d3_44 (feq c44_109).1 (pc' := 47) rfl ?_
                refine giload B X104 d3_47 rfl (pc' := 49) rfl ?_
                refine gbipush B X104 d3_49 (v := (-30 : Int32)) rfl (pc' := 51) rfl ?_
                by_cases c51_110 : x3 = (-30 : Int32)
                · refine gicN B X104 d3_51 (teq c51_110).2 (pc' := 54) rfl ?_
                  refine giconst B X104 d3_54 (v := (1 : Int32)) rfl (pc' := 55) rfl ?_
                  refine ggoto B X104 (pc' := 59) d3_55 (by decide) ?_
                  have e_J : (og x3) = (1 : Int32) := by rw [og, if_pos c23_107, if_neg c37_108, if_neg c44_109, if_pos c51_110]
                  rw [e_J] at J
                  exact J _ X104
                · refine gicY B X104 (pc' := 58) d3_51 (feq c51_110).2 (by decide) ?_
                  refine giconst B X104 d3_58 (v := (0 : Int32)) rfl (pc' := 59) rfl ?_
                  have e_J : (og x3) = (0 : Int32) := by rw [og, if_pos c23_107, if_neg c37_108, if_neg c44_109, if_neg c51_110]
                  rw [e_J] at J
                  exact J _ X104
          · refine gifN B X104 d3_23 ((if0 _ _).trans (flt c23_107).1) (pc' := 26) rfl ?_
            refine giload B X104 d3_26 rfl (pc' := 28) rfl ?_
            refine gbipush B X104 d3_28 (v := (32 : Int32)) rfl (pc' := 30) rfl ?_
            by_cases c30_111 : x3 < (32 : Int32)
            · refine gicY B X104 (pc' := 54) d3_30 (tlt c30_111).1 (by decide) ?_
              refine giconst B X104 d3_54 (v := (1 : Int32)) rfl (pc' := 55) rfl ?_
              refine ggoto B X104 (pc' := 59) d3_55 (by decide) ?_
              have e_J : (og x3) = (1 : Int32) := by rw [og, if_neg c23_107, if_pos c30_111]
              rw [e_J] at J
              exact J _ X104
            · refine gicN B X104 d3_30 (flt c30_111).1 (pc' := 33) rfl ?_
              refine giload B X104 d3_33 rfl (pc' := 35) rfl ?_
              refine gbipush B X104 d3_35 (v := (127 : Int32)) rfl (pc' := 37) rfl ?_
              by_cases c37_112 : x3 = (127 : Int32)
              · refine gicY B X104 (pc' := 54) d3_37 (teq c37_112).1 (by decide) ?_
                refine giconst B X104 d3_54 (v := (1 : Int32)) rfl (pc' := 55) rfl ?_
                refine ggoto B X104 (pc' := 59) d3_55 (by decide) ?_
                have e_J : (og x3) = (1 : Int32) := by rw [og, if_neg c23_107, if_neg c30_111, if_pos c37_112]
                rw [e_J] at J
                exact J _ X104
              · refine gicN B X104 d3_37 (feq c37_112).1 (pc' := 40) rfl ?_
                refine giload B X104 d3_40 rfl (pc' := 42) rfl ?_
                refine gbipush B X104 d3_42 (v := (-62 : Int32)) rfl (pc' := 44) rfl ?_
                by_cases c44_113 : x3 = (-62 : Int32)
                · refine gicY B X104 (pc' := 54) d3_44 (teq c44_113).1 (by decide) ?_
                  refine giconst B X104 d3_54 (v := (1 : Int32)) rfl (pc' := 55) rfl ?_
                  refine ggoto B X104 (pc' := 59) d3_55 (by decide) ?_
                  have e_J : (og x3) = (1 : Int32) := by rw [og, if_neg c23_107, if_neg c30_111, if_neg c37_112, if_pos c44_113]
                  rw [e_J] at J
                  exact J _ X104
                · refine gicN B X104 d3_44 (feq c44_113).1 (pc' := 47) rfl ?_
                  refine giload B X104 d3_47 rfl (pc' := 49) rfl ?_
                  refine gbipush B X104 d3_49 (v := (-30 : Int32)) rfl (pc' := 51) rfl ?_
                  by_cases c51_114 : x3 = (-30 : Int32)
                  · refine gicN B X104 d3_51 (teq c51_114).2 (pc' := 54) rfl ?_
                    refine giconst B X104 d3_54 (v := (1 : Int32)) rfl (pc' := 55) rfl ?_
                    refine ggoto B X104 (pc' := 59) d3_55 (by decide) ?_
                    have e_J : (og x3) = (1 : Int32) := by rw [og, if_neg c23_107, if_neg c30_111, if_neg c37_112, if_neg c44_113, if_pos c51_114]
                    rw [e_J] at J
                    exact J _ X104
                  · refine gicY B X104 (pc' := 58) d3_51 (feq c51_114).2 (by decide) ?_
                    refine giconst B X104 d3_58 (v := (0 : Int32)) rfl (pc' := 59) rfl ?_
                    have e_J : (og x3) = (0 : Int32) := by rw [og, if_neg c23_107, if_neg c30_111, if_neg c37_112, if_neg c44_113, if_neg c51_114]
                    rw [e_J] at J
                    exact J _ X104
        intro T115 X116
        show Go p e below s _ _ _ _ _ T115 (mkF m 59 #[.val (.ref a), .val (.int (2 : Int32)), .val (.int to), .val (.int (og x2)), .val (.int (3 : Int32)), .val (.int x3)] [(.int (og x3))])
        refine gistoreN B X116 d3_59 (Ls' := #[.val (.ref a), .val (.int (2 : Int32)), .val (.int to), .val (.int (og x3)), .val (.int (3 : Int32)), .val (.int x3)]) rfl (pc' := 60) rfl ?_
        refine giinc B X116 d3_60 rfl (v := (4 : Int32)) (by decide) (Ls' := #[.val (.ref a), .val (.int (2 : Int32)), .val (.int to), .val (.int (og x3)), .val (.int (4 : Int32)), .val (.int x3)]) rfl (pc' := 63) rfl ?_
        refine ggoto B X116 (pc' := 5) d3_63 (by decide) ?_
        refine giload B X116 d3_5 rfl (pc' := 7) rfl ?_
        refine giloadN B X116 d3_7 rfl (pc' := 8) rfl ?_
        have c8_117 : ¬ ((4 : Int32) < to) := ht
        refine gicY B X116 (pc' := 66) d3_8 (flt c8_117).2.1 (by decide) ?_
        refine giloadN B X116 d3_66 rfl (pc' := 67) rfl ?_
        exact gretN B X116 (z' := (og x3)) (by simp) (own_g01 _) d3_67 (by decide) (by decide) (⟨by rw [f3_2, if_pos c8_93, if_pos c8_105, if_pos c12_106], rfl⟩)
      · refine gifY B X104 (pc' := 66) d3_12 ((if0 _ _).trans (feq c12_106).2) (by decide) ?_
        refine giloadN B X104 d3_66 rfl (pc' := 67) rfl ?_
        exact gretN B X104 (z' := (og x2)) (by simp) (own_g01 _) d3_67 (by decide) (by decide) (⟨by rw [f3_2, if_pos c8_93, if_pos c8_105, if_neg c12_106], rfl⟩)
    · refine gicY B X104 (pc' := 66) d3_8 (flt c8_105).2.1 (by decide) ?_
      refine giloadN B X104 d3_66 rfl (pc' := 67) rfl ?_
      exact gretN B X104 (z' := (og x2)) (by simp) (own_g01 _) d3_67 (by decide) (by decide) (⟨by rw [f3_2, if_pos c8_93, if_neg c8_105], rfl⟩)
  · refine gicY B X (pc' := 66) d3_8 (flt c8_93).2.1 (by decide) ?_
    refine giloadN B X d3_66 rfl (pc' := 67) rfl ?_
    exact gretN B X (z' := (0 : Int32)) (by simp) (rfl) d3_67 (by decide) (by decide) (⟨by rw [f3_2, if_neg c8_93], rfl⟩)
def f3_3 (to : Int32) (x0 : Int32) (x1 : Int32) (x2 : Int32) (x3 : Int32) : Int32 := if (3 : Int32) < to then (og x3) else ((0 : Int32))
set_option maxRecDepth 65536 in
set_option maxHeartbeats 4000000 in
theorem mt3_3 (l : Launch) (Z : State) (a0 : Array Value) (hw : ∀ d ∈ tables_1, d.before a0 Z = true) (a : Addr) (to : Int32) (x0 x1 x2 x3 : Int32) (h0 : Heap) (F : VA Z h0 a .byte [.int x0, .int x1, .int x2, .int x3]) (ht : ¬ (4 : Int32) < to) : Meth l Z (⟨"com/example/paycadence/paycadence/format/PrintedName", "mayEscape", "([BII)Z"⟩ : MethodName) prog_52_method_5_code 6 (some .boolean) rmr3 #[(.ref a), (.int (3 : Int32)), (.int to)] h0 [] (fun vr h' => vr = some (.int (f3_3 to x0 x1 x2 x3)) ∧ h' = h0) := by
  refine Meth.of pn3 ?_
  intro p e s m below meth c T B X
  refine Go.entry (ef3_RII m a (3 : Int32) to) ?_
  refine giconst B X d3_0 (v := (0 : Int32)) rfl (pc' := 1) rfl ?_
  refine gistoreN B X d3_1 (Ls' := #[.val (.ref a), .val (.int (3 : Int32)), .val (.int to), .val (.int (0 : Int32)), .unset, .unset]) rfl (pc' := 2) rfl ?_
  refine giloadN B X d3_2 rfl (pc' := 3) rfl ?_
  refine gistore B X d3_3 (Ls' := #[.val (.ref a), .val (.int (3 : Int32)), .val (.int to), .val (.int (0 : Int32)), .val (.int (3 : Int32)), .unset]) rfl (pc' := 5) rfl ?_
  refine giload B X d3_5 rfl (pc' := 7) rfl ?_
  refine giloadN B X d3_7 rfl (pc' := 8) rfl ?_
  by_cases c8_118 : (3 : Int32) < to
  · refine gicN B X d3_8 (tlt c8_118).2.1 (pc' := 11) rfl ?_
    refine giloadN B X d3_11 rfl (pc' := 12) rfl ?_
    have c12_119 : (0 : Int32) = (0 : Int32) := (by decide)
    refine gifN B X d3_12 ((if0 _ _).trans (teq c12_119).2) (pc' := 15) rfl ?_
    refine galoadN B X d3_15 rfl rfl (pc' := 16) rfl ?_
    refine giload B X d3_16 rfl (pc' := 18) rfl ?_
    refine gbaload B X (n := 4) F rfl (by decide) (v := (.int x3)) rfl d3_18 (pc' := 19) rfl ?_
    refine gistore B X d3_19 (Ls' := #[.val (.ref a), .val (.int (3 : Int32)), .val (.int to), .val (.int (0 : Int32)), .val (.int (3 : Int32)), .val (.int x3)]) rfl (pc' := 21) rfl ?_
    refine joinG B X (F := fun z => (mkF m 59 #[.val (.ref a), .val (.int (3 : Int32)), .val (.int to), .val (.int (0 : Int32)), .val (.int (3 : Int32)), .val (.int x3)] [(.int z)])) (r := (og x3)) (fun J => ?_) ?_
    · refine giload B X d3_21 rfl (pc' := 23) rfl ?_
      by_cases c23_120 : x3 < (0 : Int32)
      · refine gifY B X (pc' := 33) d3_23 ((if0 _ _).trans (tlt c23_120).1) (by decide) ?_
        refine giload B X d3_33 rfl (pc' := 35) rfl ?_
        refine gbipush B X d3_35 (v := (127 : Int32)) rfl (pc' := 37) rfl ?_
        by_cases c37_121 : x3 = (127 : Int32)
        · refine gicY B X (pc' := 54) d3_37 (teq c37_121).1 (by decide) ?_
          refine giconst B X d3_54 (v := (1 : Int32)) rfl (pc' := 55) rfl ?_
          refine ggoto B X (pc' := 59) d3_55 (by decide) ?_
          have e_J : (og x3) = (1 : Int32) := by rw [og, if_pos c23_120, if_pos c37_121]
          rw [e_J] at J
          exact J _ X
        · refine gicN B X d3_37 (feq c37_121).1 (pc' := 40) rfl ?_
          refine giload B X d3_40 rfl (pc' := 42) rfl ?_
          refine gbipush B X d3_42 (v := (-62 : Int32)) rfl (pc' := 44) rfl ?_
          by_cases c44_122 : x3 = (-62 : Int32)
          · refine gicY B X (pc' := 54) d3_44 (teq c44_122).1 (by decide) ?_
            refine giconst B X d3_54 (v := (1 : Int32)) rfl (pc' := 55) rfl ?_
            refine ggoto B X (pc' := 59) d3_55 (by decide) ?_
            have e_J : (og x3) = (1 : Int32) := by rw [og, if_pos c23_120, if_neg c37_121, if_pos c44_122]
            rw [e_J] at J
            exact J _ X
          · refine gicN B X d3_44 (feq c44_122).1 (pc' := 47) rfl ?_
            refine giload B X d3_47 rfl (pc' := 49) rfl ?_
            refine gbipush B X d3_49 (v := (-30 : Int32)) rfl (pc' := 51) rfl ?_
            by_cases c51_123 : x3 = (-30 : Int32)
            · refine gicN B X d3_51 (teq c51_123).2 (pc' := 54) rfl ?_
              refine giconst B X d3_54 (v := (1 : Int32)) rfl (pc' := 55) rfl ?_
              refine ggoto B X (pc' := 59) d3_55 (by decide) ?_
              have e_J : (og x3) = (1 : Int32) := by rw [og, if_pos c23_120, if_neg c37_121, if_neg c44_122, if_pos c51_123]
              rw [e_J] at J
              exact J _ X
            · refine gicY B X (pc' := 58) d3_51 (feq c51_123).2 (by decide) ?_
              refine giconst B X d3_58 (v := (0 : Int32)) rfl (pc' := 59) rfl ?_
              have e_J : (og x3) = (0 : Int32) := by rw [og, if_pos c23_120, if_neg c37_121, if_neg c44_122, if_neg c51_123]
              rw [e_J] at J
              exact J _ X
      · refine gifN B X d3_23 ((if0 _ _).trans (flt c23_120).1) (pc' := 26) rfl ?_
        refine giload B X d3_26 rfl (pc' := 28) rfl ?_
        refine gbipush B X d3_28 (v := (32 : Int32)) rfl (pc' := 30) rfl ?_
        by_cases c30_124 : x3 < (32 : Int32)
        · refine gicY B X (pc' := 54) d3_30 (tlt c30_124).1 (by decide) ?_
          refine giconst B X d3_54 (v := (1 : Int32)) rfl (pc' := 55) rfl ?_
          refine ggoto B X (pc' := 59) d3_55 (by decide) ?_
          have e_J : (og x3) = (1 : Int32) := by rw [og, if_neg c23_120, if_pos c30_124]
          rw [e_J] at J
          exact J _ X
        · refine gicN B X d3_30 (flt c30_124).1 (pc' := 33) rfl ?_
          refine giload B X d3_33 rfl (pc' := 35) rfl ?_
          refine gbipush B X d3_35 (v := (127 : Int32)) rfl (pc' := 37) rfl ?_
          by_cases c37_125 : x3 = (127 : Int32)
          · refine gicY B X (pc' := 54) d3_37 (teq c37_125).1 (by decide) ?_
            refine giconst B X d3_54 (v := (1 : Int32)) rfl (pc' := 55) rfl ?_
            refine ggoto B X (pc' := 59) d3_55 (by decide) ?_
            have e_J : (og x3) = (1 : Int32) := by rw [og, if_neg c23_120, if_neg c30_124, if_pos c37_125]
            rw [e_J] at J
            exact J _ X
          · refine gicN B X d3_37 (feq c37_125).1 (pc' := 40) rfl ?_
            refine giload B X d3_40 rfl (pc' := 42) rfl ?_
            refine gbipush B X d3_42 (v := (-62 : Int32)) rfl (pc' := 44) rfl ?_
            by_cases c44_126 : x3 = (-62 : Int32)
            · refine gicY B X (pc' := 54) d3_44 (teq c44_126).1 (by decide) ?_
              refine giconst B X d3_54 (v := (1 : Int32)) rfl (pc' := 55) rfl ?_
              refine ggoto B X (pc' := 59) d3_55 (by decide) ?_
              have e_J : (og x3) = (1 : Int32) := by rw [og, if_neg c23_120, if_neg c30_124, if_neg c37_125, if_pos c44_126]
              rw [e_J] at J
              exact J _ X
            · refine gicN B X d3_44 (feq c44_126).1 (pc' := 47) rfl ?_
              refine giload B X d3_47 rfl (pc' := 49) rfl ?_
              refine gbipush B X d3_49 (v := (-30 : Int32)) rfl (pc' := 51) rfl ?_
              by_cases c51_127 : x3 = (-30 : Int32)
              · refine gicN B X d3_51 (teq c51_127).2 (pc' := 54) rfl ?_
                refine giconst B X d3_54 (v := (1 : Int32)) rfl (pc' := 55) rfl ?_
                refine ggoto B X (pc' := 59) d3_55 (by decide) ?_
                have e_J : (og x3) = (1 : Int32) := by rw [og, if_neg c23_120, if_neg c30_124, if_neg c37_125, if_neg c44_126, if_pos c51_127]
                rw [e_J] at J
                exact J _ X
              · refine gicY B X (pc' := 58) d3_51 (feq c51_127).2 (by decide) ?_
                refine giconst B X d3_58 (v := (0 : Int32)) rfl (pc' := 59) rfl ?_
                have e_J : (og x3) = (0 : Int32) := by rw [og, if_neg c23_120, if_neg c30_124, if_neg c37_125, if_neg c44_126, if_neg c51_127]
                rw [e_J] at J
                exact J _ X
    intro T128 X129
    show Go p e below s _ _ _ _ _ T128 (mkF m 59 #[.val (.ref a), .val (.int (3 : Int32)), .val (.int to), .val (.int (0 : Int32)), .val (.int (3 : Int32)), .val (.int x3)] [(.int (og x3))])
    refine gistoreN B X129 d3_59 (Ls' := #[.val (.ref a), .val (.int (3 : Int32)), .val (.int to), .val (.int (og x3)), .val (.int (3 : Int32)), .val (.int x3)]) rfl (pc' := 60) rfl ?_
    refine giinc B X129 d3_60 rfl (v := (4 : Int32)) (by decide) (Ls' := #[.val (.ref a), .val (.int (3 : Int32)), .val (.int to), .val (.int (og x3)), .val (.int (4 : Int32)), .val (.int x3)]) rfl (pc' := 63) rfl ?_
    refine ggoto B X129 (pc' := 5) d3_63 (by decide) ?_
    refine giload B X129 d3_5 rfl (pc' := 7) rfl ?_
    refine giloadN B X129 d3_7 rfl (pc' := 8) rfl ?_
    have c8_130 : ¬ ((4 : Int32) < to) := ht
    refine gicY B X129 (pc' := 66) d3_8 (flt c8_130).2.1 (by decide) ?_
    refine giloadN B X129 d3_66 rfl (pc' := 67) rfl ?_
    exact gretN B X129 (z' := (og x3)) (by simp) (own_g01 _) d3_67 (by decide) (by decide) (⟨by rw [f3_3, if_pos c8_118], rfl⟩)
  · refine gicY B X (pc' := 66) d3_8 (flt c8_118).2.1 (by decide) ?_
    refine giloadN B X d3_66 rfl (pc' := 67) rfl ?_
    exact gretN B X (z' := (0 : Int32)) (by simp) (rfl) d3_67 (by decide) (by decide) (⟨by rw [f3_3, if_neg c8_118], rfl⟩)
def f3_4 (to : Int32) (x0 : Int32) (x1 : Int32) (x2 : Int32) (x3 : Int32) : Int32 := (0 : Int32)
set_option maxRecDepth 65536 in
set_option maxHeartbeats 4000000 in
theorem mt3_4 (l : Launch) (Z : State) (a0 : Array Value) (hw : ∀ d ∈ tables_1, d.before a0 Z = true) (a : Addr) (to : Int32) (x0 x1 x2 x3 : Int32) (h0 : Heap) (F : VA Z h0 a .byte [.int x0, .int x1, .int x2, .int x3]) (ht : ¬ (4 : Int32) < to) : Meth l Z (⟨"com/example/paycadence/paycadence/format/PrintedName", "mayEscape", "([BII)Z"⟩ : MethodName) prog_52_method_5_code 6 (some .boolean) rmr3 #[(.ref a), (.int (4 : Int32)), (.int to)] h0 [] (fun vr h' => vr = some (.int (f3_4 to x0 x1 x2 x3)) ∧ h' = h0) := by
  refine Meth.of pn3 ?_
  intro p e s m below meth c T B X
  refine Go.entry (ef3_RII m a (4 : Int32) to) ?_
  refine giconst B X d3_0 (v := (0 : Int32)) rfl (pc' := 1) rfl ?_
  refine gistoreN B X d3_1 (Ls' := #[.val (.ref a), .val (.int (4 : Int32)), .val (.int to), .val (.int (0 : Int32)), .unset, .unset]) rfl (pc' := 2) rfl ?_
  refine giloadN B X d3_2 rfl (pc' := 3) rfl ?_
  refine gistore B X d3_3 (Ls' := #[.val (.ref a), .val (.int (4 : Int32)), .val (.int to), .val (.int (0 : Int32)), .val (.int (4 : Int32)), .unset]) rfl (pc' := 5) rfl ?_
  refine giload B X d3_5 rfl (pc' := 7) rfl ?_
  refine giloadN B X d3_7 rfl (pc' := 8) rfl ?_
  have c8_131 : ¬ ((4 : Int32) < to) := ht
  refine gicY B X (pc' := 66) d3_8 (flt c8_131).2.1 (by decide) ?_
  refine giloadN B X d3_66 rfl (pc' := 67) rfl ?_
  exact gretN B X (z' := (0 : Int32)) (by simp) (rfl) d3_67 (by decide) (by decide) (⟨rfl, rfl⟩)
theorem own_all : ∀ i : Fin 256, f2 (Int32.ofInt (i.1 : Int)) = og ((Int32.ofInt (i.1 : Int)).toInt8.toInt32) := by decide +kernel
theorem own_flag (p : Int32) : f2 p = og p.toInt8.toInt32 := by
  have h := c_mask p 255 8 (by decide) (by decide)
  have e1 : f2 p = f2 (p &&& 255) := by
    have : (p &&& 255) &&& 255 = p &&& 255 := by rw [Int32.and_assoc]; rfl
    unfold f2; rw [this]
  have e2 : p.toInt8.toInt32 = (p &&& 255).toInt8.toInt32 := by
    apply Int32.toInt_inj.mp
    have a := c_i2b p; have b := c_i2b (p &&& 255)
    rw [h] at b; omega
  have e3 : p &&& 255 = Int32.ofInt (((p.toInt % 256).toNat : Nat) : Int) := by
    rw [Int.toNat_of_nonneg (by omega)]; rw [← Int32.ofInt_toInt (p &&& 255), h]; rfl
  have := own_all ⟨(p.toInt % 256).toNat, by omega⟩
  simp only [← e3] at this
  rw [e1, this, ← e2]
theorem own_five (f : Int32) : (f &&& 2147483647) % 5 = 0 ∨ (f &&& 2147483647) % 5 = 1 ∨ (f &&& 2147483647) % 5 = 2 ∨ (f &&& 2147483647) % 5 = 3 ∨ (f &&& 2147483647) % 5 = 4 := by
  have h := c_mask f 2147483647 31 (by decide) (by decide)
  have h2 := (c_irem (f &&& 2147483647) 5 5 (by decide)).1 (by rw [h]; omega)
  simp only [← Int32.toInt_inj, h2, h, Int32.reduceToInt]; omega
theorem pn0 : plainFor (⟨"com/example/paycadence/paycadence/format/PrintedNameMayEscapePinLaw", "law", "(IIIIII)Z"⟩ : MethodName) = true := plainFor_of_name (by first | (simp [plainName, overriddenIn]; done) | decide +kernel)
theorem ef0_IIIIII (m : MethodId) (x0 : Int32) (x1 : Int32) (x2 : Int32) (x3 : Int32) (x4 : Int32) (x5 : Int32) : entryFrame m #[(.int x0), (.int x1), (.int x2), (.int x3), (.int x4), (.int x5)] 10 = mkF m 0 #[.val (.int x0), .val (.int x1), .val (.int x2), .val (.int x3), .val (.int x4), .val (.int x5), .unset, .unset, .unset, .unset] [] := by first | (simp [entryFrame, mkF, argsToLocals, Value.category]; done) | rfl
theorem pd__III_Z : parseMethodDescriptor "(III)Z" = some ⟨[.int, .int, .int], some .boolean⟩ := by decide +kernel
theorem pd__I_Z : parseMethodDescriptor "(I)Z" = some ⟨[.int], some .boolean⟩ := by decide +kernel
def oE (fr : Int32) (to : Int32) (u0 : Int32) (u1 : Int32) (u2 : Int32) (u3 : Int32) : Int32 := if (f1 (0 : Int32) fr to) = (0 : Int32) then (if (f1 (1 : Int32) fr to) = (0 : Int32) then (if (f1 (2 : Int32) fr to) = (0 : Int32) then (if (f1 (3 : Int32) fr to) = (0 : Int32) then (0 : Int32) else (if (f2 u3) = (0 : Int32) then (0 : Int32) else ((1 : Int32)))) else (if (f2 u2) = (0 : Int32) then (if (f1 (3 : Int32) fr to) = (0 : Int32) then (0 : Int32) else (if (f2 u3) = (0 : Int32) then (0 : Int32) else ((1 : Int32)))) else ((1 : Int32)))) else (if (f2 u1) = (0 : Int32) then (if (f1 (2 : Int32) fr to) = (0 : Int32) then (if (f1 (3 : Int32) fr to) = (0 : Int32) then (0 : Int32) else (if (f2 u3) = (0 : Int32) then (0 : Int32) else ((1 : Int32)))) else (if (f2 u2) = (0 : Int32) then (if (f1 (3 : Int32) fr to) = (0 : Int32) then (0 : Int32) else (if (f2 u3) = (0 : Int32) then (0 : Int32) else ((1 : Int32)))) else ((1 : Int32)))) else ((1 : Int32)))) else (if (f2 u0) = (0 : Int32) then (if (f1 (1 : Int32) fr to) = (0 : Int32) then (if (f1 (2 : Int32) fr to) = (0 : Int32) then (if (f1 (3 : Int32) fr to) = (0 : Int32) then (0 : Int32) else (if (f2 u3) = (0 : Int32) then (0 : Int32) else ((1 : Int32)))) else (if (f2 u2) = (0 : Int32) then (if (f1 (3 : Int32) fr to) = (0 : Int32) then (0 : Int32) else (if (f2 u3) = (0 : Int32) then (0 : Int32) else ((1 : Int32)))) else ((1 : Int32)))) else (if (f2 u1) = (0 : Int32) then (if (f1 (2 : Int32) fr to) = (0 : Int32) then (if (f1 (3 : Int32) fr to) = (0 : Int32) then (0 : Int32) else (if (f2 u3) = (0 : Int32) then (0 : Int32) else ((1 : Int32)))) else (if (f2 u2) = (0 : Int32) then (if (f1 (3 : Int32) fr to) = (0 : Int32) then (0 : Int32) else (if (f2 u3) = (0 : Int32) then (0 : Int32) else ((1 : Int32)))) else ((1 : Int32)))) else ((1 : Int32)))) else ((1 : Int32)))
theorem own_fin0 (to p0 p1 p2 p3 : Int32) (h : to = 0 ∨ to = 1 ∨ to = 2 ∨ to = 3 ∨ to = 4) : f3_0 to p0.toInt8.toInt32 p1.toInt8.toInt32 p2.toInt8.toInt32 p3.toInt8.toInt32 = oE 0 to p0 p1 p2 p3 := by
  unfold f3_0 oE
  rw [own_flag p0, own_flag p1, own_flag p2, own_flag p3]
  have q0 := own_g2 p0.toInt8.toInt32; have q1 := own_g2 p1.toInt8.toInt32; have q2 := own_g2 p2.toInt8.toInt32; have q3 := own_g2 p3.toInt8.toInt32
  generalize og p0.toInt8.toInt32 = y0 at *
  generalize og p1.toInt8.toInt32 = y1 at *
  generalize og p2.toInt8.toInt32 = y2 at *
  generalize og p3.toInt8.toInt32 = y3 at *
  rcases h with rfl | rfl | rfl | rfl | rfl <;> rcases q0 with rfl | rfl <;> rcases q1 with rfl | rfl <;> rcases q2 with rfl | rfl <;> rcases q3 with rfl | rfl <;> decide +kernel
theorem own_fin1 (to p0 p1 p2 p3 : Int32) (h : to = 0 ∨ to = 1 ∨ to = 2 ∨ to = 3 ∨ to = 4) : f3_1 to p0.toInt8.toInt32 p1.toInt8.toInt32 p2.toInt8.toInt32 p3.toInt8.toInt32 = oE 1 to p0 p1 p2 p3 := by
  unfold f3_1 oE
  rw [own_flag p0, own_flag p1, own_flag p2, own_flag p3]
  have q0 := own_g2 p0.toInt8.toInt32; have q1 := own_g2 p1.toInt8.toInt32; have q2 := own_g2 p2.toInt8.toInt32; have q3 := own_g2 p3.toInt8.toInt32
  generalize og p0.toInt8.toInt32 = y0 at *
  generalize og p1.toInt8.toInt32 = y1 at *
  generalize og p2.toInt8.toInt32 = y2 at *
  generalize og p3.toInt8.toInt32 = y3 at *
  rcases h with rfl | rfl | rfl | rfl | rfl <;> rcases q0 with rfl | rfl <;> rcases q1 with rfl | rfl <;> rcases q2 with rfl | rfl <;> rcases q3 with rfl | rfl <;> decide +kernel
theorem own_fin2 (to p0 p1 p2 p3 : Int32) (h : to = 0 ∨ to = 1 ∨ to = 2 ∨ to = 3 ∨ to = 4) : f3_2 to p0.toInt8.toInt32 p1.toInt8.toInt32 p2.toInt8.toInt32 p3.toInt8.toInt32 = oE 2 to p0 p1 p2 p3 := by
  unfold f3_2 oE
  rw [own_flag p0, own_flag p1, own_flag p2, own_flag p3]
  have q0 := own_g2 p0.toInt8.toInt32; have q1 := own_g2 p1.toInt8.toInt32; have q2 := own_g2 p2.toInt8.toInt32; have q3 := own_g2 p3.toInt8.toInt32
  generalize og p0.toInt8.toInt32 = y0 at *
  generalize og p1.toInt8.toInt32 = y1 at *
  generalize og p2.toInt8.toInt32 = y2 at *
  generalize og p3.toInt8.toInt32 = y3 at *
  rcases h with rfl | rfl | rfl | rfl | rfl <;> rcases q0 with rfl | rfl <;> rcases q1 with rfl | rfl <;> rcases q2 with rfl | rfl <;> rcases q3 with rfl | rfl <;> decide +kernel
theorem own_fin3 (to p0 p1 p2 p3 : Int32) (h : to = 0 ∨ to = 1 ∨ to = 2 ∨ to = 3 ∨ to = 4) : f3_3 to p0.toInt8.toInt32 p1.toInt8.toInt32 p2.toInt8.toInt32 p3.toInt8.toInt32 = oE 3 to p0 p1 p2 p3 := by
  unfold f3_3 oE
  rw [own_flag p0, own_flag p1, own_flag p2, own_flag p3]
  have q0 := own_g2 p0.toInt8.toInt32; have q1 := own_g2 p1.toInt8.toInt32; have q2 := own_g2 p2.toInt8.toInt32; have q3 := own_g2 p3.toInt8.toInt32
  generalize og p0.toInt8.toInt32 = y0 at *
  generalize og p1.toInt8.toInt32 = y1 at *
  generalize og p2.toInt8.toInt32 = y2 at *
  generalize og p3.toInt8.toInt32 = y3 at *
  rcases h with rfl | rfl | rfl | rfl | rfl <;> rcases q0 with rfl | rfl <;> rcases q1 with rfl | rfl <;> rcases q2 with rfl | rfl <;> rcases q3 with rfl | rfl <;> decide +kernel
theorem own_fin4 (to p0 p1 p2 p3 : Int32) (h : to = 0 ∨ to = 1 ∨ to = 2 ∨ to = 3 ∨ to = 4) : f3_4 to p0.toInt8.toInt32 p1.toInt8.toInt32 p2.toInt8.toInt32 p3.toInt8.toInt32 = oE 4 to p0 p1 p2 p3 := by
  unfold f3_4 oE
  rw [own_flag p0, own_flag p1, own_flag p2, own_flag p3]
  have q0 := own_g2 p0.toInt8.toInt32; have q1 := own_g2 p1.toInt8.toInt32; have q2 := own_g2 p2.toInt8.toInt32; have q3 := own_g2 p3.toInt8.toInt32
  generalize og p0.toInt8.toInt32 = y0 at *
  generalize og p1.toInt8.toInt32 = y1 at *
  generalize og p2.toInt8.toInt32 = y2 at *
  generalize og p3.toInt8.toInt32 = y3 at *
  rcases h with rfl | rfl | rfl | rfl | rfl <;> rcases q0 with rfl | rfl <;> rcases q1 with rfl | rfl <;> rcases q2 with rfl | rfl <;> rcases q3 with rfl | rfl <;> decide +kernel
theorem pd___BII_Z : parseMethodDescriptor "([BII)Z" = some ⟨[(.array .byte), .int, .int], some .boolean⟩ := by decide +kernel
set_option maxRecDepth 65536 in
set_option maxHeartbeats 4000000 in
theorem mt0 (l : Launch) (Z : State) (a0 : Array Value) (hw : ∀ d ∈ tables_1, d.before a0 Z = true) (p0 : Int32) (p1 : Int32) (p2 : Int32) (p3 : Int32) (p4 : Int32) (p5 : Int32) (h0 : Heap) : Meth l Z x code maxLocals ret room_1 #[(.int p0), (.int p1), (.int p2), (.int p3), (.int p4), (.int p5)] h0 [] (fun v h' => v = some (.int 1)) := by
  refine Meth.of pn0 ?_
  intro p e s m below meth c T B X
  have B : Fix p Z s m meth c code 10 "com/example/paycadence/paycadence/format/PrintedNameMayEscapePinLaw" "law" (some .boolean) := B
  refine Go.entry (ef0_IIIIII m p0 p1 p2 p3 p4 p5) ?_
  refine giconst B X at_0 (v := (4 : Int32)) rfl (pc' := 1) rfl ?_
  refine gnewarray B X (cap := 4) (vs := [(.int (0 : Int32)), (.int (0 : Int32)), (.int (0 : Int32)), (.int (0 : Int32))]) (ty := .byte) rfl rfl (hw _ (List.mem_of_getElem? (i := 0) rfl)) (by decide) (by decide) (by decide) (by decide) (by decide) at_1 (pc' := 3) rfl fun T132 h133 a134 X135 q136 E137 z_a134 A138 => ?_
  refine gdup B X135 at_3 rfl (pc' := 4) rfl ?_
  refine giconst B X135 at_4 (v := (0 : Int32)) rfl (pc' := 5) rfl ?_
  refine giloadN B X135 at_5 rfl (pc' := 6) rfl ?_
  refine gi2b B X135 at_6 rfl (pc' := 7) rfl ?_
  refine gbastore B X135 (i := 0) (n := 4) A138 rfl (by decide) rfl (vs' := [(.int p0.toInt8.toInt32), (.int (0 : Int32)), (.int (0 : Int32)), (.int (0 : Int32))]) (by rw [Jvm.OwnKit.nbb]; rfl) (Or.inr z_a134) at_7 (pc' := 8) rfl fun T139 h140 X141 W142 A143 => ?_
  refine gdup B X141 at_8 rfl (pc' := 9) rfl ?_
  refine giconst B X141 at_9 (v := (1 : Int32)) rfl (pc' := 10) rfl ?_
  refine giloadN B X141 at_10 rfl (pc' := 11) rfl ?_
  refine gi2b B X141 at_11 rfl (pc' := 12) rfl ?_
  refine gbastore B X141 (i := 1) (n := 4) A143 rfl (by decide) rfl (vs' := [(.int p0.toInt8.toInt32), (.int p1.toInt8.toInt32), (.int (0 : Int32)), (.int (0 : Int32))]) (by rw [Jvm.OwnKit.nbb]; rfl) (Or.inr z_a134) at_12 (pc' := 13) rfl fun T144 h145 X146 W147 A148 => ?_
  refine gdup B X146 at_13 rfl (pc' := 14) rfl ?_
  refine giconst B X146 at_14 (v := (2 : Int32)) rfl (pc' := 15) rfl ?_
  refine giloadN B X146 at_15 rfl (pc' := 16) rfl ?_
  refine gi2b B X146 at_16 rfl (pc' := 17) rfl ?_
  refine gbastore B X146 (i := 2) (n := 4) A148 rfl (by decide) rfl (vs' := [(.int p0.toInt8.toInt32), (.int p1.toInt8.toInt32), (.int p2.toInt8.toInt32), (.int (0 : Int32))]) (by rw [Jvm.OwnKit.nbb]; rfl) (Or.inr z_a134) at_17 (pc' := 18) rfl fun T149 h150 X151 W152 A153 => ?_
  refine gdup B X151 at_18 rfl (pc' := 19) rfl ?_
  refine giconst B X151 at_19 (v := (3 : Int32)) rfl (pc' := 20) rfl ?_
  refine giloadN B X151 at_20 rfl (pc' := 21) rfl ?_
  refine gi2b B X151 at_21 rfl (pc' := 22) rfl ?_
  refine gbastore B X151 (i := 3) (n := 4) A153 rfl (by decide) rfl (vs' := [(.int p0.toInt8.toInt32), (.int p1.toInt8.toInt32), (.int p2.toInt8.toInt32), (.int p3.toInt8.toInt32)]) (by rw [Jvm.OwnKit.nbb]; rfl) (Or.inr z_a134) at_22 (pc' := 23) rfl fun T154 h155 X156 W157 A158 => ?_
  refine gastore B X156 at_23 rfl (Ls' := #[.val (.int p0), .val (.int p1), .val (.int p2), .val (.int p3), .val (.int p4), .val (.int p5), .val (.ref a134), .unset, .unset, .unset]) rfl (pc' := 25) rfl ?_
  refine giload B X156 at_25 rfl (pc' := 27) rfl ?_
  refine gldc B X156 (v := (2147483647 : Int32)) (hw _ (List.mem_of_getElem? (i := 1) rfl)) at_27 (pc' := 29) rfl ?_
  refine giand B X156 at_29 rfl (pc' := 30) rfl ?_
  refine giconst B X156 at_30 (v := (5 : Int32)) rfl (pc' := 31) rfl ?_
  refine girem B X156 at_31 (by decide) rfl (pc' := 32) rfl ?_
  generalize e_qfr : ((p4 &&& (2147483647 : Int32)) % (5 : Int32)) = qfr
  refine gistore B X156 at_32 (Ls' := #[.val (.int p0), .val (.int p1), .val (.int p2), .val (.int p3), .val (.int p4), .val (.int p5), .val (.ref a134), .val (.int qfr), .unset, .unset]) rfl (pc' := 34) rfl ?_
  have h4 := own_five p4; rw [e_qfr] at h4; clear e_qfr
  refine giload B X156 at_34 rfl (pc' := 36) rfl ?_
  refine gldc B X156 (v := (2147483647 : Int32)) (hw _ (List.mem_of_getElem? (i := 1) rfl)) at_36 (pc' := 38) rfl ?_
  refine giand B X156 at_38 rfl (pc' := 39) rfl ?_
  refine giconst B X156 at_39 (v := (5 : Int32)) rfl (pc' := 40) rfl ?_
  refine girem B X156 at_40 (by decide) rfl (pc' := 41) rfl ?_
  generalize e_qto : ((p5 &&& (2147483647 : Int32)) % (5 : Int32)) = qto
  refine gistore B X156 at_41 (Ls' := #[.val (.int p0), .val (.int p1), .val (.int p2), .val (.int p3), .val (.int p4), .val (.int p5), .val (.ref a134), .val (.int qfr), .val (.int qto), .unset]) rfl (pc' := 43) rfl ?_
  have h5 := own_five p5; rw [e_qto] at h5; clear e_qto
  have ht4 : ¬ (4 : Int32) < qto := by rcases h5 with rfl | rfl | rfl | rfl | rfl <;> decide
  refine joinG B X156 (F := fun z => (mkF m 120 #[.val (.int p0), .val (.int p1), .val (.int p2), .val (.int p3), .val (.int p4), .val (.int p5), .val (.ref a134), .val (.int qfr), .val (.int qto), .unset] [(.int z)])) (r := (oE qfr qto p0 p1 p2 p3)) (fun J => ?_) ?_
  · refine giconst B X156 at_43 (v := (0 : Int32)) rfl (pc' := 44) rfl ?_
    refine giload B X156 at_44 rfl (pc' := 46) rfl ?_
    refine giload B X156 at_46 rfl (pc' := 48) rfl ?_
    refine gcallS B X156 (hw _ (List.mem_of_getElem? (i := 2) rfl)) (hw _ (List.mem_of_getElem? (i := 3) rfl)) (hw _ (List.mem_of_getElem? (i := 4) rfl)) (hw _ (List.mem_of_getElem? (i := 5) rfl)) (by decide) (mt1 l Z a0 hw (0 : Int32) qfr qto  h155 ) pd__III_Z rfl (argsL := [(.int (0 : Int32)), (.int qfr), (.int qto)]) (st := []) rfl rfl (W := 0) (Nat.le_of_eq rfl) (by decide) (by decide) (by decide) (by decide) (fun x q => nomatch q) at_48 rfl (pureG rfl rfl fun T159 X160 => ?_)
    by_cases c51_161 : (f1 (0 : Int32) qfr qto) = (0 : Int32)
    · refine gifY B X160 (pc' := 61) at_51 ((if0 _ _).trans (teq c51_161).1) (by decide) ?_
      refine giconst B X160 at_61 (v := (1 : Int32)) rfl (pc' := 62) rfl ?_
      refine giload B X160 at_62 rfl (pc' := 64) rfl ?_
      refine giload B X160 at_64 rfl (pc' := 66) rfl ?_
      refine gcallS B X160 (hw _ (List.mem_of_getElem? (i := 2) rfl)) (hw _ (List.mem_of_getElem? (i := 3) rfl)) (hw _ (List.mem_of_getElem? (i := 4) rfl)) (hw _ (List.mem_of_getElem? (i := 5) rfl)) (by decide) (mt1 l Z a0 hw (1 : Int32) qfr qto  h155 ) pd__III_Z rfl (argsL := [(.int (1 : Int32)), (.int qfr), (.int qto)]) (st := []) rfl rfl (W := 0) (Nat.le_of_eq rfl) (by decide) (by decide) (by decide) (by decide) (fun x q => nomatch q) at_66 rfl (pureG rfl rfl fun T162 X163 => ?_)
      by_cases c69_164 : (f1 (1 : Int32) qfr qto) = (0 : Int32)
      · refine gifY B X163 (pc' := 79) at_69 ((if0 _ _).trans (teq c69_164).1) (by decide) ?_
        refine giconst B X163 at_79 (v := (2 : Int32)) rfl (pc' := 80) rfl ?_
        refine giload B X163 at_80 rfl (pc' := 82) rfl ?_
        refine giload B X163 at_82 rfl (pc' := 84) rfl ?_
        refine gcallS B X163 (hw _ (List.mem_of_getElem? (i := 2) rfl)) (hw _ (List.mem_of_getElem? (i := 3) rfl)) (hw _ (List.mem_of_getElem? (i := 4) rfl)) (hw _ (List.mem_of_getElem? (i := 5) rfl)) (by decide) (mt1 l Z a0 hw (2 : Int32) qfr qto  h155 ) pd__III_Z rfl (argsL := [(.int (2 : Int32)), (.int qfr), (.int qto)]) (st := []) rfl rfl (W := 0) (Nat.le_of_eq rfl) (by decide) (by decide) (by decide) (by decide) (fun x q => nomatch q) at_84 rfl (pureG rfl rfl fun T165 X166 => ?_)
        by_cases c87_167 : (f1 (2 : Int32) qfr qto) = (0 : Int32)
        · refine gifY B X166 (pc' := 97) at_87 ((if0 _ _).trans (teq c87_167).1) (by decide) ?_
          refine giconst B X166 at_97 (v := (3 : Int32)) rfl (pc' := 98) rfl ?_
          refine giload B X166 at_98 rfl (pc' := 100) rfl ?_
          refine giload B X166 at_100 rfl (pc' := 102) rfl ?_
          refine gcallS B X166 (hw _ (List.mem_of_getElem? (i := 2) rfl)) (hw _ (List.mem_of_getElem? (i := 3) rfl)) (hw _ (List.mem_of_getElem? (i := 4) rfl)) (hw _ (List.mem_of_getElem? (i := 5) rfl)) (by decide) (mt1 l Z a0 hw (3 : Int32) qfr qto  h155 ) pd__III_Z rfl (argsL := [(.int (3 : Int32)), (.int qfr), (.int qto)]) (st := []) rfl rfl (W := 0) (Nat.le_of_eq rfl) (by decide) (by decide) (by decide) (by decide) (fun x q => nomatch q) at_102 rfl (pureG rfl rfl fun T168 X169 => ?_)
          by_cases c105_170 : (f1 (3 : Int32) qfr qto) = (0 : Int32)
          · refine gifY B X169 (pc' := 119) at_105 ((if0 _ _).trans (teq c105_170).1) (by decide) ?_
            refine giconst B X169 at_119 (v := (0 : Int32)) rfl (pc' := 120) rfl ?_
            have e_J : (oE qfr qto p0 p1 p2 p3) = (0 : Int32) := by rw [oE, if_pos c51_161, if_pos c69_164, if_pos c87_167, if_pos c105_170]
            rw [e_J] at J
            exact J _ X169
          · refine gifN B X169 at_105 ((if0 _ _).trans (feq c105_170).1) (pc' := 108) rfl ?_
            refine giloadN B X169 at_108 rfl (pc' := 109) rfl ?_
            refine gcallS B X169 (hw _ (List.mem_of_getElem? (i := 6) rfl)) (hw _ (List.mem_of_getElem? (i := 7) rfl)) (hw _ (List.mem_of_getElem? (i := 4) rfl)) (hw _ (List.mem_of_getElem? (i := 8) rfl)) (by decide) (mt2 l Z a0 hw p3  h155 ) pd__I_Z rfl (argsL := [(.int p3)]) (st := []) rfl rfl (W := 0) (Nat.le_of_eq rfl) (by decide) (by decide) (by decide) (by decide) (fun x q => nomatch q) at_109 rfl (pureG rfl rfl fun T171 X172 => ?_)
            by_cases c112_173 : (f2 p3) = (0 : Int32)
            · refine gifY B X172 (pc' := 119) at_112 ((if0 _ _).trans (teq c112_173).1) (by decide) ?_
              refine giconst B X172 at_119 (v := (0 : Int32)) rfl (pc' := 120) rfl ?_
              have e_J : (oE qfr qto p0 p1 p2 p3) = (0 : Int32) := by rw [oE, if_pos c51_161, if_pos c69_164, if_pos c87_167, if_neg c105_170, if_pos c112_173]
              rw [e_J] at J
              exact J _ X172
            · refine gifN B X172 at_112 ((if0 _ _).trans (feq c112_173).1) (pc' := 115) rfl ?_
              refine giconst B X172 at_115 (v := (1 : Int32)) rfl (pc' := 116) rfl ?_
              refine ggoto B X172 (pc' := 120) at_116 (by decide) ?_
              have e_J : (oE qfr qto p0 p1 p2 p3) = (1 : Int32) := by rw [oE, if_pos c51_161, if_pos c69_164, if_pos c87_167, if_neg c105_170, if_neg c112_173]
              rw [e_J] at J
              exact J _ X172
        · refine gifN B X166 at_87 ((if0 _ _).trans (feq c87_167).1) (pc' := 90) rfl ?_
          refine giloadN B X166 at_90 rfl (pc' := 91) rfl ?_
          refine gcallS B X166 (hw _ (List.mem_of_getElem? (i := 6) rfl)) (hw _ (List.mem_of_getElem? (i := 7) rfl)) (hw _ (List.mem_of_getElem? (i := 4) rfl)) (hw _ (List.mem_of_getElem? (i := 8) rfl)) (by decide) (mt2 l Z a0 hw p2  h155 ) pd__I_Z rfl (argsL := [(.int p2)]) (st := []) rfl rfl (W := 0) (Nat.le_of_eq rfl) (by decide) (by decide) (by decide) (by decide) (fun x q => nomatch q) at_91 rfl (pureG rfl rfl fun T174 X175 => ?_)
          by_cases c94_176 : (f2 p2) = (0 : Int32)
          · refine gifN B X175 at_94 ((if0 _ _).trans (teq c94_176).2) (pc' := 97) rfl ?_
            refine giconst B X175 at_97 (v := (3 : Int32)) rfl (pc' := 98) rfl ?_
            refine giload B X175 at_98 rfl (pc' := 100) rfl ?_
            refine giload B X175 at_100 rfl (pc' := 102) rfl ?_
            refine gcallS B X175 (hw _ (List.mem_of_getElem? (i := 2) rfl)) (hw _ (List.mem_of_getElem? (i := 3) rfl)) (hw _ (List.mem_of_getElem? (i := 4) rfl)) (hw _ (List.mem_of_getElem? (i := 5) rfl)) (by decide) (mt1 l Z a0 hw (3 : Int32) qfr qto  h155 ) pd__III_Z rfl (argsL := [(.int (3 : Int32)), (.int qfr), (.int qto)]) (st := []) rfl rfl (W := 0) (Nat.le_of_eq rfl) (by decide) (by decide) (by decide) (by decide) (fun x q => nomatch q) at_102 rfl (pureG rfl rfl fun T177 X178 => ?_)
            by_cases c105_179 : (f1 (3 : Int32) qfr qto) = (0 : Int32)
            · refine gifY B X178 (pc' := 119) at_105 ((if0 _ _).trans (teq c105_179).1) (by decide) ?_
              refine giconst B X178 at_119 (v := (0 : Int32)) rfl (pc' := 120) rfl ?_
              have e_J : (oE qfr qto p0 p1 p2 p3) = (0 : Int32) := by rw [oE, if_pos c51_161, if_pos c69_164, if_neg c87_167, if_pos c94_176, if_pos c105_179]
              rw [e_J] at J
              exact J _ X178
            · refine gifN B X178 at_105 ((if0 _ _).trans (feq c105_179).1) (pc' := 108) rfl ?_
              refine giloadN B X178 at_108 rfl (pc' := 109) rfl ?_
              refine gcallS B X178 (hw _ (List.mem_of_getElem? (i := 6) rfl)) (hw _ (List.mem_of_getElem? (i := 7) rfl)) (hw _ (List.mem_of_getElem? (i := 4) rfl)) (hw _ (List.mem_of_getElem? (i := 8) rfl)) (by decide) (mt2 l Z a0 hw p3  h155 ) pd__I_Z rfl (argsL := [(.int p3)]) (st := []) rfl rfl (W := 0) (Nat.le_of_eq rfl) (by decide) (by decide) (by decide) (by decide) (fun x q => nomatch q) at_109 rfl (pureG rfl rfl fun T180 X181 => ?_)
              by_cases c112_182 : (f2 p3) = (0 : Int32)
              · refine gifY B X181 (pc' := 119) at_112 ((if0 _ _).trans (teq c112_182).1) (by decide) ?_
                refine giconst B X181 at_119 (v := (0 : Int32)) rfl (pc' := 120) rfl ?_
                have e_J : (oE qfr qto p0 p1 p2 p3) = (0 : Int32) := by rw [oE, if_pos c51_161, if_pos c69_164, if_neg c87_167, if_pos c94_176, if_neg c105_179, if_pos c112_182]
                rw [e_J] at J
                exact J _ X181
              · refine gifN B X181 at_112 ((if0 _ _).trans (feq c112_182).1) (pc' := 115) rfl ?_
                refine giconst B X181 at_115 (v := (1 : Int32)) rfl (pc' := 116) rfl ?_
                refine ggoto B X181 (pc' := 120) at_116 (by decide) ?_
                have e_J : (oE qfr qto p0 p1 p2 p3) = (1 : Int32) := by rw [oE, if_pos c51_161, if_pos c69_164, if_neg c87_167, if_pos c94_176, if_neg c105_179, if_neg c112_182]
                rw [e_J] at J
                exact J _ X181
          · refine gifY B X175 (pc' := 115) at_94 ((if0 _ _).trans (feq c94_176).2) (by decide) ?_
            refine giconst B X175 at_115 (v := (1 : Int32)) rfl (pc' := 116) rfl ?_
            refine ggoto B X175 (pc' := 120) at_116 (by decide) ?_
            have e_J : (oE qfr qto p0 p1 p2 p3) = (1 : Int32) := by rw [oE, if_pos c51_161, if_pos c69_164, if_neg c87_167, if_neg c94_176]
            rw [e_J] at J
            exact J _ X175
      · refine gifN B X163 at_69 ((if0 _ _).trans (feq c69_164).1) (pc' := 72) rfl ?_
        refine giloadN B X163 at_72 rfl (pc' := 73) rfl ?_
        refine gcallS B X163 (hw _ (List.mem_of_getElem? (i := 6) rfl)) (hw _ (List.mem_of_getElem? (i := 7) rfl)) (hw _ (List.mem_of_getElem? (i := 4) rfl)) (hw _ (List.mem_of_getElem? (i := 8) rfl)) (by decide) (mt2 l Z a0 hw p1  h155 ) pd__I_Z rfl (argsL := [(.int p1)]) (st := []) rfl rfl (W := 0) (Nat.le_of_eq rfl) (by decide) (by decide) (by decide) (by decide) (fun x q => nomatch q) at_73 rfl (pureG rfl rfl fun T183 X184 => ?_)
        by_cases c76_185 : (f2 p1) = (0 : Int32)
        · refine gifN B X184 at_76 ((if0 _ _).trans (teq c76_185).2) (pc' := 79) rfl ?_
          refine giconst B X184 at_79 (v := (2 : Int32)) rfl (pc' := 80) rfl ?_
          refine giload B X184 at_80 rfl (pc' := 82) rfl ?_
          refine giload B X184 at_82 rfl (pc' := 84) rfl ?_
          refine gcallS B X184 (hw _ (List.mem_of_getElem? (i := 2) rfl)) (hw _ (List.mem_of_getElem? (i := 3) rfl)) (hw _ (List.mem_of_getElem? (i := 4) rfl)) (hw _ (List.mem_of_getElem? (i := 5) rfl)) (by decide) (mt1 l Z a0 hw (2 : Int32) qfr qto  h155 ) pd__III_Z rfl (argsL := [(.int (2 : Int32)), (.int qfr), (.int qto)]) (st := []) rfl rfl (W := 0) (Nat.le_of_eq rfl) (by decide) (by decide) (by decide) (by decide) (fun x q => nomatch q) at_84 rfl (pureG rfl rfl fun T186 X187 => ?_)
          by_cases c87_188 : (f1 (2 : Int32) qfr qto) = (0 : Int32)
          · refine gifY B X187 (pc' := 97) at_87 ((if0 _ _).trans (teq c87_188).1) (by decide) ?_
            refine giconst B X187 at_97 (v := (3 : Int32)) rfl (pc' := 98) rfl ?_
            refine giload B X187 at_98 rfl (pc' := 100) rfl ?_
            refine giload B X187 at_100 rfl (pc' := 102) rfl ?_
            refine gcallS B X187 (hw _ (List.mem_of_getElem? (i := 2) rfl)) (hw _ (List.mem_of_getElem? (i := 3) rfl)) (hw _ (List.mem_of_getElem? (i := 4) rfl)) (hw _ (List.mem_of_getElem? (i := 5) rfl)) (by decide) (mt1 l Z a0 hw (3 : Int32) qfr qto  h155 ) pd__III_Z rfl (argsL := [(.int (3 : Int32)), (.int qfr), (.int qto)]) (st := []) rfl rfl (W := 0) (Nat.le_of_eq rfl) (by decide) (by decide) (by decide) (by decide) (fun x q => nomatch q) at_102 rfl (pureG rfl rfl fun T189 X190 => ?_)
            by_cases c105_191 : (f1 (3 : Int32) qfr qto) = (0 : Int32)
            · refine gifY B X190 (pc' := 119) at_105 ((if0 _ _).trans (teq c105_191).1) (by decide) ?_
              refine giconst B X190 at_119 (v := (0 : Int32)) rfl (pc' := 120) rfl ?_
              have e_J : (oE qfr qto p0 p1 p2 p3) = (0 : Int32) := by rw [oE, if_pos c51_161, if_neg c69_164, if_pos c76_185, if_pos c87_188, if_pos c105_191]
              rw [e_J] at J
              exact J _ X190
            · refine gifN B X190 at_105 ((if0 _ _).trans (feq c105_191).1) (pc' := 108) rfl ?_
              refine giloadN B X190 at_108 rfl (pc' := 109) rfl ?_
              refine gcallS B X190 (hw _ (List.mem_of_getElem? (i := 6) rfl)) (hw _ (List.mem_of_getElem? (i := 7) rfl)) (hw _ (List.mem_of_getElem? (i := 4) rfl)) (hw _ (List.mem_of_getElem? (i := 8) rfl)) (by decide) (mt2 l Z a0 hw p3  h155 ) pd__I_Z rfl (argsL := [(.int p3)]) (st := []) rfl rfl (W := 0) (Nat.le_of_eq rfl) (by decide) (by decide) (by decide) (by decide) (fun x q => nomatch q) at_109 rfl (pureG rfl rfl fun T192 X193 => ?_)
              by_cases c112_194 : (f2 p3) = (0 : Int32)
              · refine gifY B X193 (pc' := 119) at_112 ((if0 _ _).trans (teq c112_194).1) (by decide) ?_
                refine giconst B X193 at_119 (v := (0 : Int32)) rfl (pc' := 120) rfl ?_
                have e_J : (oE qfr qto p0 p1 p2 p3) = (0 : Int32) := by rw [oE, if_pos c51_161, if_neg c69_164, if_pos c76_185, if_pos c87_188, if_neg c105_191, if_pos c112_194]
                rw [e_J] at J
                exact J _ X193
              · refine gifN B X193 at_112 ((if0 _ _).trans (feq c112_194).1) (pc' := 115) rfl ?_
                refine giconst B X193 at_115 (v := (1 : Int32)) rfl (pc' := 116) rfl ?_
                refine ggoto B X193 (pc' := 120) at_116 (by decide) ?_
                have e_J : (oE qfr qto p0 p1 p2 p3) = (1 : Int32) := by rw [oE, if_pos c51_161, if_neg c69_164, if_pos c76_185, if_pos c87_188, if_neg c105_191, if_neg c112_194]
                rw [e_J] at J
                exact J _ X193
          · refine gifN B X187 at_87 ((if0 _ _).trans (feq c87_188).1) (pc' := 90) rfl ?_
            refine giloadN B X187 at_90 rfl (pc' := 91) rfl ?_
            refine gcallS B X187 (hw _ (List.mem_of_getElem? (i := 6) rfl)) (hw _ (List.mem_of_getElem? (i := 7) rfl)) (hw _ (List.mem_of_getElem? (i := 4) rfl)) (hw _ (List.mem_of_getElem? (i := 8) rfl)) (by decide) (mt2 l Z a0 hw p2  h155 ) pd__I_Z rfl (argsL := [(.int p2)]) (st := []) rfl rfl (W := 0) (Nat.le_of_eq rfl) (by decide) (by decide) (by decide) (by decide) (fun x q => nomatch q) at_91 rfl (pureG rfl rfl fun T195 X196 => ?_)
            by_cases c94_197 : (f2 p2) = (0 : Int32)
            · refine gifN B X196 at_94 ((if0 _ _).trans (teq c94_197).2) (pc' := 97) rfl ?_
              refine giconst B X196 at_97 (v := (3 : Int32)) rfl (pc' := 98) rfl ?_
              refine giload B X196 at_98 rfl (pc' := 100) rfl ?_
              refine giload B X196 at_100 rfl (pc' := 102) rfl ?_
              refine gcallS B X196 (hw _ (List.mem_of_getElem? (i := 2) rfl)) (hw _ (List.mem_of_getElem? (i := 3) rfl)) (hw _ (List.mem_of_getElem? (i := 4) rfl)) (hw _ (List.mem_of_getElem? (i := 5) rfl)) (by decide) (mt1 l Z a0 hw (3 : Int32) qfr qto  h155 ) pd__III_Z rfl (argsL := [(.int (3 : Int32)), (.int qfr), (.int qto)]) (st := []) rfl rfl (W := 0) (Nat.le_of_eq rfl) (by decide) (by decide) (by decide) (by decide) (fun x q => nomatch q) at_102 rfl (pureG rfl rfl fun T198 X199 => ?_)
              by_cases c105_200 : (f1 (3 : Int32) qfr qto) = (0 : Int32)
              · refine gifY B X199 (pc' := 119) at_105 ((if0 _ _).trans (teq c105_200).1) (by decide) ?_
                refine giconst B X199 at_119 (v := (0 : Int32)) rfl (pc' := 120) rfl ?_
                have e_J : (oE qfr qto p0 p1 p2 p3) = (0 : Int32) := by rw [oE, if_pos c51_161, if_neg c69_164, if_pos c76_185, if_neg c87_188, if_pos c94_197, if_pos c105_200]
                rw [e_J] at J
                exact J _ X199
              · refine gifN B X199 at_105 ((if0 _ _).trans (feq c105_200).1) (pc' := 108) rfl ?_
                refine giloadN B X199 at_108 rfl (pc' := 109) rfl ?_
                refine gcallS B X199 (hw _ (List.mem_of_getElem? (i := 6) rfl)) (hw _ (List.mem_of_getElem? (i := 7) rfl)) (hw _ (List.mem_of_getElem? (i := 4) rfl)) (hw _ (List.mem_of_getElem? (i := 8) rfl)) (by decide) (mt2 l Z a0 hw p3  h155 ) pd__I_Z rfl (argsL := [(.int p3)]) (st := []) rfl rfl (W := 0) (Nat.le_of_eq rfl) (by decide) (by decide) (by decide) (by decide) (fun x q => nomatch q) at_109 rfl (pureG rfl rfl fun T201 X202 => ?_)
                by_cases c112_203 : (f2 p3) = (0 : Int32)
                · refine gifY B X202 (pc' := 119) at_112 ((if0 _ _).trans (teq c112_203).1) (by decide) ?_
                  refine giconst B X202 at_119 (v := (0 : Int32)) rfl (pc' := 120) rfl ?_
                  have e_J : (oE qfr qto p0 p1 p2 p3) = (0 : Int32) := by rw [oE, if_pos c51_161, if_neg c69_164, if_pos c76_185, if_neg c87_188, if_pos c94_197, if_neg c105_200, if_pos c112_203]
                  rw [e_J] at J
                  exact J _ X202
                · refine gifN B X202 at_112 ((if0 _ _).trans (feq c112_203).1) (pc' := 115) rfl ?_
                  refine giconst B X202 at_115 (v := (1 : Int32)) rfl (pc' := 116) rfl ?_
                  refine ggoto B X202 (pc' := 120) at_116 (by decide) ?_
                  have e_J : (oE qfr qto p0 p1 p2 p3) = (1 : Int32) := by rw [oE, if_pos c51_161, if_neg c69_164, if_pos c76_185, if_neg c87_188, if_pos c94_197, if_neg c105_200, if_neg c112_203]
                  rw [e_J] at J
                  exact J _ X202
            · refine gifY B X196 (pc' := 115) at_94 ((if0 _ _).trans (feq c94_197).2) (by decide) ?_
              refine giconst B X196 at_115 (v := (1 : Int32)) rfl (pc' := 116) rfl ?_
              refine ggoto B X196 (pc' := 120) at_116 (by decide) ?_
              have e_J : (oE qfr qto p0 p1 p2 p3) = (1 : Int32) := by rw [oE, if_pos c51_161, if_neg c69_164, if_pos c76_185, if_neg c87_188, if_neg c94_197]
              rw [e_J] at J
              exact J _ X196
        · refine gifY B X184 (pc' := 115) at_76 ((if0 _ _).trans (feq c76_185).2) (by decide) ?_
          refine giconst B X184 at_115 (v := (1 : Int32)) rfl (pc' := 116) rfl ?_
          refine ggoto B X184 (pc' := 120) at_116 (by decide) ?_
          have e_J : (oE qfr qto p0 p1 p2 p3) = (1 : Int32) := by rw [oE, if_pos c51_161, if_neg c69_164, if_neg c76_185]
          rw [e_J] at J
          exact J _ X184
    · refine gifN B X160 at_51 ((if0 _ _).trans (feq c51_161).1) (pc' := 54) rfl ?_
      refine giloadN B X160 at_54 rfl (pc' := 55) rfl ?_
      refine gcallS B X160 (hw _ (List.mem_of_getElem? (i := 6) rfl)) (hw _ (List.mem_of_getElem? (i := 7) rfl)) (hw _ (List.mem_of_getElem? (i := 4) rfl)) (hw _ (List.mem_of_getElem? (i := 8) rfl)) (by decide) (mt2 l Z a0 hw p0  h155 ) pd__I_Z rfl (argsL := [(.int p0)]) (st := []) rfl rfl (W := 0) (Nat.le_of_eq rfl) (by decide) (by decide) (by decide) (by decide) (fun x q => nomatch q) at_55 rfl (pureG rfl rfl fun T204 X205 => ?_)
      by_cases c58_206 : (f2 p0) = (0 : Int32)
      · refine gifN B X205 at_58 ((if0 _ _).trans (teq c58_206).2) (pc' := 61) rfl ?_
        refine giconst B X205 at_61 (v := (1 : Int32)) rfl (pc' := 62) rfl ?_
        refine giload B X205 at_62 rfl (pc' := 64) rfl ?_
        refine giload B X205 at_64 rfl (pc' := 66) rfl ?_
        refine gcallS B X205 (hw _ (List.mem_of_getElem? (i := 2) rfl)) (hw _ (List.mem_of_getElem? (i := 3) rfl)) (hw _ (List.mem_of_getElem? (i := 4) rfl)) (hw _ (List.mem_of_getElem? (i := 5) rfl)) (by decide) (mt1 l Z a0 hw (1 : Int32) qfr qto  h155 ) pd__III_Z rfl (argsL := [(.int (1 : Int32)), (.int qfr), (.int qto)]) (st := []) rfl rfl (W := 0) (Nat.le_of_eq rfl) (by decide) (by decide) (by decide) (by decide) (fun x q => nomatch q) at_66 rfl (pureG rfl rfl fun T207 X208 => ?_)
        by_cases c69_209 : (f1 (1 : Int32) qfr qto) = (0 : Int32)
        · refine gifY B X208 (pc' := 79) at_69 ((if0 _ _).trans (teq c69_209).1) (by decide) ?_
          refine giconst B X208 at_79 (v := (2 : Int32)) rfl (pc' := 80) rfl ?_
          refine giload B X208 at_80 rfl (pc' := 82) rfl ?_
          refine giload B X208 at_82 rfl (pc' := 84) rfl ?_
          refine gcallS B X208 (hw _ (List.mem_of_getElem? (i := 2) rfl)) (hw _ (List.mem_of_getElem? (i := 3) rfl)) (hw _ (List.mem_of_getElem? (i := 4) rfl)) (hw _ (List.mem_of_getElem? (i := 5) rfl)) (by decide) (mt1 l Z a0 hw (2 : Int32) qfr qto  h155 ) pd__III_Z rfl (argsL := [(.int (2 : Int32)), (.int qfr), (.int qto)]) (st := []) rfl rfl (W := 0) (Nat.le_of_eq rfl) (by decide) (by decide) (by decide) (by decide) (fun x q => nomatch q) at_84 rfl (pureG rfl rfl fun T210 X211 => ?_)
          by_cases c87_212 : (f1 (2 : Int32) qfr qto) = (0 : Int32)
          · refine gifY B X211 (pc' := 97) at_87 ((if0 _ _).trans (teq c87_212).1) (by decide) ?_
            refine giconst B X211 at_97 (v := (3 : Int32)) rfl (pc' := 98) rfl ?_
            refine giload B X211 at_98 rfl (pc' := 100) rfl ?_
            refine giload B X211 at_100 rfl (pc' := 102) rfl ?_
            refine gcallS B X211 (hw _ (List.mem_of_getElem? (i := 2) rfl)) (hw _ (List.mem_of_getElem? (i := 3) rfl)) (hw _ (List.mem_of_getElem? (i := 4) rfl)) (hw _ (List.mem_of_getElem? (i := 5) rfl)) (by decide) (mt1 l Z a0 hw (3 : Int32) qfr qto  h155 ) pd__III_Z rfl (argsL := [(.int (3 : Int32)), (.int qfr), (.int qto)]) (st := []) rfl rfl (W := 0) (Nat.le_of_eq rfl) (by decide) (by decide) (by decide) (by decide) (fun x q => nomatch q) at_102 rfl (pureG rfl rfl fun T213 X214 => ?_)
            by_cases c105_215 : (f1 (3 : Int32) qfr qto) = (0 : Int32)
            · refine gifY B X214 (pc' := 119) at_105 ((if0 _ _).trans (teq c105_215).1) (by decide) ?_
              refine giconst B X214 at_119 (v := (0 : Int32)) rfl (pc' := 120) rfl ?_
              have e_J : (oE qfr qto p0 p1 p2 p3) = (0 : Int32) := by rw [oE, if_neg c51_161, if_pos c58_206, if_pos c69_209, if_pos c87_212, if_pos c105_215]
              rw [e_J] at J
              exact J _ X214
            · refine gifN B X214 at_105 ((if0 _ _).trans (feq c105_215).1) (pc' := 108) rfl ?_
              refine giloadN B X214 at_108 rfl (pc' := 109) rfl ?_
              refine gcallS B X214 (hw _ (List.mem_of_getElem? (i := 6) rfl)) (hw _ (List.mem_of_getElem? (i := 7) rfl)) (hw _ (List.mem_of_getElem? (i := 4) rfl)) (hw _ (List.mem_of_getElem? (i := 8) rfl)) (by decide) (mt2 l Z a0 hw p3  h155 ) pd__I_Z rfl (argsL := [(.int p3)]) (st := []) rfl rfl (W := 0) (Nat.le_of_eq rfl) (by decide) (by decide) (by decide) (by decide) (fun x q => nomatch q) at_109 rfl (pureG rfl rfl fun T216 X217 => ?_)
              by_cases c112_218 : (f2 p3) = (0 : Int32)
              · refine gifY B X217 (pc' := 119) at_112 ((if0 _ _).trans (teq c112_218).1) (by decide) ?_
                refine giconst B X217 at_119 (v := (0 : Int32)) rfl (pc' := 120) rfl ?_
                have e_J : (oE qfr qto p0 p1 p2 p3) = (0 : Int32) := by rw [oE, if_neg c51_161, if_pos c58_206, if_pos c69_209, if_pos c87_212, if_neg c105_215, if_pos c112_218]
                rw [e_J] at J
                exact J _ X217
              · refine gifN B X217 at_112 ((if0 _ _).trans (feq c112_218).1) (pc' := 115) rfl ?_
                refine giconst B X217 at_115 (v := (1 : Int32)) rfl (pc' := 116) rfl ?_
                refine ggoto B X217 (pc' := 120) at_116 (by decide) ?_
                have e_J : (oE qfr qto p0 p1 p2 p3) = (1 : Int32) := by rw [oE, if_neg c51_161, if_pos c58_206, if_pos c69_209, if_pos c87_212, if_neg c105_215, if_neg c112_218]
                rw [e_J] at J
                exact J _ X217
          · refine gifN B X211 at_87 ((if0 _ _).trans (feq c87_212).1) (pc' := 90) rfl ?_
            refine giloadN B X211 at_90 rfl (pc' := 91) rfl ?_
            refine gcallS B X211 (hw _ (List.mem_of_getElem? (i := 6) rfl)) (hw _ (List.mem_of_getElem? (i := 7) rfl)) (hw _ (List.mem_of_getElem? (i := 4) rfl)) (hw _ (List.mem_of_getElem? (i := 8) rfl)) (by decide) (mt2 l Z a0 hw p2  h155 ) pd__I_Z rfl (argsL := [(.int p2)]) (st := []) rfl rfl (W := 0) (Nat.le_of_eq rfl) (by decide) (by decide) (by decide) (by decide) (fun x q => nomatch q) at_91 rfl (pureG rfl rfl fun T219 X220 => ?_)
            by_cases c94_221 : (f2 p2) = (0 : Int32)
            · refine gifN B X220 at_94 ((if0 _ _).trans (teq c94_221).2) (pc' := 97) rfl ?_
              refine giconst B X220 at_97 (v := (3 : Int32)) rfl (pc' := 98) rfl ?_
              refine giload B X220 at_98 rfl (pc' := 100) rfl ?_
              refine giload B X220 at_100 rfl (pc' := 102) rfl ?_
              refine gcallS B X220 (hw _ (List.mem_of_getElem? (i := 2) rfl)) (hw _ (List.mem_of_getElem? (i := 3) rfl)) (hw _ (List.mem_of_getElem? (i := 4) rfl)) (hw _ (List.mem_of_getElem? (i := 5) rfl)) (by decide) (mt1 l Z a0 hw (3 : Int32) qfr qto  h155 ) pd__III_Z rfl (argsL := [(.int (3 : Int32)), (.int qfr), (.int qto)]) (st := []) rfl rfl (W := 0) (Nat.le_of_eq rfl) (by decide) (by decide) (by decide) (by decide) (fun x q => nomatch q) at_102 rfl (pureG rfl rfl fun T222 X223 => ?_)
              by_cases c105_224 : (f1 (3 : Int32) qfr qto) = (0 : Int32)
              · refine gifY B X223 (pc' := 119) at_105 ((if0 _ _).trans (teq c105_224).1) (by decide) ?_
                refine giconst B X223 at_119 (v := (0 : Int32)) rfl (pc' := 120) rfl ?_
                have e_J : (oE qfr qto p0 p1 p2 p3) = (0 : Int32) := by rw [oE, if_neg c51_161, if_pos c58_206, if_pos c69_209, if_neg c87_212, if_pos c94_221, if_pos c105_224]
                rw [e_J] at J
                exact J _ X223
              · refine gifN B X223 at_105 ((if0 _ _).trans (feq c105_224).1) (pc' := 108) rfl ?_
                refine giloadN B X223 at_108 rfl (pc' := 109) rfl ?_
                refine gcallS B X223 (hw _ (List.mem_of_getElem? (i := 6) rfl)) (hw _ (List.mem_of_getElem? (i := 7) rfl)) (hw _ (List.mem_of_getElem? (i := 4) rfl)) (hw _ (List.mem_of_getElem? (i := 8) rfl)) (by decide) (mt2 l Z a0 hw p3  h155 ) pd__I_Z rfl (argsL := [(.int p3)]) (st := []) rfl rfl (W := 0) (Nat.le_of_eq rfl) (by decide) (by decide) (by decide) (by decide) (fun x q => nomatch q) at_109 rfl (pureG rfl rfl fun T225 X226 => ?_)
                by_cases c112_227 : (f2 p3) = (0 : Int32)
                · refine gifY B X226 (pc' := 119) at_112 ((if0 _ _).trans (teq c112_227).1) (by decide) ?_
                  refine giconst B X226 at_119 (v := (0 : Int32)) rfl (pc' := 120) rfl ?_
                  have e_J : (oE qfr qto p0 p1 p2 p3) = (0 : Int32) := by rw [oE, if_neg c51_161, if_pos c58_206, if_pos c69_209, if_neg c87_212, if_pos c94_221, if_neg c105_224, if_pos c112_227]
                  rw [e_J] at J
                  exact J _ X226
                · refine gifN B X226 at_112 ((if0 _ _).trans (feq c112_227).1) (pc' := 115) rfl ?_
                  refine giconst B X226 at_115 (v := (1 : Int32)) rfl (pc' := 116) rfl ?_
                  refine ggoto B X226 (pc' := 120) at_116 (by decide) ?_
                  have e_J : (oE qfr qto p0 p1 p2 p3) = (1 : Int32) := by rw [oE, if_neg c51_161, if_pos c58_206, if_pos c69_209, if_neg c87_212, if_pos c94_221, if_neg c105_224, if_neg c112_227]
                  rw [e_J] at J
                  exact J _ X226
            · refine gifY B X220 (pc' := 115) at_94 ((if0 _ _).trans (feq c94_221).2) (by decide) ?_
              refine giconst B X220 at_115 (v := (1 : Int32)) rfl (pc' := 116) rfl ?_
              refine ggoto B X220 (pc' := 120) at_116 (by decide) ?_
              have e_J : (oE qfr qto p0 p1 p2 p3) = (1 : Int32) := by rw [oE, if_neg c51_161, if_pos c58_206, if_pos c69_209, if_neg c87_212, if_neg c94_221]
              rw [e_J] at J
              exact J _ X220
        · refine gifN B X208 at_69 ((if0 _ _).trans (feq c69_209).1) (pc' := 72) rfl ?_
          refine giloadN B X208 at_72 rfl (pc' := 73) rfl ?_
          refine gcallS B X208 (hw _ (List.mem_of_getElem? (i := 6) rfl)) (hw _ (List.mem_of_getElem? (i := 7) rfl)) (hw _ (List.mem_of_getElem? (i := 4) rfl)) (hw _ (List.mem_of_getElem? (i := 8) rfl)) (by decide) (mt2 l Z a0 hw p1  h155 ) pd__I_Z rfl (argsL := [(.int p1)]) (st := []) rfl rfl (W := 0) (Nat.le_of_eq rfl) (by decide) (by decide) (by decide) (by decide) (fun x q => nomatch q) at_73 rfl (pureG rfl rfl fun T228 X229 => ?_)
          by_cases c76_230 : (f2 p1) = (0 : Int32)
          · refine gifN B X229 at_76 ((if0 _ _).trans (teq c76_230).2) (pc' := 79) rfl ?_
            refine giconst B X229 at_79 (v := (2 : Int32)) rfl (pc' := 80) rfl ?_
            refine giload B X229 at_80 rfl (pc' := 82) rfl ?_
            refine giload B X229 at_82 rfl (pc' := 84) rfl ?_
            refine gcallS B X229 (hw _ (List.mem_of_getElem? (i := 2) rfl)) (hw _ (List.mem_of_getElem? (i := 3) rfl)) (hw _ (List.mem_of_getElem? (i := 4) rfl)) (hw _ (List.mem_of_getElem? (i := 5) rfl)) (by decide) (mt1 l Z a0 hw (2 : Int32) qfr qto  h155 ) pd__III_Z rfl (argsL := [(.int (2 : Int32)), (.int qfr), (.int qto)]) (st := []) rfl rfl (W := 0) (Nat.le_of_eq rfl) (by decide) (by decide) (by decide) (by decide) (fun x q => nomatch q) at_84 rfl (pureG rfl rfl fun T231 X232 => ?_)
            by_cases c87_233 : (f1 (2 : Int32) qfr qto) = (0 : Int32)
            · refine gifY B X232 (pc' := 97) at_87 ((if0 _ _).trans (teq c87_233).1) (by decide) ?_
              refine giconst B X232 at_97 (v := (3 : Int32)) rfl (pc' := 98) rfl ?_
              refine giload B X232 at_98 rfl (pc' := 100) rfl ?_
              refine giload B X232 at_100 rfl (pc' := 102) rfl ?_
              refine gcallS B X232 (hw _ (List.mem_of_getElem? (i := 2) rfl)) (hw _ (List.mem_of_getElem? (i := 3) rfl)) (hw _ (List.mem_of_getElem? (i := 4) rfl)) (hw _ (List.mem_of_getElem? (i := 5) rfl)) (by decide) (mt1 l Z a0 hw (3 : Int32) qfr qto  h155 ) pd__III_Z rfl (argsL := [(.int (3 : Int32)), (.int qfr), (.int qto)]) (st := []) rfl rfl (W := 0) (Nat.le_of_eq rfl) (by decide) (by decide) (by decide) (by decide) (fun x q => nomatch q) at_102 rfl (pureG rfl rfl fun T234 X235 => ?_)
              by_cases c105_236 : (f1 (3 : Int32) qfr qto) = (0 : Int32)
              · refine gifY B X235 (pc' := 119) at_105 ((if0 _ _).trans (teq c105_236).1) (by decide) ?_
                refine giconst B X235 at_119 (v := (0 : Int32)) rfl (pc' := 120) rfl ?_
                have e_J : (oE qfr qto p0 p1 p2 p3) = (0 : Int32) := by rw [oE, if_neg c51_161, if_pos c58_206, if_neg c69_209, if_pos c76_230, if_pos c87_233, if_pos c105_236]
                rw [e_J] at J
                exact J _ X235
              · refine gifN B X235 at_105 ((if0 _ _).trans (feq c105_236).1) (pc' := 108) rfl ?_
                refine giloadN B X235 at_108 rfl (pc' := 109) rfl ?_
                refine gcallS B X235 (hw _ (List.mem_of_getElem? (i := 6) rfl)) (hw _ (List.mem_of_getElem? (i := 7) rfl)) (hw _ (List.mem_of_getElem? (i := 4) rfl)) (hw _ (List.mem_of_getElem? (i := 8) rfl)) (by decide) (mt2 l Z a0 hw p3  h155 ) pd__I_Z rfl (argsL := [(.int p3)]) (st := []) rfl rfl (W := 0) (Nat.le_of_eq rfl) (by decide) (by decide) (by decide) (by decide) (fun x q => nomatch q) at_109 rfl (pureG rfl rfl fun T237 X238 => ?_)
                by_cases c112_239 : (f2 p3) = (0 : Int32)
                · refine gifY B X238 (pc' := 119) at_112 ((if0 _ _).trans (teq c112_239).1) (by decide) ?_
                  refine giconst B X238 at_119 (v := (0 : Int32)) rfl (pc' := 120) rfl ?_
                  have e_J : (oE qfr qto p0 p1 p2 p3) = (0 : Int32) := by rw [oE, if_neg c51_161, if_pos c58_206, if_neg c69_209, if_pos c76_230, if_pos c87_233, if_neg c105_236, if_pos c112_239]
                  rw [e_J] at J
                  exact J _ X238
                · refine gifN B X238 at_112 ((if0 _ _).trans (feq c112_239).1) (pc' := 115) rfl ?_
                  refine giconst B X238 at_115 (v := (1 : Int32)) rfl (pc' := 116) rfl ?_
                  refine ggoto B X238 (pc' := 120) at_116 (by decide) ?_
                  have e_J : (oE qfr qto p0 p1 p2 p3) = (1 : Int32) := by rw [oE, if_neg c51_161, if_pos c58_206, if_neg c69_209, if_pos c76_230, if_pos c87_233, if_neg c105_236, if_neg c112_239]
                  rw [e_J] at J
                  exact J _ X238
            · refine gifN B X232 at_87 ((if0 _ _).trans (feq c87_233).1) (pc' := 90) rfl ?_
              refine giloadN B X232 at_90 rfl (pc' := 91) rfl ?_
              refine gcallS B X232 (hw _ (List.mem_of_getElem? (i := 6) rfl)) (hw _ (List.mem_of_getElem? (i := 7) rfl)) (hw _ (List.mem_of_getElem? (i := 4) rfl)) (hw _ (List.mem_of_getElem? (i := 8) rfl)) (by decide) (mt2 l Z a0 hw p2  h155 ) pd__I_Z rfl (argsL := [(.int p2)]) (st := []) rfl rfl (W := 0) (Nat.le_of_eq rfl) (by decide) (by decide) (by decide) (by decide) (fun x q => nomatch q) at_91 rfl (pureG rfl rfl fun T240 X241 => ?_)
              by_cases c94_242 : (f2 p2) = (0 : Int32)
              · refine gifN B X241 at_94 ((if0 _ _).trans (teq c94_242).2) (pc' := 97) rfl ?_
                refine giconst B X241 at_97 (v := (3 : Int32)) rfl (pc' := 98) rfl ?_
                refine giload B X241 at_98 rfl (pc' := 100) rfl ?_
                refine giload B X241 at_100 rfl (pc' := 102) rfl ?_
                refine gcallS B X241 (hw _ (List.mem_of_getElem? (i := 2) rfl)) (hw _ (List.mem_of_getElem? (i := 3) rfl)) (hw _ (List.mem_of_getElem? (i := 4) rfl)) (hw _ (List.mem_of_getElem? (i := 5) rfl)) (by decide) (mt1 l Z a0 hw (3 : Int32) qfr qto  h155 ) pd__III_Z rfl (argsL := [(.int (3 : Int32)), (.int qfr), (.int qto)]) (st := []) rfl rfl (W := 0) (Nat.le_of_eq rfl) (by decide) (by decide) (by decide) (by decide) (fun x q => nomatch q) at_102 rfl (pureG rfl rfl fun T243 X244 => ?_)
                by_cases c105_245 : (f1 (3 : Int32) qfr qto) = (0 : Int32)
                · refine gifY B X244 (pc' := 119) at_105 ((if0 _ _).trans (teq c105_245).1) (by decide) ?_
                  refine giconst B X244 at_119 (v := (0 : Int32)) rfl (pc' := 120) rfl ?_
                  have e_J : (oE qfr qto p0 p1 p2 p3) = (0 : Int32) := by rw [oE, if_neg c51_161, if_pos c58_206, if_neg c69_209, if_pos c76_230, if_neg c87_233, if_pos c94_242, if_pos c105_245]
                  rw [e_J] at J
                  exact J _ X244
                · refine gifN B X244 at_105 ((if0 _ _).trans (feq c105_245).1) (pc' := 108) rfl ?_
                  refine giloadN B X244 at_108 rfl (pc' := 109) rfl ?_
                  refine gcallS B X244 (hw _ (List.mem_of_getElem? (i := 6) rfl)) (hw _ (List.mem_of_getElem? (i := 7) rfl)) (hw _ (List.mem_of_getElem? (i := 4) rfl)) (hw _ (List.mem_of_getElem? (i := 8) rfl)) (by decide) (mt2 l Z a0 hw p3  h155 ) pd__I_Z rfl (argsL := [(.int p3)]) (st := []) rfl rfl (W := 0) (Nat.le_of_eq rfl) (by decide) (by decide) (by decide) (by decide) (fun x q => nomatch q) at_109 rfl (pureG rfl rfl fun T246 X247 => ?_)
                  by_cases c112_248 : (f2 p3) = (0 : Int32)
                  · refine gifY B X247 (pc' := 119) at_112 ((if0 _ _).trans (teq c112_248).1) (by decide) ?_
                    refine giconst B X247 at_119 (v := (0 : Int32)) rfl (pc' := 120) rfl ?_
                    have e_J : (oE qfr qto p0 p1 p2 p3) = (0 : Int32) := by rw [oE, if_neg c51_161, if_pos c58_206, if_neg c69_209, if_pos c76_230, if_neg c87_233, if_pos c94_242, if_neg c105_245, if_pos c112_248]
                    rw [e_J] at J
                    exact J _ X247
                  · refine gifN B X247 at_112 ((if0 _ _).trans (feq c112_248).1) (pc' := 115) rfl ?_
                    refine giconst B X247 at_115 (v := (1 : Int32)) rfl (pc' := 116) rfl ?_
                    refine ggoto B X247 (pc' := 120) at_116 (by decide) ?_
                    have e_J : (oE qfr qto p0 p1 p2 p3) = (1 : Int32) := by rw [oE, if_neg c51_161, if_pos c58_206, if_neg c69_209, if_pos c76_230, if_neg c87_233, if_pos c94_242, if_neg c105_245, if_neg c112_248]
                    rw [e_J] at J
                    exact J _ X247
              · refine gifY B X241 (pc' := 115) at_94 ((if0 _ _).trans (feq c94_242).2) (by decide) ?_
                refine giconst B X241 at_115 (v := (1 : Int32)) rfl (pc' := 116) rfl ?_
                refine ggoto B X241 (pc' := 120) at_116 (by decide) ?_
                have e_J : (oE qfr qto p0 p1 p2 p3) = (1 : Int32) := by rw [oE, if_neg c51_161, if_pos c58_206, if_neg c69_209, if_pos c76_230, if_neg c87_233, if_neg c94_242]
                rw [e_J] at J
                exact J _ X241
          · refine gifY B X229 (pc' := 115) at_76 ((if0 _ _).trans (feq c76_230).2) (by decide) ?_
            refine giconst B X229 at_115 (v := (1 : Int32)) rfl (pc' := 116) rfl ?_
            refine ggoto B X229 (pc' := 120) at_116 (by decide) ?_
            have e_J : (oE qfr qto p0 p1 p2 p3) = (1 : Int32) := by rw [oE, if_neg c51_161, if_pos c58_206, if_neg c69_209, if_neg c76_230]
            rw [e_J] at J
            exact J _ X229
      · refine gifY B X205 (pc' := 115) at_58 ((if0 _ _).trans (feq c58_206).2) (by decide) ?_
        refine giconst B X205 at_115 (v := (1 : Int32)) rfl (pc' := 116) rfl ?_
        refine ggoto B X205 (pc' := 120) at_116 (by decide) ?_
        have e_J : (oE qfr qto p0 p1 p2 p3) = (1 : Int32) := by rw [oE, if_neg c51_161, if_neg c58_206]
        rw [e_J] at J
        exact J _ X205
  intro T249 X250
  show Go p e below s _ _ _ _ _ T249 (mkF m 120 #[.val (.int p0), .val (.int p1), .val (.int p2), .val (.int p3), .val (.int p4), .val (.int p5), .val (.ref a134), .val (.int qfr), .val (.int qto), .unset] [(.int (oE qfr qto p0 p1 p2 p3))])
  refine gistore B X250 at_120 (Ls' := #[.val (.int p0), .val (.int p1), .val (.int p2), .val (.int p3), .val (.int p4), .val (.int p5), .val (.ref a134), .val (.int qfr), .val (.int qto), .val (.int (oE qfr qto p0 p1 p2 p3))]) rfl (pc' := 122) rfl ?_
  rcases h4 with rfl | rfl | rfl | rfl | rfl
  · skip
    refine gaload B X250 at_122 rfl rfl (pc' := 124) rfl ?_
    refine giload B X250 at_124 rfl (pc' := 126) rfl ?_
    refine giload B X250 at_126 rfl (pc' := 128) rfl ?_
    refine gcallS B X250 (hw _ (List.mem_of_getElem? (i := 9) rfl)) (hw _ (List.mem_of_getElem? (i := 10) rfl)) (hw _ (List.mem_of_getElem? (i := 11) rfl)) (hw _ (List.mem_of_getElem? (i := 12) rfl)) (by decide) (mt3_0 l Z a0 hw a134 qto p0.toInt8.toInt32 p1.toInt8.toInt32 p2.toInt8.toInt32 p3.toInt8.toInt32 h155 A158 ht4) pd___BII_Z rfl (argsL := [(.ref a134), (.int (0 : Int32)), (.int qto)]) (st := []) rfl rfl (W := 0) (Nat.le_of_eq rfl) (by decide) (by decide) (by decide) (by decide) (fun x q => nomatch q) at_128 rfl (pureG rfl rfl fun T251 X252 => ?_)
    refine giload B X252 at_131 rfl (pc' := 133) rfl ?_
    have c133_253 : (f3_0 qto p0.toInt8.toInt32 p1.toInt8.toInt32 p2.toInt8.toInt32 p3.toInt8.toInt32) = (oE (0 : Int32) qto p0 p1 p2 p3) := own_fin0 qto p0 p1 p2 p3 h5
    refine gicN B X252 at_133 (teq c133_253).2 (pc' := 136) rfl ?_
    refine giconst B X252 at_136 (v := (1 : Int32)) rfl (pc' := 137) rfl ?_
    refine ggoto B X252 (pc' := 141) at_137 (by decide) ?_
    exact gretN B X252 (z' := (1 : Int32)) (by simp) (rfl) at_141 (by decide) (by decide) (rfl)
  · skip
    refine gaload B X250 at_122 rfl rfl (pc' := 124) rfl ?_
    refine giload B X250 at_124 rfl (pc' := 126) rfl ?_
    refine giload B X250 at_126 rfl (pc' := 128) rfl ?_
    refine gcallS B X250 (hw _ (List.mem_of_getElem? (i := 9) rfl)) (hw _ (List.mem_of_getElem? (i := 10) rfl)) (hw _ (List.mem_of_getElem? (i := 11) rfl)) (hw _ (List.mem_of_getElem? (i := 12) rfl)) (by decide) (mt3_1 l Z a0 hw a134 qto p0.toInt8.toInt32 p1.toInt8.toInt32 p2.toInt8.toInt32 p3.toInt8.toInt32 h155 A158 ht4) pd___BII_Z rfl (argsL := [(.ref a134), (.int (1 : Int32)), (.int qto)]) (st := []) rfl rfl (W := 0) (Nat.le_of_eq rfl) (by decide) (by decide) (by decide) (by decide) (fun x q => nomatch q) at_128 rfl (pureG rfl rfl fun T254 X255 => ?_)
    refine giload B X255 at_131 rfl (pc' := 133) rfl ?_
    have c133_256 : (f3_1 qto p0.toInt8.toInt32 p1.toInt8.toInt32 p2.toInt8.toInt32 p3.toInt8.toInt32) = (oE (1 : Int32) qto p0 p1 p2 p3) := own_fin1 qto p0 p1 p2 p3 h5
    refine gicN B X255 at_133 (teq c133_256).2 (pc' := 136) rfl ?_
    refine giconst B X255 at_136 (v := (1 : Int32)) rfl (pc' := 137) rfl ?_
    refine ggoto B X255 (pc' := 141) at_137 (by decide) ?_
    exact gretN B X255 (z' := (1 : Int32)) (by simp) (rfl) at_141 (by decide) (by decide) (rfl)
  · skip
    refine gaload B X250 at_122 rfl rfl (pc' := 124) rfl ?_
    refine giload B X250 at_124 rfl (pc' := 126) rfl ?_
    refine giload B X250 at_126 rfl (pc' := 128) rfl ?_
    refine gcallS B X250 (hw _ (List.mem_of_getElem? (i := 9) rfl)) (hw _ (List.mem_of_getElem? (i := 10) rfl)) (hw _ (List.mem_of_getElem? (i := 11) rfl)) (hw _ (List.mem_of_getElem? (i := 12) rfl)) (by decide) (mt3_2 l Z a0 hw a134 qto p0.toInt8.toInt32 p1.toInt8.toInt32 p2.toInt8.toInt32 p3.toInt8.toInt32 h155 A158 ht4) pd___BII_Z rfl (argsL := [(.ref a134), (.int (2 : Int32)), (.int qto)]) (st := []) rfl rfl (W := 0) (Nat.le_of_eq rfl) (by decide) (by decide) (by decide) (by decide) (fun x q => nomatch q) at_128 rfl (pureG rfl rfl fun T257 X258 => ?_)
    refine giload B X258 at_131 rfl (pc' := 133) rfl ?_
    have c133_259 : (f3_2 qto p0.toInt8.toInt32 p1.toInt8.toInt32 p2.toInt8.toInt32 p3.toInt8.toInt32) = (oE (2 : Int32) qto p0 p1 p2 p3) := own_fin2 qto p0 p1 p2 p3 h5
    refine gicN B X258 at_133 (teq c133_259).2 (pc' := 136) rfl ?_
    refine giconst B X258 at_136 (v := (1 : Int32)) rfl (pc' := 137) rfl ?_
    refine ggoto B X258 (pc' := 141) at_137 (by decide) ?_
    exact gretN B X258 (z' := (1 : Int32)) (by simp) (rfl) at_141 (by decide) (by decide) (rfl)
  · skip
    refine gaload B X250 at_122 rfl rfl (pc' := 124) rfl ?_
    refine giload B X250 at_124 rfl (pc' := 126) rfl ?_
    refine giload B X250 at_126 rfl (pc' := 128) rfl ?_
    refine gcallS B X250 (hw _ (List.mem_of_getElem? (i := 9) rfl)) (hw _ (List.mem_of_getElem? (i := 10) rfl)) (hw _ (List.mem_of_getElem? (i := 11) rfl)) (hw _ (List.mem_of_getElem? (i := 12) rfl)) (by decide) (mt3_3 l Z a0 hw a134 qto p0.toInt8.toInt32 p1.toInt8.toInt32 p2.toInt8.toInt32 p3.toInt8.toInt32 h155 A158 ht4) pd___BII_Z rfl (argsL := [(.ref a134), (.int (3 : Int32)), (.int qto)]) (st := []) rfl rfl (W := 0) (Nat.le_of_eq rfl) (by decide) (by decide) (by decide) (by decide) (fun x q => nomatch q) at_128 rfl (pureG rfl rfl fun T260 X261 => ?_)
    refine giload B X261 at_131 rfl (pc' := 133) rfl ?_
    have c133_262 : (f3_3 qto p0.toInt8.toInt32 p1.toInt8.toInt32 p2.toInt8.toInt32 p3.toInt8.toInt32) = (oE (3 : Int32) qto p0 p1 p2 p3) := own_fin3 qto p0 p1 p2 p3 h5
    refine gicN B X261 at_133 (teq c133_262).2 (pc' := 136) rfl ?_
    refine giconst B X261 at_136 (v := (1 : Int32)) rfl (pc' := 137) rfl ?_
    refine ggoto B X261 (pc' := 141) at_137 (by decide) ?_
    exact gretN B X261 (z' := (1 : Int32)) (by simp) (rfl) at_141 (by decide) (by decide) (rfl)
  · skip
    refine gaload B X250 at_122 rfl rfl (pc' := 124) rfl ?_
    refine giload B X250 at_124 rfl (pc' := 126) rfl ?_
    refine giload B X250 at_126 rfl (pc' := 128) rfl ?_
    refine gcallS B X250 (hw _ (List.mem_of_getElem? (i := 9) rfl)) (hw _ (List.mem_of_getElem? (i := 10) rfl)) (hw _ (List.mem_of_getElem? (i := 11) rfl)) (hw _ (List.mem_of_getElem? (i := 12) rfl)) (by decide) (mt3_4 l Z a0 hw a134 qto p0.toInt8.toInt32 p1.toInt8.toInt32 p2.toInt8.toInt32 p3.toInt8.toInt32 h155 A158 ht4) pd___BII_Z rfl (argsL := [(.ref a134), (.int (4 : Int32)), (.int qto)]) (st := []) rfl rfl (W := 0) (Nat.le_of_eq rfl) (by decide) (by decide) (by decide) (by decide) (fun x q => nomatch q) at_128 rfl (pureG rfl rfl fun T263 X264 => ?_)
    refine giload B X264 at_131 rfl (pc' := 133) rfl ?_
    have c133_265 : (f3_4 qto p0.toInt8.toInt32 p1.toInt8.toInt32 p2.toInt8.toInt32 p3.toInt8.toInt32) = (oE (4 : Int32) qto p0 p1 p2 p3) := own_fin4 qto p0 p1 p2 p3 h5
    refine gicN B X264 at_133 (teq c133_265).2 (pc' := 136) rfl ?_
    refine giconst B X264 at_136 (v := (1 : Int32)) rfl (pc' := 137) rfl ?_
    refine ggoto B X264 (pc' := 141) at_137 (by decide) ?_
    exact gretN B X264 (z' := (1 : Int32)) (by simp) (rfl) at_141 (by decide) (by decide) (rfl)
set_option maxRecDepth 65536 in
set_option maxHeartbeats 4000000 in
theorem comes_1 {Post : Tables → Env → Array Value → State → Outcome → State → Prop} (hpost : ∀ tb e args s v u, (limb_1_1.after args s (.returned v) u = true ∧ limb_1_2.after args s (.returned v) u = true ∧ True) → FrameEnd s (.returned v) u (Jvm.fieldLocs frame_1_writes args s ++ Jvm.arrayLocs frame_1_arrays args s ++ Jvm.staticLocs frame_1_statics s) 16 128 → Post tb e args s (.returned v) u) :
    ArmFor flags0 classFile x code maxLocals ret World_1 tables_1 room_1 Calls_1 rest_1 Pre_1 Post := by
  intro l hfl _ _ p e ha hc hk s m args below hf hA hF happ hP
  obtain ⟨hcalls, hrest, hpre⟩ := hP
  obtain ⟨-, -, -, hnamed, -, -, -, hat⟩ := (Spec.applies_iff hf).mp happ
  obtain ⟨hg, hn⟩ := and_e (Cond.before_iff.mp (show (Jvm.Cond.and given_1 narrow_1).before args s = true from hpre))
  obtain ⟨g2, g3⟩ := and_e hg
  obtain ⟨g4, g5⟩ := and_e g3
  obtain ⟨g6, g7⟩ := and_e g5
  obtain ⟨g8, g9⟩ := and_e g7
  obtain ⟨g10, g11⟩ := and_e g9
  obtain ⟨g12, g13⟩ := and_e g11
  obtain ⟨w0, w1, w2, w3, w4, w5, rfl⟩ : ∃ w0 w1 w2 w3 w4 w5 : Value, args = #[w0, w1, w2, w3, w4, w5] := by
    have hs : args.size = 6 := by simpa [Cond.value, given_1] using g2
    obtain ⟨L⟩ := args
    match L, hs with
    | [w0, w1, w2, w3, w4, w5], _ => exact ⟨w0, w1, w2, w3, w4, w5, rfl⟩
  have hw := fun d (hd : d ∈ tables_1) => atoms_spec (ws := Jvm.Cond.code x code maxLocals ret :: tables_1) hat d (List.mem_cons_of_mem _ hd)
  obtain ⟨i0, ei0⟩ := is_v g4
  obtain rfl : w0 = (.int i0) := Option.some.inj ei0
  obtain ⟨i1, ei1⟩ := is_v g6
  obtain rfl : w1 = (.int i1) := Option.some.inj ei1
  obtain ⟨i2, ei2⟩ := is_v g8
  obtain rfl : w2 = (.int i2) := Option.some.inj ei2
  obtain ⟨i3, ei3⟩ := is_v g10
  obtain rfl : w3 = (.int i3) := Option.some.inj ei3
  obtain ⟨i4, ei4⟩ := is_v g12
  obtain rfl : w4 = (.int i4) := Option.some.inj ei4
  obtain ⟨i5, ei5⟩ := is_v g13
  obtain rfl : w5 = (.int i5) := Option.some.inj ei5
  obtain ⟨n, o, h1, h2, h3, _, L, rfl, ⟨rfl, N, N2⟩, hq⟩ := mt0 l s _ hw i0 i1 i2 i3 i4 i5 s.heap tables_1 p e ha hc hk s m _ below hf ((Spec.applies_iff_loose hf).mp happ).1 ⟨rfl, State.Warmed39.refl s, rfl⟩ trivial
  refine ⟨n, _, h1, h2, h3, hpost _ _ _ _ _ _ ⟨Cond.after_iff.mpr rfl, Cond.after_iff.mpr (eq_i res_at (Term.int_eval (1)) rfl), trivial⟩ ⟨hq.1, hq.2.1, (hq.2.2.sift fun y hy => Or.inr ((N2 y hy).elim (fun z => nomatch z) id)).mono (by decide) (by decide)⟩⟩
theorem main_1_1 : Claimed_1_1 := comes_1 fun _ _ _ _ _ _ h hF => ⟨h.1, hF⟩
theorem main_1_2 : Claimed_1_2 := comes_1 fun _ _ _ _ _ _ h hF => ⟨h.2.1, hF⟩
end Jvm.Pilot.@@N@@
namespace Jvm.Pilot.@@N@@
open Jvm Jvm.ClassFile Sem Op Lib Jvm.Free Jvm.Stand Jvm.Pilot.@@N@@.Jvm.D
/-! MADE BY PROGRAM (witnessworld.py) out of the Statement's table words and the real class files: 9 classes; the members and pool entries that the words name. The judged class is class 1, her method 1. -/
namespace start1
open Jvm.ClassFile
def u (s : String) : CpInfo := .utf8 (stringToUtf16 s)
/-- a pool by its gaps: so many unusable entries, then the entry; so many at the end -/
def gap : Nat → List CpInfo → List CpInfo
  | 0, r => r
  | n + 1, r => .unusable :: gap n r
def poolList (es : List (Nat × CpInfo)) (last : Nat) : List CpInfo := es.foldr (fun e r => gap e.1 (e.2 :: r)) (gap last [])
def pool (es : List (Nat × CpInfo)) (last : Nat) : Array CpInfo := ⟨poolList es last⟩
def fileOf (pool : Array CpInfo) (this : Nat) (attrs : Array Attribute := #[]) (ms : Array MethodInfo := #[]) (fl : Nat := 33) (sup : Nat := 0) (ifs : Array Nat := #[]) (fds : Array FieldInfo := #[]) : ClassFile where
  minorVersion := 0
  majorVersion := 65
  constantPool := pool
  accessFlags := fl
  thisClass := this
  superClass := sup
  interfaces := ifs
  fields := fds
  methods := ms
  attributes := attrs
def plain (name : String) (sup : Option ClassId) : Class where
  name := name
  kind := .ordinary
  loader := none
  accessFlags := 33
  super := sup
  interfaces := #[]
  cf := none
  fields := #[]
  methods := #[]
  instanceTypes := #[]
  staticTypes := #[]
  resolved := #[]
  callSites := []
  init := .initialized
  statics := none
  mirror := none

def pool0 : Array CpInfo := pool [(5, u "<init>"), (0, u "()V"), (1, .class_ 10), (1, u "java/lang/Object")] 113

def k0m0 : Method := { name := "<init>", desc := "()V", sig := { parameters := [], returnType := none }, accessFlags := 1, code := none }
/-- java/lang/Object -/
def k0 : Class := { plain "java/lang/Object" none with
  accessFlags := 33
  interfaces := #[]
  cf := some (fileOf pool0 8 #[] #[{ accessFlags := 1, nameIndex := 5, descriptorIndex := 6, attributes := #[] }] 33 0 #[] #[])
  fields := #[]
  methods := #[k0m0]
  instanceTypes := #[]
  staticTypes := #[]
  resolved := Array.replicate 124 none
  statics := none }

def pool1 : Array CpInfo := pool [(2, .class_ 4), (1, u "java/lang/Object"), (0, u "<init>"), (0, u "()V"), (0, .integer 2147483647), (0, .methodref 9 10), (0, .class_ 11), (0, .nameAndType 12 13), (0, u "com/example/paycadence/paycadence/format/PrintedNameMayEscapePinLaw"), (0, u "inRange"), (0, u "(III)Z"), (0, .methodref 9 15), (0, .nameAndType 16 17), (0, u "flagged"), (0, u "(I)Z"), (0, .methodref 19 20), (0, .class_ 21), (0, .nameAndType 22 23), (0, u "com/example/paycadence/paycadence/format/PrintedName"), (0, u "mayEscape"), (0, u "([BII)Z"), (2, u "law"), (0, u "(IIIIII)Z")] 5

def k1m0 : Method := { name := "<init>", desc := "()V", sig := { parameters := [], returnType := none }, accessFlags := 2, code := none }
def k1c1 : Code := { maxStack := 4, maxLocals := 10, code := code, exceptionTable := #[], attributes := #[] }
def k1m1 : Method := { name := "law", desc := "(IIIIII)Z", sig := { parameters := [.int, .int, .int, .int, .int, .int], returnType := some .boolean }, accessFlags := 9, code := some k1c1 }
def k1c2 : Code := { maxStack := 2, maxLocals := 3, code := method_3_code, exceptionTable := #[], attributes := #[] }
def k1m2 : Method := { name := "inRange", desc := "(III)Z", sig := { parameters := [.int, .int, .int], returnType := some .boolean }, accessFlags := 10, code := some k1c2 }
def k1c3 : Code := { maxStack := 2, maxLocals := 2, code := method_4_code, exceptionTable := #[], attributes := #[] }
def k1m3 : Method := { name := "flagged", desc := "(I)Z", sig := { parameters := [.int], returnType := some .boolean }, accessFlags := 10, code := some k1c3 }
/-- com/example/paycadence/paycadence/format/PrintedNameMayEscapePinLaw -/
def k1 : Class := { plain "com/example/paycadence/paycadence/format/PrintedNameMayEscapePinLaw" (some 0) with
  accessFlags := 49
  interfaces := #[]
  cf := some (fileOf pool1 9 #[] #[{ accessFlags := 2, nameIndex := 5, descriptorIndex := 6, attributes := #[] }, { accessFlags := 9, nameIndex := 26, descriptorIndex := 27, attributes := #[] }, { accessFlags := 10, nameIndex := 12, descriptorIndex := 13, attributes := #[] }, { accessFlags := 10, nameIndex := 16, descriptorIndex := 17, attributes := #[] }] 49 2 #[] #[])
  fields := #[]
  methods := #[k1m0, k1m1, k1m2, k1m3]
  instanceTypes := #[]
  staticTypes := #[]
  resolved := Array.replicate 33 none
  statics := none }

def pool2 : Array CpInfo := pool [(2, .class_ 4), (1, u "java/lang/Object"), (0, u "<init>"), (0, u "()V"), (3, .class_ 12), (1, u "com/example/paycadence/paycadence/format/PrintedName"), (74, u "LINE_BREAKS"), (0, u "Ljava/lang/String;"), (7, u "mayEscape"), (0, u "([BII)Z")] 21

def k2m0 : Method := { name := "<init>", desc := "()V", sig := { parameters := [], returnType := none }, accessFlags := 2, code := none }
def k2c1 : Code := { maxStack := 2, maxLocals := 6, code := prog_52_method_5_code, exceptionTable := #[], attributes := #[] }
def k2m1 : Method := { name := "mayEscape", desc := "([BII)Z", sig := { parameters := [(.array .byte), .int, .int], returnType := some .boolean }, accessFlags := 8, code := some k2c1 }
/-- com/example/paycadence/paycadence/format/PrintedName -/
def k2 : Class := { plain "com/example/paycadence/paycadence/format/PrintedName" (some 0) with
  accessFlags := 49
  interfaces := #[]
  cf := some (fileOf pool2 10 #[] #[{ accessFlags := 2, nameIndex := 5, descriptorIndex := 6, attributes := #[] }, { accessFlags := 8, nameIndex := 96, descriptorIndex := 97, attributes := #[] }] 49 2 #[] #[{ accessFlags := 26, nameIndex := 87, descriptorIndex := 88, attributes := #[] }])
  fields := #[{ name := "LINE_BREAKS", type := (.object "java/lang/String"), accessFlags := 26, slot := 0, constantValue := 0 }]
  methods := #[k2m0, k2m1]
  instanceTypes := #[]
  staticTypes := #[(.object "java/lang/String")]
  resolved := Array.replicate 119 none
  statics := none }

def pool3 : Array CpInfo := pool [(1, u "java/lang/Cloneable"), (0, .class_ 1), (0, u "java/lang/Object"), (0, .class_ 3)] 3

/-- java/lang/Cloneable -/
def k3 : Class := { plain "java/lang/Cloneable" (some 0) with
  accessFlags := 1537
  interfaces := #[]
  cf := some (fileOf pool3 2 #[] #[] 1537 4 #[] #[])
  fields := #[]
  methods := #[]
  instanceTypes := #[]
  staticTypes := #[]
  resolved := Array.replicate 8 none
  statics := none }

def pool4 : Array CpInfo := pool [(1, u "java/io/Serializable"), (0, .class_ 1), (0, u "java/lang/Object"), (0, .class_ 3)] 3

/-- java/io/Serializable -/
def k4 : Class := { plain "java/io/Serializable" (some 0) with
  accessFlags := 1537
  interfaces := #[]
  cf := some (fileOf pool4 2 #[] #[] 1537 4 #[] #[])
  fields := #[]
  methods := #[]
  instanceTypes := #[]
  staticTypes := #[]
  resolved := Array.replicate 8 none
  statics := none }

/-- the primitive byte -/
def k5 : Class := { plain "byte" none with kind := .primitive 'B', accessFlags := 0x411 }
/-- [B -/
def k6 : Class := { plain "[B" (some 0) with kind := .array 5 .byte, interfaces := #[3, 4], accessFlags := 1041 }

/-- the primitive int -/
def k7 : Class := { plain "int" none with kind := .primitive 'I', accessFlags := 0x411 }
/-- [I -/
def k8 : Class := { plain "[I" (some 0) with kind := .array 7 .int, interfaces := #[3, 4], accessFlags := 1041 }

def heap : Heap := #[]
def classes : Array Class := #[k0, k1, k2, k3, k4, k5, k6, k7, k8]
def interned : List (Array UInt16 × Addr) := []
def slotsUsed : Nat := 0
def theMethod : MethodId := ⟨1, 1⟩
def args0 : Array Value := #[.int 65, .int 66, .int 10, .int 67, .int 0, .int 4]
def aboutOver (below : List Frame) : State where
  vm := { classes := classes, interned := interned.toArray }
  heap := heap
  slotsUsed := slotsUsed
  threads := #[{ frames := .invoking theMethod args0 :: below }]
def below0 : List Frame := [.native { method := ⟨0, 0⟩, args := #[] }]
def about1 : State := aboutOver below0
def p0 : Program := .bare "" "" ""
def e0 : Env := launch0.env 0 0 0
theorem w_frames : about1.frames = Frame.invoking theMethod args0 :: below0 := rfl
set_option maxRecDepth 65536 in
theorem w_args : argsFit about1.vm theMethod args0 = true := by decide +kernel
set_option maxRecDepth 65536 in
theorem w_heap : heapFits about1 = true := by decide +kernel
set_option maxRecDepth 65536 in
theorem w_runnable : about1.curStatus? = some .runnable := by decide +kernel
set_option maxRecDepth 65536 in
theorem w_alone : about1.alone = true := by decide +kernel
set_option maxRecDepth 65536 in
theorem w_named : about1.methodNamed? x = some theMethod := by decide +kernel
set_option maxRecDepth 65536 in
theorem w_hears : about1.hears theMethod below0 = true := by decide +kernel
set_option maxRecDepth 65536 in
theorem w_ripe : about1.ripe theMethod args0 below0 = true := by decide +kernel
theorem w_running : about1.status = .running := rfl
set_option maxRecDepth 65536 in
theorem w_room : about1.hasRoom e0.platform room_1 = true :=
  launch0.hasRoom_least _ room_1 (by decide +kernel) (by decide +kernel) (by decide +kernel) (by decide +kernel) (by decide +kernel) (by decide +kernel)
theorem allAtoms_all (ts : List Jvm.Cond) (a : Array Jvm.Value) (st : Jvm.State) : (allAtoms ts).before a st = ts.all (fun c => c.before a st) := by
  induction ts with
  | nil => rfl
  | cons c t ih =>
    show (Jvm.Cond.and c (allAtoms t)).before a st = _
    rw [Jvm.Cond.before_and, ih, List.all_cons]
def words1 : List Jvm.Cond := Jvm.Cond.code x code maxLocals ret :: tables_1
/-- a 'code' word, met by the world's own term for the bytes: nothing is compared byte by byte -/
theorem code_word {y : MethodName} {bytes : ByteArray} {mx : Nat} {rt : Option FieldType} {a : Array Value} {s : State} {m : MethodId} {meth : Method} {c : Code} (h1 : s.methodNamed? y = some m) (h2 : s.vm.method? m = some meth) (h3 : meth.code = some c) (h4 : c.code = bytes)
    (h5 : (c.maxLocals == mx && c.exceptionTable.isEmpty && decide (c.maxStack ≤ mostOperands) && decide (meth.sig.returnType = rt) && !meth.locks && decide (parseMethodDescriptor y.desc = some meth.sig)) = true) : (Jvm.Cond.code y bytes mx rt).before a s = true := by
  simp only [Bool.and_eq_true, beq_iff_eq, Bool.not_eq_true', decide_eq_true_eq] at h5
  obtain ⟨⟨⟨⟨⟨g1, g2⟩, g3⟩, g4⟩, g5⟩, g6⟩ := h5
  simp [Cond.before, Cond.holds, Cond.value, h1, h2, h3, h4, g1, g2, g3, g4, g5, g6]
def isCode : Jvm.Cond → Bool
  | .code _ _ _ _ => true
  | _ => false
theorem all_split {L : List Jvm.Cond} {P : Jvm.Cond → Bool} (h1 : L.all (fun c => isCode c || P c) = true) (h2 : ∀ c ∈ L.filter isCode, P c = true) : L.all P = true := by
  refine List.all_eq_true.mpr fun c hc => ?_
  have h := List.all_eq_true.mp h1 c hc
  rcases Bool.eq_false_or_eq_true (isCode c) with hi | hi
  · exact h2 c (List.mem_filter.mpr ⟨hc, hi⟩)
  · simpa [hi] using h
set_option maxRecDepth 65536 in
theorem w_c0 : (Jvm.Cond.code x code maxLocals ret).before args0 about1 = true := code_word (m := ⟨1, 1⟩) (meth := k1m1) (c := k1c1) (by decide +kernel) rfl rfl rfl (by decide +kernel)
set_option maxRecDepth 65536 in
theorem w_c1 : (Jvm.Cond.code ({ cls := "com/example/paycadence/paycadence/format/PrintedNameMayEscapePinLaw", name := "inRange", desc := "(III)Z" } : Jvm.MethodName) method_3_code (3 : Nat) (Option.some Jvm.ClassFile.FieldType.boolean)).before args0 about1 = true := code_word (m := ⟨1, 2⟩) (meth := k1m2) (c := k1c2) (by decide +kernel) rfl rfl rfl (by decide +kernel)
set_option maxRecDepth 65536 in
theorem w_c2 : (Jvm.Cond.code ({ cls := "com/example/paycadence/paycadence/format/PrintedNameMayEscapePinLaw", name := "flagged", desc := "(I)Z" } : Jvm.MethodName) method_4_code (2 : Nat) (Option.some Jvm.ClassFile.FieldType.boolean)).before args0 about1 = true := code_word (m := ⟨1, 3⟩) (meth := k1m3) (c := k1c3) (by decide +kernel) rfl rfl rfl (by decide +kernel)
set_option maxRecDepth 65536 in
theorem w_c3 : (Jvm.Cond.code ({ cls := "com/example/paycadence/paycadence/format/PrintedName", name := "mayEscape", desc := "([BII)Z" } : Jvm.MethodName) prog_52_method_5_code (6 : Nat) (Option.some Jvm.ClassFile.FieldType.boolean)).before args0 about1 = true := code_word (m := ⟨2, 1⟩) (meth := k2m1) (c := k2c1) (by decide +kernel) rfl rfl rfl (by decide +kernel)
def codes1 : List Jvm.Cond := [Jvm.Cond.code x code maxLocals ret, Jvm.Cond.code ({ cls := "com/example/paycadence/paycadence/format/PrintedNameMayEscapePinLaw", name := "inRange", desc := "(III)Z" } : Jvm.MethodName) method_3_code (3 : Nat) (Option.some Jvm.ClassFile.FieldType.boolean), Jvm.Cond.code ({ cls := "com/example/paycadence/paycadence/format/PrintedNameMayEscapePinLaw", name := "flagged", desc := "(I)Z" } : Jvm.MethodName) method_4_code (2 : Nat) (Option.some Jvm.ClassFile.FieldType.boolean), Jvm.Cond.code ({ cls := "com/example/paycadence/paycadence/format/PrintedName", name := "mayEscape", desc := "([BII)Z" } : Jvm.MethodName) prog_52_method_5_code (6 : Nat) (Option.some Jvm.ClassFile.FieldType.boolean)]
set_option maxRecDepth 65536 in
theorem codes_eq : words1.filter isCode = codes1 := rfl
theorem w_codes : ∀ c ∈ words1.filter isCode, c.before args0 about1 = true := by
  rw [codes_eq]
  intro c hc
  simp only [codes1, List.mem_cons, List.not_mem_nil, or_false] at hc
  rcases hc with rfl | rfl | rfl | rfl
  · exact w_c0
  · exact w_c1
  · exact w_c2
  · exact w_c3
set_option maxRecDepth 65536 in
theorem w_t1 : words1.all (fun c => isCode c || c.before args0 about1) = true := by decide +kernel
theorem w_tables : (allAtoms (Jvm.Cond.code x code maxLocals ret :: tables_1)).before args0 about1 = true := by
  rw [allAtoms_all]
  show words1.all (fun c => c.before args0 about1) = true
  refine all_split ?_ w_codes
  rw [w_t1]
set_option maxRecDepth 65536 in
theorem w_case : (Jvm.Cond.and given_1 narrow_1).before args0 about1 = true := by decide +kernel
theorem w_applies : (headSpec (Jvm.Cond.code x code maxLocals ret :: tables_1) room_1).applies x e0.platform about1 = true :=
  (Spec.applies_iff w_frames).mpr ⟨w_running, w_runnable, w_alone, w_named, w_hears, w_ripe, w_room, w_tables⟩
theorem atStart : AtStart classFile x code maxLocals ret World_1 tables_1 room_1 Calls_1 rest_1 Pre_1 launch0 p0 e0 about1 theMethod args0 below0 :=
  ⟨lists_1, trivial, launch0.admits_env _ _ _, launch0.least_env, fairChoices_fair.cas, fairChoices_fair.clock, w_frames, w_args, w_heap, w_applies, trivial, trivial, w_case⟩
end start1
theorem witness_1 : WitnessClaimed_1 := ⟨start1.p0, start1.e0, start1.about1, start1.theMethod, start1.args0, start1.below0, start1.atStart⟩
end Jvm.Pilot.@@N@@
