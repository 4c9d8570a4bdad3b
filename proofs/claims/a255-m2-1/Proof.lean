import JvmDerived
import JvmDerived.Pilot.@@N@@Statement
import JvmDerived.Pilot.@@N@@Code
set_option linter.unusedVariables false
set_option linter.unusedSimpArgs false
namespace Jvm.OwnKit
open Sem ClassFile Op Lib Jvm.Stand Jvm.Free Jvm.LawKit Jvm.RoadKit
/-- every written place is one of ws or new -/
def FrW (h0 : Heap) (ws : List Addr) (L : List Loc) : Prop := ∀ y ∈ L, y.base ∈ ws ∨ h0.size ≤ y.base
/-- what stays fixed while a body runs -/
def Fix (p : Program) (Z s : State) (m : MethodId) (meth : Method) (c : Code) (bytes : ByteArray) (maxL : Nat) (own nm : String) (ret : Option FieldType) : Prop :=
  p.tables.exec = Jvm.exec ∧ Z.Warmed39 s.vm ∧ c.code = bytes ∧ c.maxLocals = maxL ∧ s.vm.findClass own = some m.cls ∧ meth.name = nm ∧ meth.sig.returnType = ret ∧ meth.locks = false
/-- where the run stands: its heap h, what was kept since h0 -/
def St (p : Program) (l : Launch) (e : Env) (R : Room) (s : State) (m : MethodId) (args : Array Value) (below : List Frame) (meth : Method) (c : Code) (h0 : Heap) (ws : List Addr) (T : State) (h : Heap) (cells slots : Nat) : Prop :=
  ∃ locs, Stand p l e R s m args below meth c T locs cells slots ∧ T.heap = h ∧ Keep h0 h ws ∧ FrW h0 ws locs
/-- from T with the top frame f the body comes to its end, and Q holds there -/
def Go (p : Program) (e : Env) (below : List Frame) (s : State) (K N : Nat) (h0 : Heap) (ws : List Addr) (Q : Option Value → Heap → Prop) (T : State) (f : JFrame) : Prop :=
  ∃ t o, Steps p.tables e below (T.setTop f) t ∧ t.status = .running ∧ Ended t below o ∧ ∃ v L, o = .returned v ∧ (Q v t.heap ∧ Keep h0 t.heap ws ∧ FrW h0 ws L) ∧ FrameEnd s o t L K N
/-- a method's contract: called with as' at the heap h0 it returns, writes ws and new cells alone, and Q holds -/
def Meth (l : Launch) (Z : State) (y : MethodName) (bytes : ByteArray) (maxL : Nat) (ret : Option FieldType) (rm : Room) (as' : Array Value) (h0 : Heap) (ws : List Addr) (Q : Option Value → Heap → Prop) : Prop :=
  ∀ wl, MetFree l y (head1 (Cond.code y bytes maxL ret :: wl) rm) (fun a U => a = as' ∧ Z.Warmed39 U.vm ∧ U.heap = h0) (fun _ _ _ _ _ => True) (fun _ U o U' => ∃ v L, o = .returned v ∧ (Q v U'.heap ∧ Keep h0 U'.heap ws ∧ FrW h0 ws L) ∧ FrameEnd U o U' L rm.cells rm.slots)
/-- an array of the kind ty that holds vs -/
def VA (Z : State) (h : Heap) (a : Addr) (ty : FieldType) (vs : List Value) : Prop := ∃ c : Cell, Arr Z h a c ty ∧ c.slots = vs.toArray ∧ vs.length < 2 ^ 31
section Arrays
variable {Z : State} {h h' : Heap} {a b : Addr} {ty : FieldType} {vs : List Value} {sl : Nat} {v : Value} {ws : List Addr}
theorem VA.lt (F : VA Z h a ty vs) : a < h.size := by obtain ⟨c, A, -⟩ := F; exact A.lt
theorem VA.ext (F : VA Z h a ty vs) (E : Ext h h') : VA Z h' a ty vs := by obtain ⟨c, A, r⟩ := F; exact ⟨c, A.ext E, r⟩
theorem VA.other (F : VA Z h b ty vs) (W : Wr h h' a sl v) (q : b ≠ a) : VA Z h' b ty vs := by obtain ⟨c, A, r⟩ := F; exact ⟨c, A.other W q, r⟩
theorem VA.keep (F : VA Z h a ty vs) (K : Keep h h' ws) (q : a ∉ ws) : VA Z h' a ty vs := by obtain ⟨c, A, r⟩ := F; exact ⟨c, ⟨K.2.1 a c A.1 q, A.2⟩, r⟩
theorem VA.set (F : VA Z h a ty vs) (W : Wr h h' a sl v) : VA Z h' a ty (vs.set sl v) := by
  obtain ⟨c, A, r, n⟩ := F
  refine ⟨_, A.same W, ?_, by simpa using n⟩
  show c.slots.setIfInBounds sl v = _
  rw [r]; simp
theorem VA.new {k : ClassId} {n : Int32} (A : Arr Z h a (newA k ty n) ty) (q : ¬ n < 0) : VA Z h a ty (List.replicate n.toNatClampNeg (defaultValue ty)) :=
  ⟨_, A, by simp [newA], by rw [List.length_replicate]; exact (back32 q).2⟩
theorem VA.len31 (F : VA Z h a ty vs) : vs.length < 2 ^ 31 := by obtain ⟨c, A, r, n⟩ := F; exact n
theorem inb {n : Nat} {j : Int32} (hj : 0 ≤ j.toInt ∧ j.toInt < n) : ¬ (j < 0 ∨ n ≤ j.toNatClampNeg) := by
  simp only [Int32.lt_iff_toInt_lt, Int32.toNatClampNeg, Int32.reduceToInt]; omega
theorem own_at {xs : List Int32} {j : Nat} (hj : j < xs.length) : (xs.map Value.int)[j]? = some (.int (xs.getD j 0)) := by
  simp [List.getElem?_eq_getElem hj]
theorem own_atL {xs : List Int64} {j : Nat} (hj : j < xs.length) : (xs.map Value.long)[j]? = some (.long (xs.getD j 0)) := by
  simp [List.getElem?_eq_getElem hj]
end Arrays
section Go
variable {p : Program} {l : Launch} {e : Env} {R : Room} {s : State} {m : MethodId} {args : Array Value} {below : List Frame} {meth : Method} {c : Code} {Z : State} {bytes : ByteArray} {maxL : Nat} {own nm : String} {ret : Option FieldType} {h0 : Heap} {ws : List Addr} {T T' : State} {locs : List Loc} {h : Heap} {cells slots K N : Nat} {Q : Option Value → Heap → Prop} {pc pc' : Nat} {Ls Ls' : Array Slot} {st : List Value} {a0 : Array Value}
theorem Go.to {f f' : JFrame} (k : ∀ t, Steps p.tables e below (T'.setTop f') t → Steps p.tables e below (T.setTop f) t) (g : Go p e below s K N h0 ws Q T' f') : Go p e below s K N h0 ws Q T f := by
  obtain ⟨t, o, a, r⟩ := g; exact ⟨t, o, k t a, r⟩
theorem Go.mono {Q' : Option Value → Heap → Prop} {f : JFrame} (g : Go p e below s K N h0 ws Q T f) (hq : ∀ v h, Q v h → Q' v h) : Go p e below s K N h0 ws Q' T f := by
  obtain ⟨t, o, a, b, d, v, L, e1, ⟨q, r⟩, z⟩ := g; exact ⟨t, o, a, b, d, v, L, e1, ⟨hq _ _ q, r⟩, z⟩
theorem Go.entry {f f' : JFrame} (q : f = f') (g : Go p e below s K N h0 ws Q T f') : Go p e below s K N h0 ws Q T f := q ▸ g
theorem St.more (X : St p l e R s m args below meth c h0 ws T h cells slots) {cells' slots' : Nat} (h1 : cells ≤ cells') (h2 : slots ≤ slots') : St p l e R s m args below meth c h0 ws T h cells' slots' := by
  obtain ⟨L, X, r⟩ := X; exact ⟨L, X.more h1 h2, r⟩
theorem St.kept (X : St p l e R s m args below meth c h0 ws T h cells slots) : Keep h0 h ws := by obtain ⟨L, X, e1, k, f⟩ := X; exact k
theorem St.here (X : St p l e R s m args below meth c h0 ws T h cells slots) : At T m c below := by obtain ⟨L, X, r⟩ := X; exact X.here
theorem Meth.mono {y : MethodName} {rm : Room} {as' : Array Value} {Q' : Option Value → Heap → Prop} (M : Meth l Z y bytes maxL ret rm as' h0 ws Q) (hq : ∀ v h, Q v h → Q' v h) : Meth l Z y bytes maxL ret rm as' h0 ws Q' := by
  intro wl p e ha hc hk s m args below hf happ hP hK
  obtain ⟨n, o, a, b, d, v, L, e1, ⟨q, r⟩, z⟩ := M wl p e ha hc hk s m args below hf happ hP hK
  exact ⟨n, o, a, b, d, v, L, e1, ⟨hq _ _ q, r⟩, z⟩
theorem Meth.of {y : MethodName} {rm : Room} {as' : Array Value} (hpl : plainFor y = true)
    (body : ∀ (p : Program) (e : Env) (s : State) (m : MethodId) (below : List Frame) (meth : Method) (c : Code) (T : State), Fix p Z s m meth c bytes maxL y.cls y.name ret → St p l e rm s m as' below meth c h0 ws T h0 0 0 → Go p e below s rm.cells rm.slots h0 ws Q T (entryFrame m as' maxL)) :
    Meth l Z y bytes maxL ret rm as' h0 ws Q := by
  intro wl
  refine MetFree.of_bodySF hpl hisR ?_
  intro p e s m args below meth c s₁ Bd hml0 hP hK
  obtain ⟨rfl, hZ, hh⟩ := hP
  have X0 : Stand p l e rm s m _ below meth c s₁ [] 0 0 := Stand.of_body Bd
  have e0 : s₁.heap = h0 := by rw [← hh, Bd.state]; rfl
  exact body p e s m below meth c s₁ ⟨Bd.exec, hZ, Bd.bytes, hml0, findClass_of_methodNamed Bd.named, (name_of_methodNamed Bd.named Bd.method).1, Bd.returns, Bd.notSynchronized⟩ ⟨[], X0, e0, Keep.refl _ _, fun y hy => nomatch hy⟩

theorem giload (B : Fix p Z s m meth c bytes maxL own nm ret) (X : St p l e R s m args below meth c h0 ws T h cells slots) {k : Nat} {v : Int32} (hd : decode bytes pc = .ok (.iload k, 2)) (hl : Ls[k]? = some (.val (.int v))) (hp : pc' = pc + 2) (g : Go p e below s K N h0 ws Q T (mkF m pc' Ls (.int v :: st))) : Go p e below s K N h0 ws Q T (mkF m pc Ls st) := by
  subst hp; obtain ⟨L, X, -⟩ := X; exact Go.to (fun t k => XS.iload X.here B.1 rfl (hb B.2.2.1 hd) hl k) g
theorem giloadN (B : Fix p Z s m meth c bytes maxL own nm ret) (X : St p l e R s m args below meth c h0 ws T h cells slots) {k : Fin 4} {v : Int32} (hd : decode bytes pc = .ok (.iload_n k, 1)) (hl : Ls[k.val]? = some (.val (.int v))) (hp : pc' = pc + 1) (g : Go p e below s K N h0 ws Q T (mkF m pc' Ls (.int v :: st))) : Go p e below s K N h0 ws Q T (mkF m pc Ls st) := by
  subst hp; obtain ⟨L, X, -⟩ := X; exact Go.to (fun t k => XS.iloadN X.here B.1 rfl (hb B.2.2.1 hd) hl k) g
theorem gistore (B : Fix p Z s m meth c bytes maxL own nm ret) (X : St p l e R s m args below meth c h0 ws T h cells slots) {k : Nat} {v : Int32} (hd : decode bytes pc = .ok (.istore k, 2)) (hl : storeLocals Ls k (.int v) = some Ls') (hp : pc' = pc + 2) (g : Go p e below s K N h0 ws Q T (mkF m pc' Ls' st)) : Go p e below s K N h0 ws Q T (mkF m pc Ls (.int v :: st)) := by
  subst hp; obtain ⟨L, X, -⟩ := X; exact Go.to (fun t k => XS.istore X.here B.1 rfl (hb B.2.2.1 hd) rfl hl k) g
theorem gistoreN (B : Fix p Z s m meth c bytes maxL own nm ret) (X : St p l e R s m args below meth c h0 ws T h cells slots) {k : Fin 4} {v : Int32} (hd : decode bytes pc = .ok (.istore_n k, 1)) (hl : storeLocals Ls k.val (.int v) = some Ls') (hp : pc' = pc + 1) (g : Go p e below s K N h0 ws Q T (mkF m pc' Ls' st)) : Go p e below s K N h0 ws Q T (mkF m pc Ls (.int v :: st)) := by
  subst hp; obtain ⟨L, X, -⟩ := X; exact Go.to (fun t k => XS.istoreN X.here B.1 rfl (hb B.2.2.1 hd) rfl hl k) g
theorem glload (B : Fix p Z s m meth c bytes maxL own nm ret) (X : St p l e R s m args below meth c h0 ws T h cells slots) {k : Nat} {v : Int64} (hd : decode bytes pc = .ok (.lload k, 2)) (hl : Ls[k]? = some (.val (.long v))) (hp : pc' = pc + 2) (g : Go p e below s K N h0 ws Q T (mkF m pc' Ls (.long v :: st))) : Go p e below s K N h0 ws Q T (mkF m pc Ls st) := by
  subst hp; obtain ⟨L, X, -⟩ := X; exact Go.to (fun t k => XS.lload X.here B.1 rfl (hb B.2.2.1 hd) hl k) g
theorem glloadN (B : Fix p Z s m meth c bytes maxL own nm ret) (X : St p l e R s m args below meth c h0 ws T h cells slots) {k : Fin 4} {v : Int64} (hd : decode bytes pc = .ok (.lload_n k, 1)) (hl : Ls[k.val]? = some (.val (.long v))) (hp : pc' = pc + 1) (g : Go p e below s K N h0 ws Q T (mkF m pc' Ls (.long v :: st))) : Go p e below s K N h0 ws Q T (mkF m pc Ls st) := by
  subst hp; obtain ⟨L, X, -⟩ := X; exact Go.to (fun t k => XS.lloadN X.here B.1 rfl (hb B.2.2.1 hd) hl k) g
theorem glstore (B : Fix p Z s m meth c bytes maxL own nm ret) (X : St p l e R s m args below meth c h0 ws T h cells slots) {k : Nat} {v : Int64} (hd : decode bytes pc = .ok (.lstore k, 2)) (hl : storeLocals Ls k (.long v) = some Ls') (hp : pc' = pc + 2) (g : Go p e below s K N h0 ws Q T (mkF m pc' Ls' st)) : Go p e below s K N h0 ws Q T (mkF m pc Ls (.long v :: st)) := by
  subst hp; obtain ⟨L, X, -⟩ := X; exact Go.to (fun t k => XS.lstore X.here B.1 rfl (hb B.2.2.1 hd) rfl hl k) g
theorem glstoreN (B : Fix p Z s m meth c bytes maxL own nm ret) (X : St p l e R s m args below meth c h0 ws T h cells slots) {k : Fin 4} {v : Int64} (hd : decode bytes pc = .ok (.lstore_n k, 1)) (hl : storeLocals Ls k.val (.long v) = some Ls') (hp : pc' = pc + 1) (g : Go p e below s K N h0 ws Q T (mkF m pc' Ls' st)) : Go p e below s K N h0 ws Q T (mkF m pc Ls (.long v :: st)) := by
  subst hp; obtain ⟨L, X, -⟩ := X; exact Go.to (fun t k => XS.lstoreN X.here B.1 rfl (hb B.2.2.1 hd) rfl hl k) g
theorem gaload (B : Fix p Z s m meth c bytes maxL own nm ret) (X : St p l e R s m args below meth c h0 ws T h cells slots) {k : Nat} {v : Value} (hd : decode bytes pc = .ok (.aload k, 2)) (hl : Ls[k]? = some (.val v)) (hv : v.isRef = true) (hp : pc' = pc + 2) (g : Go p e below s K N h0 ws Q T (mkF m pc' Ls (v :: st))) : Go p e below s K N h0 ws Q T (mkF m pc Ls st) := by
  subst hp; obtain ⟨L, X, -⟩ := X; exact Go.to (fun t k => XS.aload X.here B.1 rfl (hb B.2.2.1 hd) hl hv k) g
theorem galoadN (B : Fix p Z s m meth c bytes maxL own nm ret) (X : St p l e R s m args below meth c h0 ws T h cells slots) {k : Fin 4} {v : Value} (hd : decode bytes pc = .ok (.aload_n k, 1)) (hl : Ls[k.val]? = some (.val v)) (hv : v.isRef = true) (hp : pc' = pc + 1) (g : Go p e below s K N h0 ws Q T (mkF m pc' Ls (v :: st))) : Go p e below s K N h0 ws Q T (mkF m pc Ls st) := by
  subst hp; obtain ⟨L, X, -⟩ := X; exact Go.to (fun t k => XS.aloadN X.here B.1 rfl (hb B.2.2.1 hd) hl hv k) g
theorem gastore (B : Fix p Z s m meth c bytes maxL own nm ret) (X : St p l e R s m args below meth c h0 ws T h cells slots) {k : Nat} {v : Value} (hd : decode bytes pc = .ok (.astore k, 2)) (hv : v.isRef = true) (hl : storeLocals Ls k v = some Ls') (hp : pc' = pc + 2) (g : Go p e below s K N h0 ws Q T (mkF m pc' Ls' st)) : Go p e below s K N h0 ws Q T (mkF m pc Ls (v :: st)) := by
  subst hp; obtain ⟨L, X, -⟩ := X; exact Go.to (fun t k => XS.astore X.here B.1 rfl (hb B.2.2.1 hd) rfl hv hl k) g
theorem gastoreN (B : Fix p Z s m meth c bytes maxL own nm ret) (X : St p l e R s m args below meth c h0 ws T h cells slots) {k : Fin 4} {v : Value} (hd : decode bytes pc = .ok (.astore_n k, 1)) (hv : v.isRef = true) (hl : storeLocals Ls k.val v = some Ls') (hp : pc' = pc + 1) (g : Go p e below s K N h0 ws Q T (mkF m pc' Ls' st)) : Go p e below s K N h0 ws Q T (mkF m pc Ls (v :: st)) := by
  subst hp; obtain ⟨L, X, -⟩ := X; exact Go.to (fun t k => XS.astoreN X.here B.1 rfl (hb B.2.2.1 hd) rfl hv hl k) g
theorem giconst (B : Fix p Z s m meth c bytes maxL own nm ret) (X : St p l e R s m args below meth c h0 ws T h cells slots) {i : Int} {v : Int32} (hd : decode bytes pc = .ok (.iconst i, 1)) (hv : Int32.ofInt i = v) (hp : pc' = pc + 1) (g : Go p e below s K N h0 ws Q T (mkF m pc' Ls (.int v :: st))) : Go p e below s K N h0 ws Q T (mkF m pc Ls st) := by
  subst hp; subst hv; obtain ⟨L, X, -⟩ := X; exact Go.to (fun t k => XS.iconst X.here B.1 rfl (hb B.2.2.1 hd) k) g
theorem gbipush (B : Fix p Z s m meth c bytes maxL own nm ret) (X : St p l e R s m args below meth c h0 ws T h cells slots) {i : Int} {v : Int32} (hd : decode bytes pc = .ok (.bipush i, 2)) (hv : (Int8.ofInt i).toInt32 = v) (hp : pc' = pc + 2) (g : Go p e below s K N h0 ws Q T (mkF m pc' Ls (.int v :: st))) : Go p e below s K N h0 ws Q T (mkF m pc Ls st) := by
  subst hp; subst hv; obtain ⟨L, X, -⟩ := X; exact Go.to (fun t k => XS.bipush X.here B.1 rfl (hb B.2.2.1 hd) k) g
theorem gsipush (B : Fix p Z s m meth c bytes maxL own nm ret) (X : St p l e R s m args below meth c h0 ws T h cells slots) {i : Int} {v : Int32} (hd : decode bytes pc = .ok (.sipush i, 3)) (hv : (Int16.ofInt i).toInt32 = v) (hp : pc' = pc + 3) (g : Go p e below s K N h0 ws Q T (mkF m pc' Ls (.int v :: st))) : Go p e below s K N h0 ws Q T (mkF m pc Ls st) := by
  subst hp; subst hv; obtain ⟨L, X, -⟩ := X; exact Go.to (fun t k => XS.sipush X.here B.1 rfl (hb B.2.2.1 hd) k) g
theorem glconst (B : Fix p Z s m meth c bytes maxL own nm ret) (X : St p l e R s m args below meth c h0 ws T h cells slots) {k : Fin 2} {v : Int64} (hd : decode bytes pc = .ok (.lconst k, 1)) (hv : Int64.ofNat k = v) (hp : pc' = pc + 1) (g : Go p e below s K N h0 ws Q T (mkF m pc' Ls (.long v :: st))) : Go p e below s K N h0 ws Q T (mkF m pc Ls st) := by
  subst hp; subst hv; obtain ⟨L, X, -⟩ := X; exact Go.to (fun t k => XS.lconst X.here B.1 rfl (hb B.2.2.1 hd) k) g
theorem gnull (B : Fix p Z s m meth c bytes maxL own nm ret) (X : St p l e R s m args below meth c h0 ws T h cells slots)  (hd : decode bytes pc = .ok (.aconst_null, 1))  (hp : pc' = pc + 1) (g : Go p e below s K N h0 ws Q T (mkF m pc' Ls (.null :: st))) : Go p e below s K N h0 ws Q T (mkF m pc Ls st) := by
  subst hp; obtain ⟨L, X, -⟩ := X; exact Go.to (fun t k => XS.aconstNull X.here B.1 rfl (hb B.2.2.1 hd)  k) g
theorem giadd (B : Fix p Z s m meth c bytes maxL own nm ret) (X : St p l e R s m args below meth c h0 ws T h cells slots) {x y : Int32} {v : Int32} (hd : decode bytes pc = .ok (.iadd, 1))  (hv : x + y = v) (hp : pc' = pc + 1) (g : Go p e below s K N h0 ws Q T (mkF m pc' Ls (.int v :: st))) : Go p e below s K N h0 ws Q T (mkF m pc Ls (.int y :: .int x :: st)) := by
  subst hp; subst hv; obtain ⟨L, X, -⟩ := X; exact Go.to (fun t k => XS.iadd X.here B.1 rfl (hb B.2.2.1 hd) rfl k) g
theorem gladd (B : Fix p Z s m meth c bytes maxL own nm ret) (X : St p l e R s m args below meth c h0 ws T h cells slots) {x y : Int64} {v : Int64} (hd : decode bytes pc = .ok (.ladd, 1))  (hv : x + y = v) (hp : pc' = pc + 1) (g : Go p e below s K N h0 ws Q T (mkF m pc' Ls (.long v :: st))) : Go p e below s K N h0 ws Q T (mkF m pc Ls (.long y :: .long x :: st)) := by
  subst hp; subst hv; obtain ⟨L, X, -⟩ := X; exact Go.to (fun t k => XS.ladd X.here B.1 rfl (hb B.2.2.1 hd) rfl k) g
theorem gisub (B : Fix p Z s m meth c bytes maxL own nm ret) (X : St p l e R s m args below meth c h0 ws T h cells slots) {x y : Int32} {v : Int32} (hd : decode bytes pc = .ok (.isub, 1))  (hv : x - y = v) (hp : pc' = pc + 1) (g : Go p e below s K N h0 ws Q T (mkF m pc' Ls (.int v :: st))) : Go p e below s K N h0 ws Q T (mkF m pc Ls (.int y :: .int x :: st)) := by
  subst hp; subst hv; obtain ⟨L, X, -⟩ := X; exact Go.to (fun t k => XS.isub X.here B.1 rfl (hb B.2.2.1 hd) rfl k) g
theorem glsub (B : Fix p Z s m meth c bytes maxL own nm ret) (X : St p l e R s m args below meth c h0 ws T h cells slots) {x y : Int64} {v : Int64} (hd : decode bytes pc = .ok (.lsub, 1))  (hv : x - y = v) (hp : pc' = pc + 1) (g : Go p e below s K N h0 ws Q T (mkF m pc' Ls (.long v :: st))) : Go p e below s K N h0 ws Q T (mkF m pc Ls (.long y :: .long x :: st)) := by
  subst hp; subst hv; obtain ⟨L, X, -⟩ := X; exact Go.to (fun t k => XS.lsub X.here B.1 rfl (hb B.2.2.1 hd) rfl k) g
theorem gimul (B : Fix p Z s m meth c bytes maxL own nm ret) (X : St p l e R s m args below meth c h0 ws T h cells slots) {x y : Int32} {v : Int32} (hd : decode bytes pc = .ok (.imul, 1))  (hv : x * y = v) (hp : pc' = pc + 1) (g : Go p e below s K N h0 ws Q T (mkF m pc' Ls (.int v :: st))) : Go p e below s K N h0 ws Q T (mkF m pc Ls (.int y :: .int x :: st)) := by
  subst hp; subst hv; obtain ⟨L, X, -⟩ := X; exact Go.to (fun t k => XS.imul X.here B.1 rfl (hb B.2.2.1 hd) rfl k) g
theorem glmul (B : Fix p Z s m meth c bytes maxL own nm ret) (X : St p l e R s m args below meth c h0 ws T h cells slots) {x y : Int64} {v : Int64} (hd : decode bytes pc = .ok (.lmul, 1))  (hv : x * y = v) (hp : pc' = pc + 1) (g : Go p e below s K N h0 ws Q T (mkF m pc' Ls (.long v :: st))) : Go p e below s K N h0 ws Q T (mkF m pc Ls (.long y :: .long x :: st)) := by
  subst hp; subst hv; obtain ⟨L, X, -⟩ := X; exact Go.to (fun t k => XS.lmul X.here B.1 rfl (hb B.2.2.1 hd) rfl k) g
theorem giand (B : Fix p Z s m meth c bytes maxL own nm ret) (X : St p l e R s m args below meth c h0 ws T h cells slots) {x y : Int32} {v : Int32} (hd : decode bytes pc = .ok (.iand, 1))  (hv : x &&& y = v) (hp : pc' = pc + 1) (g : Go p e below s K N h0 ws Q T (mkF m pc' Ls (.int v :: st))) : Go p e below s K N h0 ws Q T (mkF m pc Ls (.int y :: .int x :: st)) := by
  subst hp; subst hv; obtain ⟨L, X, -⟩ := X; exact Go.to (fun t k => XS.iand X.here B.1 rfl (hb B.2.2.1 hd) rfl k) g
theorem gland (B : Fix p Z s m meth c bytes maxL own nm ret) (X : St p l e R s m args below meth c h0 ws T h cells slots) {x y : Int64} {v : Int64} (hd : decode bytes pc = .ok (.land, 1))  (hv : x &&& y = v) (hp : pc' = pc + 1) (g : Go p e below s K N h0 ws Q T (mkF m pc' Ls (.long v :: st))) : Go p e below s K N h0 ws Q T (mkF m pc Ls (.long y :: .long x :: st)) := by
  subst hp; subst hv; obtain ⟨L, X, -⟩ := X; exact Go.to (fun t k => XS.land X.here B.1 rfl (hb B.2.2.1 hd) rfl k) g
theorem gior (B : Fix p Z s m meth c bytes maxL own nm ret) (X : St p l e R s m args below meth c h0 ws T h cells slots) {x y : Int32} {v : Int32} (hd : decode bytes pc = .ok (.ior, 1))  (hv : x ||| y = v) (hp : pc' = pc + 1) (g : Go p e below s K N h0 ws Q T (mkF m pc' Ls (.int v :: st))) : Go p e below s K N h0 ws Q T (mkF m pc Ls (.int y :: .int x :: st)) := by
  subst hp; subst hv; obtain ⟨L, X, -⟩ := X; exact Go.to (fun t k => XS.ior X.here B.1 rfl (hb B.2.2.1 hd) rfl k) g
theorem glor (B : Fix p Z s m meth c bytes maxL own nm ret) (X : St p l e R s m args below meth c h0 ws T h cells slots) {x y : Int64} {v : Int64} (hd : decode bytes pc = .ok (.lor, 1))  (hv : x ||| y = v) (hp : pc' = pc + 1) (g : Go p e below s K N h0 ws Q T (mkF m pc' Ls (.long v :: st))) : Go p e below s K N h0 ws Q T (mkF m pc Ls (.long y :: .long x :: st)) := by
  subst hp; subst hv; obtain ⟨L, X, -⟩ := X; exact Go.to (fun t k => XS.lor X.here B.1 rfl (hb B.2.2.1 hd) rfl k) g
theorem gixor (B : Fix p Z s m meth c bytes maxL own nm ret) (X : St p l e R s m args below meth c h0 ws T h cells slots) {x y : Int32} {v : Int32} (hd : decode bytes pc = .ok (.ixor, 1))  (hv : x ^^^ y = v) (hp : pc' = pc + 1) (g : Go p e below s K N h0 ws Q T (mkF m pc' Ls (.int v :: st))) : Go p e below s K N h0 ws Q T (mkF m pc Ls (.int y :: .int x :: st)) := by
  subst hp; subst hv; obtain ⟨L, X, -⟩ := X; exact Go.to (fun t k => XS.ixor X.here B.1 rfl (hb B.2.2.1 hd) rfl k) g
theorem glxor (B : Fix p Z s m meth c bytes maxL own nm ret) (X : St p l e R s m args below meth c h0 ws T h cells slots) {x y : Int64} {v : Int64} (hd : decode bytes pc = .ok (.lxor, 1))  (hv : x ^^^ y = v) (hp : pc' = pc + 1) (g : Go p e below s K N h0 ws Q T (mkF m pc' Ls (.long v :: st))) : Go p e below s K N h0 ws Q T (mkF m pc Ls (.long y :: .long x :: st)) := by
  subst hp; subst hv; obtain ⟨L, X, -⟩ := X; exact Go.to (fun t k => XS.lxor X.here B.1 rfl (hb B.2.2.1 hd) rfl k) g
theorem gidiv (B : Fix p Z s m meth c bytes maxL own nm ret) (X : St p l e R s m args below meth c h0 ws T h cells slots) {x y : Int32} {v : Int32} (hd : decode bytes pc = .ok (.idiv, 1)) (hy : y ≠ 0) (hv : x / y = v) (hp : pc' = pc + 1) (g : Go p e below s K N h0 ws Q T (mkF m pc' Ls (.int v :: st))) : Go p e below s K N h0 ws Q T (mkF m pc Ls (.int y :: .int x :: st)) := by
  subst hp; subst hv; obtain ⟨L, X, -⟩ := X; exact Go.to (fun t k => XS.idiv X.here B.1 rfl (hb B.2.2.1 hd) rfl hy k) g
theorem gldiv (B : Fix p Z s m meth c bytes maxL own nm ret) (X : St p l e R s m args below meth c h0 ws T h cells slots) {x y : Int64} {v : Int64} (hd : decode bytes pc = .ok (.ldiv, 1)) (hy : y ≠ 0) (hv : x / y = v) (hp : pc' = pc + 1) (g : Go p e below s K N h0 ws Q T (mkF m pc' Ls (.long v :: st))) : Go p e below s K N h0 ws Q T (mkF m pc Ls (.long y :: .long x :: st)) := by
  subst hp; subst hv; obtain ⟨L, X, -⟩ := X; exact Go.to (fun t k => XS.ldiv X.here B.1 rfl (hb B.2.2.1 hd) rfl hy k) g
theorem girem (B : Fix p Z s m meth c bytes maxL own nm ret) (X : St p l e R s m args below meth c h0 ws T h cells slots) {x y v : Int32} (hd : decode bytes pc = .ok (.irem, 1)) (hy : y ≠ 0) (hv : x % y = v) (hp : pc' = pc + 1) (g : Go p e below s K N h0 ws Q T (mkF m pc' Ls (.int v :: st))) : Go p e below s K N h0 ws Q T (mkF m pc Ls (.int y :: .int x :: st)) := by
  subst hp; subst hv; obtain ⟨L, X, -⟩ := X; exact Go.to (fun t k => iremM X B.1 rfl (hb B.2.2.1 hd) rfl hy k) g
theorem glrem (B : Fix p Z s m meth c bytes maxL own nm ret) (X : St p l e R s m args below meth c h0 ws T h cells slots) {x y v : Int64} (hd : decode bytes pc = .ok (.lrem, 1)) (hy : y ≠ 0) (hv : x % y = v) (hp : pc' = pc + 1) (g : Go p e below s K N h0 ws Q T (mkF m pc' Ls (.long v :: st))) : Go p e below s K N h0 ws Q T (mkF m pc Ls (.long y :: .long x :: st)) := by
  subst hp; subst hv; obtain ⟨L, X, -⟩ := X; exact Go.to (fun t k => XS.lrem X.here B.1 rfl (hb B.2.2.1 hd) rfl hy (by rw [lrem_mod]; exact k)) g
theorem gishl (B : Fix p Z s m meth c bytes maxL own nm ret) (X : St p l e R s m args below meth c h0 ws T h cells slots) {x y : Int32} {v : Int32} (hd : decode bytes pc = .ok (.ishl, 1))  (hv : x <<< (y &&& 31) = v) (hp : pc' = pc + 1) (g : Go p e below s K N h0 ws Q T (mkF m pc' Ls (.int v :: st))) : Go p e below s K N h0 ws Q T (mkF m pc Ls (.int y :: .int x :: st)) := by
  subst hp; subst hv; obtain ⟨L, X, -⟩ := X; exact Go.to (fun t k => XS.ishl X.here B.1 rfl (hb B.2.2.1 hd) rfl k) g
theorem gishr (B : Fix p Z s m meth c bytes maxL own nm ret) (X : St p l e R s m args below meth c h0 ws T h cells slots) {x y : Int32} {v : Int32} (hd : decode bytes pc = .ok (.ishr, 1))  (hv : x >>> (y &&& 31) = v) (hp : pc' = pc + 1) (g : Go p e below s K N h0 ws Q T (mkF m pc' Ls (.int v :: st))) : Go p e below s K N h0 ws Q T (mkF m pc Ls (.int y :: .int x :: st)) := by
  subst hp; subst hv; obtain ⟨L, X, -⟩ := X; exact Go.to (fun t k => XS.ishr X.here B.1 rfl (hb B.2.2.1 hd) rfl k) g
theorem giushr (B : Fix p Z s m meth c bytes maxL own nm ret) (X : St p l e R s m args below meth c h0 ws T h cells slots) {x y : Int32} {v : Int32} (hd : decode bytes pc = .ok (.iushr, 1))  (hv : (x.toUInt32 >>> (y &&& 31).toUInt32).toInt32 = v) (hp : pc' = pc + 1) (g : Go p e below s K N h0 ws Q T (mkF m pc' Ls (.int v :: st))) : Go p e below s K N h0 ws Q T (mkF m pc Ls (.int y :: .int x :: st)) := by
  subst hp; subst hv; obtain ⟨L, X, -⟩ := X; exact Go.to (fun t k => XS.iushr X.here B.1 rfl (hb B.2.2.1 hd) rfl k) g
theorem glshl (B : Fix p Z s m meth c bytes maxL own nm ret) (X : St p l e R s m args below meth c h0 ws T h cells slots) {x : Int64} {y : Int32} {v : Int64} (hd : decode bytes pc = .ok (.lshl, 1))  (hv : x <<< (y &&& 0x3f).toInt64 = v) (hp : pc' = pc + 1) (g : Go p e below s K N h0 ws Q T (mkF m pc' Ls (.long v :: st))) : Go p e below s K N h0 ws Q T (mkF m pc Ls (.int y :: .long x :: st)) := by
  subst hp; subst hv; obtain ⟨L, X, -⟩ := X; exact Go.to (fun t k => XS.lshl X.here B.1 rfl (hb B.2.2.1 hd) rfl k) g
theorem glshr (B : Fix p Z s m meth c bytes maxL own nm ret) (X : St p l e R s m args below meth c h0 ws T h cells slots) {x : Int64} {y : Int32} {v : Int64} (hd : decode bytes pc = .ok (.lshr, 1))  (hv : x >>> (y &&& 0x3f).toInt64 = v) (hp : pc' = pc + 1) (g : Go p e below s K N h0 ws Q T (mkF m pc' Ls (.long v :: st))) : Go p e below s K N h0 ws Q T (mkF m pc Ls (.int y :: .long x :: st)) := by
  subst hp; subst hv; obtain ⟨L, X, -⟩ := X; exact Go.to (fun t k => XS.lshr X.here B.1 rfl (hb B.2.2.1 hd) rfl k) g
theorem glushr (B : Fix p Z s m meth c bytes maxL own nm ret) (X : St p l e R s m args below meth c h0 ws T h cells slots) {x : Int64} {y : Int32} {v : Int64} (hd : decode bytes pc = .ok (.lushr, 1))  (hv : (x.toUInt64 >>> (y &&& 0x3f).toInt64.toUInt64).toInt64 = v) (hp : pc' = pc + 1) (g : Go p e below s K N h0 ws Q T (mkF m pc' Ls (.long v :: st))) : Go p e below s K N h0 ws Q T (mkF m pc Ls (.int y :: .long x :: st)) := by
  subst hp; subst hv; obtain ⟨L, X, -⟩ := X; exact Go.to (fun t k => XS.lushr X.here B.1 rfl (hb B.2.2.1 hd) rfl k) g
theorem gineg (B : Fix p Z s m meth c bytes maxL own nm ret) (X : St p l e R s m args below meth c h0 ws T h cells slots) {x : Int32} {v : Int32} (hd : decode bytes pc = .ok (.ineg, 1))  (hv : -x = v) (hp : pc' = pc + 1) (g : Go p e below s K N h0 ws Q T (mkF m pc' Ls (.int v :: st))) : Go p e below s K N h0 ws Q T (mkF m pc Ls (.int x :: st)) := by
  subst hp; subst hv; obtain ⟨L, X, -⟩ := X; exact Go.to (fun t k => XS.ineg X.here B.1 rfl (hb B.2.2.1 hd) rfl k) g
theorem glneg (B : Fix p Z s m meth c bytes maxL own nm ret) (X : St p l e R s m args below meth c h0 ws T h cells slots) {x : Int64} {v : Int64} (hd : decode bytes pc = .ok (.lneg, 1))  (hv : -x = v) (hp : pc' = pc + 1) (g : Go p e below s K N h0 ws Q T (mkF m pc' Ls (.long v :: st))) : Go p e below s K N h0 ws Q T (mkF m pc Ls (.long x :: st)) := by
  subst hp; subst hv; obtain ⟨L, X, -⟩ := X; exact Go.to (fun t k => XS.lneg X.here B.1 rfl (hb B.2.2.1 hd) rfl k) g
theorem gi2l (B : Fix p Z s m meth c bytes maxL own nm ret) (X : St p l e R s m args below meth c h0 ws T h cells slots) {x : Int32} {v : Int64} (hd : decode bytes pc = .ok (.i2l, 1))  (hv : x.toInt64 = v) (hp : pc' = pc + 1) (g : Go p e below s K N h0 ws Q T (mkF m pc' Ls (.long v :: st))) : Go p e below s K N h0 ws Q T (mkF m pc Ls (.int x :: st)) := by
  subst hp; subst hv; obtain ⟨L, X, -⟩ := X; exact Go.to (fun t k => XS.i2l X.here B.1 rfl (hb B.2.2.1 hd) rfl k) g
theorem gl2i (B : Fix p Z s m meth c bytes maxL own nm ret) (X : St p l e R s m args below meth c h0 ws T h cells slots) {x : Int64} {v : Int32} (hd : decode bytes pc = .ok (.l2i, 1))  (hv : x.toInt32 = v) (hp : pc' = pc + 1) (g : Go p e below s K N h0 ws Q T (mkF m pc' Ls (.int v :: st))) : Go p e below s K N h0 ws Q T (mkF m pc Ls (.long x :: st)) := by
  subst hp; subst hv; obtain ⟨L, X, -⟩ := X; exact Go.to (fun t k => XS.l2i X.here B.1 rfl (hb B.2.2.1 hd) rfl k) g
theorem gi2b (B : Fix p Z s m meth c bytes maxL own nm ret) (X : St p l e R s m args below meth c h0 ws T h cells slots) {x : Int32} {v : Int32} (hd : decode bytes pc = .ok (.i2b, 1))  (hv : x.toInt8.toInt32 = v) (hp : pc' = pc + 1) (g : Go p e below s K N h0 ws Q T (mkF m pc' Ls (.int v :: st))) : Go p e below s K N h0 ws Q T (mkF m pc Ls (.int x :: st)) := by
  subst hp; subst hv; obtain ⟨L, X, -⟩ := X; exact Go.to (fun t k => XS.i2b X.here B.1 rfl (hb B.2.2.1 hd) rfl k) g
theorem gi2s (B : Fix p Z s m meth c bytes maxL own nm ret) (X : St p l e R s m args below meth c h0 ws T h cells slots) {x : Int32} {v : Int32} (hd : decode bytes pc = .ok (.i2s, 1))  (hv : x.toInt16.toInt32 = v) (hp : pc' = pc + 1) (g : Go p e below s K N h0 ws Q T (mkF m pc' Ls (.int v :: st))) : Go p e below s K N h0 ws Q T (mkF m pc Ls (.int x :: st)) := by
  subst hp; subst hv; obtain ⟨L, X, -⟩ := X; exact Go.to (fun t k => XS.i2s X.here B.1 rfl (hb B.2.2.1 hd) rfl k) g
theorem gi2c (B : Fix p Z s m meth c bytes maxL own nm ret) (X : St p l e R s m args below meth c h0 ws T h cells slots) {x : Int32} {v : Int32} (hd : decode bytes pc = .ok (.i2c, 1))  (hv : x.toUInt32.toUInt16.toUInt32.toInt32 = v) (hp : pc' = pc + 1) (g : Go p e below s K N h0 ws Q T (mkF m pc' Ls (.int v :: st))) : Go p e below s K N h0 ws Q T (mkF m pc Ls (.int x :: st)) := by
  subst hp; subst hv; obtain ⟨L, X, -⟩ := X; exact Go.to (fun t k => XS.i2c X.here B.1 rfl (hb B.2.2.1 hd) rfl k) g
theorem glcmp (B : Fix p Z s m meth c bytes maxL own nm ret) (X : St p l e R s m args below meth c h0 ws T h cells slots) {x y : Int64} (hd : decode bytes pc = .ok (.lcmp, 1))  (hp : pc' = pc + 1) (g : Go p e below s K N h0 ws Q T (mkF m pc' Ls (.int (lcmpW x y) :: st))) : Go p e below s K N h0 ws Q T (mkF m pc Ls (.long y :: .long x :: st)) := by
  subst hp; obtain ⟨L, X, -⟩ := X; exact Go.to (fun t k => XS.lcmp X.here B.1 rfl (hb B.2.2.1 hd) rfl k) g
theorem gdup (B : Fix p Z s m meth c bytes maxL own nm ret) (X : St p l e R s m args below meth c h0 ws T h cells slots) {x : Value} (hd : decode bytes pc = .ok (.dup, 1)) (hc : x.category = 1) (hp : pc' = pc + 1) (g : Go p e below s K N h0 ws Q T (mkF m pc' Ls (x :: x :: st))) : Go p e below s K N h0 ws Q T (mkF m pc Ls (x :: st)) := by
  subst hp; obtain ⟨L, X, -⟩ := X; exact Go.to (fun t k => XS.dup X.here B.1 rfl (hb B.2.2.1 hd) rfl hc k) g
theorem gpop (B : Fix p Z s m meth c bytes maxL own nm ret) (X : St p l e R s m args below meth c h0 ws T h cells slots) {x : Value} (hd : decode bytes pc = .ok (.pop, 1)) (hc : x.category = 1) (hp : pc' = pc + 1) (g : Go p e below s K N h0 ws Q T (mkF m pc' Ls st)) : Go p e below s K N h0 ws Q T (mkF m pc Ls (x :: st)) := by
  subst hp; obtain ⟨L, X, -⟩ := X; exact Go.to (fun t k => XS.pop X.here B.1 rfl (hb B.2.2.1 hd) rfl hc k) g
theorem gdup_x1 (B : Fix p Z s m meth c bytes maxL own nm ret) (X : St p l e R s m args below meth c h0 ws T h cells slots) {x y : Value} (hd : decode bytes pc = .ok (.dup_x1, 1)) (hc : x.category = 1) (hc2 : y.category = 1) (hp : pc' = pc + 1) (g : Go p e below s K N h0 ws Q T (mkF m pc' Ls (x :: y :: x :: st))) : Go p e below s K N h0 ws Q T (mkF m pc Ls (x :: y :: st)) := by
  subst hp; obtain ⟨L, X, -⟩ := X; exact Go.to (fun t k => XS.dupX1 X.here B.1 rfl (hb B.2.2.1 hd) rfl hc hc2 k) g
theorem gdup2 (B : Fix p Z s m meth c bytes maxL own nm ret) (X : St p l e R s m args below meth c h0 ws T h cells slots) {x y : Value} (hd : decode bytes pc = .ok (.dup2, 1)) (hc : x.category = 1) (hc2 : y.category = 1) (hp : pc' = pc + 1) (g : Go p e below s K N h0 ws Q T (mkF m pc' Ls (x :: y :: x :: y :: st))) : Go p e below s K N h0 ws Q T (mkF m pc Ls (x :: y :: st)) := by
  subst hp; obtain ⟨L, X, -⟩ := X; exact Go.to (fun t k => Jvm.Free.XT.dup2 X.here B.1 rfl (hb B.2.2.1 hd) rfl hc hc2 k) g
theorem xdup_x2 {tb : Tables} [Ours tb] {target : State} {g : JFrame} (h : At T m c below) (hx : tb.exec = Jvm.exec) (hg : g.method = m) {x y z : Value} {rest : List Value} (hd : decode c.code g.pc = .ok (.dup_x2, 1)) (hs : g.stack = x :: y :: z :: rest) (hc : x.category = 1) (hc' : y.category = 1) (hc2 : z.category = 1)
    (hr : Steps tb e below (T.setTop { g with pc := g.pc + 1, stack := x :: y :: z :: x :: rest }) target) : Steps tb e below (T.setTop g) target := by
  subst hg
  jvm_step h [h.top, hx, hd, hs, hc, hc', hc2]
  exact hr
theorem gdup_x2 (B : Fix p Z s m meth c bytes maxL own nm ret) (X : St p l e R s m args below meth c h0 ws T h cells slots) {x y z : Value} (hd : decode bytes pc = .ok (.dup_x2, 1)) (hc : x.category = 1) (hc2 : y.category = 1) (hc3 : z.category = 1) (hp : pc' = pc + 1) (g : Go p e below s K N h0 ws Q T (mkF m pc' Ls (x :: y :: z :: x :: st))) : Go p e below s K N h0 ws Q T (mkF m pc Ls (x :: y :: z :: st)) := by
  subst hp; obtain ⟨L, X, -⟩ := X; exact Go.to (fun t k => xdup_x2 X.here B.1 rfl (hb B.2.2.1 hd) rfl hc hc2 hc3 k) g
theorem giinc (B : Fix p Z s m meth c bytes maxL own nm ret) (X : St p l e R s m args below meth c h0 ws T h cells slots) {k : Nat} {cst : Int} {x v : Int32} (hd : decode bytes pc = .ok (.iinc k cst, 3)) (hl : Ls[k]? = some (.val (.int x))) (hv : x + Int32.ofInt cst = v) (hl' : storeLocals Ls k (.int v) = some Ls') (hp : pc' = pc + 3) (g : Go p e below s K N h0 ws Q T (mkF m pc' Ls' st)) : Go p e below s K N h0 ws Q T (mkF m pc Ls st) := by
  subst hp; subst hv; obtain ⟨L, X, -⟩ := X; exact Go.to (fun t k => XS.iinc X.here B.1 rfl (hb B.2.2.1 hd) hl hl' k) g
theorem ggoto (B : Fix p Z s m meth c bytes maxL own nm ret) (X : St p l e R s m args below meth c h0 ws T h cells slots) {o : Int} (hd : decode bytes pc = .ok (.goto o, 3)) (ho : 0 ≤ (pc : Int) + o ∧ ((pc : Int) + o).toNat = pc') (g : Go p e below s K N h0 ws Q T (mkF m pc' Ls st)) : Go p e below s K N h0 ws Q T (mkF m pc Ls st) := by
  obtain ⟨L, X, -⟩ := X; exact Go.to (fun t k => XS.goto X.here B.1 rfl (pc0 := pc) rfl (hb B.2.2.1 hd) ho.1 ho.2 k) g
theorem gifY (B : Fix p Z s m meth c bytes maxL own nm ret) (X : St p l e R s m args below meth c h0 ws T h cells slots) {cd : ClassFile.Cond} {o : Int} {x : Int32} (hd : decode bytes pc = .ok (.ifCond cd o, 3)) (hc : ifCond.holds cd x = true) (ho : 0 ≤ (pc : Int) + o ∧ ((pc : Int) + o).toNat = pc') (g : Go p e below s K N h0 ws Q T (mkF m pc' Ls st)) : Go p e below s K N h0 ws Q T (mkF m pc Ls (.int x :: st)) := by
  obtain ⟨L, X, -⟩ := X; exact Go.to (fun t k => XS.ifYes X.here B.1 rfl (pc0 := pc) rfl (hb B.2.2.1 hd) rfl hc ho.1 ho.2 k) g
theorem gifN (B : Fix p Z s m meth c bytes maxL own nm ret) (X : St p l e R s m args below meth c h0 ws T h cells slots) {cd : ClassFile.Cond} {o : Int} {x : Int32} (hd : decode bytes pc = .ok (.ifCond cd o, 3)) (hc : ifCond.holds cd x = false) (hp : pc' = pc + 3) (g : Go p e below s K N h0 ws Q T (mkF m pc' Ls st)) : Go p e below s K N h0 ws Q T (mkF m pc Ls (.int x :: st)) := by
  subst hp; obtain ⟨L, X, -⟩ := X; exact Go.to (fun t k => XS.ifNo X.here B.1 rfl (hb B.2.2.1 hd) rfl hc k) g
theorem gicY (B : Fix p Z s m meth c bytes maxL own nm ret) (X : St p l e R s m args below meth c h0 ws T h cells slots) {cd : ClassFile.Cond} {o : Int} {x y : Int32} (hd : decode bytes pc = .ok (.if_icmp cd o, 3)) (hc : if_icmp.holds cd x y = true) (ho : 0 ≤ (pc : Int) + o ∧ ((pc : Int) + o).toNat = pc') (g : Go p e below s K N h0 ws Q T (mkF m pc' Ls st)) : Go p e below s K N h0 ws Q T (mkF m pc Ls (.int y :: .int x :: st)) := by
  obtain ⟨L, X, -⟩ := X; exact Go.to (fun t k => XS.icmpYes X.here B.1 rfl (pc0 := pc) rfl (hb B.2.2.1 hd) rfl hc ho.1 ho.2 k) g
theorem gicN (B : Fix p Z s m meth c bytes maxL own nm ret) (X : St p l e R s m args below meth c h0 ws T h cells slots) {cd : ClassFile.Cond} {o : Int} {x y : Int32} (hd : decode bytes pc = .ok (.if_icmp cd o, 3)) (hc : if_icmp.holds cd x y = false) (hp : pc' = pc + 3) (g : Go p e below s K N h0 ws Q T (mkF m pc' Ls st)) : Go p e below s K N h0 ws Q T (mkF m pc Ls (.int y :: .int x :: st)) := by
  subst hp; obtain ⟨L, X, -⟩ := X; exact Go.to (fun t k => XS.icmpNo X.here B.1 rfl (hb B.2.2.1 hd) rfl hc k) g
theorem gnullN (B : Fix p Z s m meth c bytes maxL own nm ret) (X : St p l e R s m args below meth c h0 ws T h cells slots) {a : Addr} {o : Int} (hd : decode bytes pc = .ok (.ifnull o, 3)) (hp : pc' = pc + 3) (g : Go p e below s K N h0 ws Q T (mkF m pc' Ls st)) : Go p e below s K N h0 ws Q T (mkF m pc Ls (.ref a :: st)) := by
  subst hp; obtain ⟨L, X, -⟩ := X; exact Go.to (fun t k => XS.ifnullNo X.here B.1 rfl (hb B.2.2.1 hd) rfl k) g
theorem gldc (B : Fix p Z s m meth c bytes maxL own nm ret) (X : St p l e R s m args below meth c h0 ws T h cells slots) {i : Nat} {v : Int32} (w : (Cond.constant own i v).before a0 Z = true) (hd : decode bytes pc = .ok (.ldc i, 2)) (hp : pc' = pc + 2) (g : Go p e below s K N h0 ws Q T (mkF m pc' Ls (.int v :: st))) : Go p e below s K N h0 ws Q T (mkF m pc Ls st) := by
  subst hp; obtain ⟨L, X, -⟩ := X; exact Go.to (fun t k => X.ldcInt B.1 B.2.2.2.2.1 (mvT B.2.1 w) (g := mkF m pc Ls st) rfl (hb B.2.2.1 hd) t k) g
theorem gldcw (B : Fix p Z s m meth c bytes maxL own nm ret) (X : St p l e R s m args below meth c h0 ws T h cells slots) {i : Nat} {v : Int32} (w : (Cond.constant own i v).before a0 Z = true) (hd : decode bytes pc = .ok (.ldc_w i, 3)) (hp : pc' = pc + 3) (g : Go p e below s K N h0 ws Q T (mkF m pc' Ls (.int v :: st))) : Go p e below s K N h0 ws Q T (mkF m pc Ls st) := by
  subst hp; obtain ⟨L, X, -⟩ := X; exact Go.to (fun t k => X.ldcwInt B.1 B.2.2.2.2.1 (mvT B.2.1 w) (g := mkF m pc Ls st) rfl (hb B.2.2.1 hd) t k) g
theorem gldc2 (B : Fix p Z s m meth c bytes maxL own nm ret) (X : St p l e R s m args below meth c h0 ws T h cells slots) {i : Nat} {v : Int64} (w : (Cond.constantLong own i v).before a0 Z = true) (hd : decode bytes pc = .ok (.ldc2_w i, 3)) (hp : pc' = pc + 3) (g : Go p e below s K N h0 ws Q T (mkF m pc' Ls (.long v :: st))) : Go p e below s K N h0 ws Q T (mkF m pc Ls st) := by
  subst hp; obtain ⟨L, X, -⟩ := X; exact Go.to (fun t k => X.ldc2Long B.1 B.2.2.2.2.1 (mvT B.2.1 w) (g := mkF m pc Ls st) rfl (hb B.2.2.1 hd) t k) g
theorem giaload (B : Fix p Z s m meth c bytes maxL own nm ret) (X : St p l e R s m args below meth c h0 ws T h cells slots) {a : Addr} {vs : List Value} {j : Int32} {v : Value} {n : Nat} (A : VA Z h a .int vs) (hn : vs.length = n) (hj : 0 ≤ j.toInt ∧ j.toInt < n) (hv : vs[j.toNatClampNeg]? = some v) (hd : decode bytes pc = .ok (.iaload, 1)) (hp : pc' = pc + 1) (g : Go p e below s K N h0 ws Q T (mkF m pc' Ls (v :: st))) : Go p e below s K N h0 ws Q T (mkF m pc Ls (.int j :: .ref a :: st)) := by
  subst hp; subst hn; obtain ⟨L, X, eT, -⟩ := X; obtain ⟨cl, A, r, n⟩ := A
  exact Go.to (fun t k => X.iaload B.1 (by rw [eT]; exact A.1) (State.isArrayOf_alike B.2.1.alike A.2.1) A.2.2 (by rw [r]; exact inb (by simpa using hj)) (by rw [r]; simpa using hv) (g := mkF m pc Ls (.int j :: .ref a :: st)) rfl rfl (hb B.2.2.1 hd) t k) g
theorem glaload (B : Fix p Z s m meth c bytes maxL own nm ret) (X : St p l e R s m args below meth c h0 ws T h cells slots) {a : Addr} {vs : List Value} {j : Int32} {v : Value} {n : Nat} (A : VA Z h a .long vs) (hn : vs.length = n) (hj : 0 ≤ j.toInt ∧ j.toInt < n) (hv : vs[j.toNatClampNeg]? = some v) (hd : decode bytes pc = .ok (.laload, 1)) (hp : pc' = pc + 1) (g : Go p e below s K N h0 ws Q T (mkF m pc' Ls (v :: st))) : Go p e below s K N h0 ws Q T (mkF m pc Ls (.int j :: .ref a :: st)) := by
  subst hp; subst hn; obtain ⟨L, X, eT, -⟩ := X; obtain ⟨cl, A, r, n⟩ := A
  exact Go.to (fun t k => X.laload B.1 (by rw [eT]; exact A.1) (State.isArrayOf_alike B.2.1.alike A.2.1) A.2.2 (by rw [r]; exact inb (by simpa using hj)) (by rw [r]; simpa using hv) (g := mkF m pc Ls (.int j :: .ref a :: st)) rfl rfl (hb B.2.2.1 hd) t k) g
theorem gbaload (B : Fix p Z s m meth c bytes maxL own nm ret) (X : St p l e R s m args below meth c h0 ws T h cells slots) {a : Addr} {vs : List Value} {j : Int32} {v : Value} {n : Nat} (A : VA Z h a .byte vs) (hn : vs.length = n) (hj : 0 ≤ j.toInt ∧ j.toInt < n) (hv : vs[j.toNatClampNeg]? = some v) (hd : decode bytes pc = .ok (.baload, 1)) (hp : pc' = pc + 1) (g : Go p e below s K N h0 ws Q T (mkF m pc' Ls (v :: st))) : Go p e below s K N h0 ws Q T (mkF m pc Ls (.int j :: .ref a :: st)) := by
  subst hp; subst hn; obtain ⟨L, X, eT, -⟩ := X; obtain ⟨cl, A, r, n⟩ := A
  exact Go.to (fun t k => X.baloadBytes B.1 (by rw [eT]; exact A.1) (State.isArrayOf_alike B.2.1.alike A.2.1) A.2.2 (by rw [r]; exact inb (by simpa using hj)) (by rw [r]; simpa using hv) (g := mkF m pc Ls (.int j :: .ref a :: st)) rfl rfl (hb B.2.2.1 hd) t k) g
theorem gzaload (B : Fix p Z s m meth c bytes maxL own nm ret) (X : St p l e R s m args below meth c h0 ws T h cells slots) {a : Addr} {vs : List Value} {j : Int32} {v : Value} {n : Nat} (A : VA Z h a .boolean vs) (hn : vs.length = n) (hj : 0 ≤ j.toInt ∧ j.toInt < n) (hv : vs[j.toNatClampNeg]? = some v) (hd : decode bytes pc = .ok (.baload, 1)) (hp : pc' = pc + 1) (g : Go p e below s K N h0 ws Q T (mkF m pc' Ls (v :: st))) : Go p e below s K N h0 ws Q T (mkF m pc Ls (.int j :: .ref a :: st)) := by
  subst hp; subst hn; obtain ⟨L, X, eT, -⟩ := X; obtain ⟨cl, A, r, n⟩ := A
  exact Go.to (fun t k => X.baloadBooleans B.1 (by rw [eT]; exact A.1) (State.isArrayOf_alike B.2.1.alike A.2.1) A.2.2 (by rw [r]; exact inb (by simpa using hj)) (by rw [r]; simpa using hv) (g := mkF m pc Ls (.int j :: .ref a :: st)) rfl rfl (hb B.2.2.1 hd) t k) g
theorem glength (B : Fix p Z s m meth c bytes maxL own nm ret) (X : St p l e R s m args below meth c h0 ws T h cells slots) {a : Addr} {ty : FieldType} {vs : List Value} {n : Int32} {k : Nat} (A : VA Z h a ty vs) (hk : vs.length = k) (hn : n.toInt = k) (hd : decode bytes pc = .ok (.arraylength, 1)) (hp : pc' = pc + 1) (g : Go p e below s K N h0 ws Q T (mkF m pc' Ls (.int n :: st))) : Go p e below s K N h0 ws Q T (mkF m pc Ls (.ref a :: st)) := by
  subst hp; subst hk; obtain ⟨L, X, eT, -⟩ := X; obtain ⟨cl, A, r, q⟩ := A
  have e1 : cl.slots.size.toInt32 = n := by rw [r]; apply Int32.toInt_inj.mp; rw [len_toInt (by simpa using q), hn]; simp
  exact Go.to (fun t k => X.arraylength B.1 (by rw [eT]; exact A.1) (State.isArrayOf_alike B.2.1.alike A.2.1) (g := mkF m pc Ls (.ref a :: st)) rfl rfl (hb B.2.2.1 hd) t (by rw [e1]; exact k)) g
theorem giastore (B : Fix p Z s m meth c bytes maxL own nm ret) (X : St p l e R s m args below meth c h0 ws T h cells slots) {a : Addr} {vs vs' : List Value} {j : Int32} {x : Int32} {i n : Nat} (A : VA Z h a .int vs) (hn : vs.length = n) (hj : 0 ≤ j.toInt ∧ j.toInt < n) (hi : j.toNatClampNeg = i) (hvs : vs.set i (.int x) = vs') (ha : a ∈ ws ∨ h0.size ≤ a) (hd : decode bytes pc = .ok (.iastore, 1)) (hp : pc' = pc + 1) (g : ∀ T' h', St p l e R s m args below meth c h0 ws T' h' cells slots → Wr h h' a i (.int x) → VA Z h' a .int vs' → Go p e below s K N h0 ws Q T' (mkF m pc' Ls st)) : Go p e below s K N h0 ws Q T (mkF m pc Ls (.int x :: .int j :: .ref a :: st)) := by
  subst hp; subst hi; subst hvs; subst hn; obtain ⟨L, X, eT, KK, FF⟩ := X; have A0 := A; obtain ⟨cl, A, r, n⟩ := A
  obtain ⟨T', h', X', e', W, k⟩ := stI X B.1 B.2.1 eT A (by rw [r]; exact inb (by simpa using hj)) (g := mkF m pc Ls (.int x :: .int j :: .ref a :: st)) rfl rfl (hb B.2.2.1 hd)
  exact Go.to k (g T' h' ⟨_, X', e', KK.wr W ha, fun y hy => (List.mem_append.mp hy).elim (FF y) fun q => by cases List.mem_singleton.mp q; exact ha⟩ W (A0.set W))
theorem glastore (B : Fix p Z s m meth c bytes maxL own nm ret) (X : St p l e R s m args below meth c h0 ws T h cells slots) {a : Addr} {vs vs' : List Value} {j : Int32} {x : Int64} {i n : Nat} (A : VA Z h a .long vs) (hn : vs.length = n) (hj : 0 ≤ j.toInt ∧ j.toInt < n) (hi : j.toNatClampNeg = i) (hvs : vs.set i (.long x) = vs') (ha : a ∈ ws ∨ h0.size ≤ a) (hd : decode bytes pc = .ok (.lastore, 1)) (hp : pc' = pc + 1) (g : ∀ T' h', St p l e R s m args below meth c h0 ws T' h' cells slots → Wr h h' a i (.long x) → VA Z h' a .long vs' → Go p e below s K N h0 ws Q T' (mkF m pc' Ls st)) : Go p e below s K N h0 ws Q T (mkF m pc Ls (.long x :: .int j :: .ref a :: st)) := by
  subst hp; subst hi; subst hvs; subst hn; obtain ⟨L, X, eT, KK, FF⟩ := X; have A0 := A; obtain ⟨cl, A, r, n⟩ := A
  obtain ⟨T', h', X', e', W, k⟩ := stJ X B.1 B.2.1 eT A (by rw [r]; exact inb (by simpa using hj)) (g := mkF m pc Ls (.long x :: .int j :: .ref a :: st)) rfl rfl (hb B.2.2.1 hd)
  exact Go.to k (g T' h' ⟨_, X', e', KK.wr W ha, fun y hy => (List.mem_append.mp hy).elim (FF y) fun q => by cases List.mem_singleton.mp q; exact ha⟩ W (A0.set W))
theorem gbastore (B : Fix p Z s m meth c bytes maxL own nm ret) (X : St p l e R s m args below meth c h0 ws T h cells slots) {a : Addr} {vs vs' : List Value} {j : Int32} {x : Int32} {i n : Nat} (A : VA Z h a .byte vs) (hn : vs.length = n) (hj : 0 ≤ j.toInt ∧ j.toInt < n) (hi : j.toNatClampNeg = i) (hvs : vs.set i (.int x.toInt8.toInt32) = vs') (ha : a ∈ ws ∨ h0.size ≤ a) (hd : decode bytes pc = .ok (.bastore, 1)) (hp : pc' = pc + 1) (g : ∀ T' h', St p l e R s m args below meth c h0 ws T' h' cells slots → Wr h h' a i (.int x.toInt8.toInt32) → VA Z h' a .byte vs' → Go p e below s K N h0 ws Q T' (mkF m pc' Ls st)) : Go p e below s K N h0 ws Q T (mkF m pc Ls (.int x :: .int j :: .ref a :: st)) := by
  subst hp; subst hi; subst hvs; subst hn; obtain ⟨L, X, eT, KK, FF⟩ := X; have A0 := A; obtain ⟨cl, A, r, n⟩ := A
  obtain ⟨T', h', X', e', W, k⟩ := stB X B.1 B.2.1 eT A (by rw [r]; exact inb (by simpa using hj)) (g := mkF m pc Ls (.int x :: .int j :: .ref a :: st)) rfl rfl (hb B.2.2.1 hd)
  exact Go.to k (g T' h' ⟨_, X', e', KK.wr W ha, fun y hy => (List.mem_append.mp hy).elim (FF y) fun q => by cases List.mem_singleton.mp q; exact ha⟩ W (A0.set W))
theorem gzastore (B : Fix p Z s m meth c bytes maxL own nm ret) (X : St p l e R s m args below meth c h0 ws T h cells slots) {a : Addr} {vs vs' : List Value} {j : Int32} {x : Int32} {i n : Nat} (A : VA Z h a .boolean vs) (hn : vs.length = n) (hj : 0 ≤ j.toInt ∧ j.toInt < n) (hi : j.toNatClampNeg = i) (hvs : vs.set i (.int (x &&& 1)) = vs') (ha : a ∈ ws ∨ h0.size ≤ a) (hd : decode bytes pc = .ok (.bastore, 1)) (hp : pc' = pc + 1) (g : ∀ T' h', St p l e R s m args below meth c h0 ws T' h' cells slots → Wr h h' a i (.int (x &&& 1)) → VA Z h' a .boolean vs' → Go p e below s K N h0 ws Q T' (mkF m pc' Ls st)) : Go p e below s K N h0 ws Q T (mkF m pc Ls (.int x :: .int j :: .ref a :: st)) := by
  subst hp; subst hi; subst hvs; subst hn; obtain ⟨L, X, eT, KK, FF⟩ := X; have A0 := A; obtain ⟨cl, A, r, n⟩ := A
  obtain ⟨T', h', X', e', W, k⟩ := stZ X B.1 B.2.1 eT A (by rw [r]; exact inb (by simpa using hj)) (g := mkF m pc Ls (.int x :: .int j :: .ref a :: st)) rfl rfl (hb B.2.2.1 hd)
  exact Go.to k (g T' h' ⟨_, X', e', KK.wr W ha, fun y hy => (List.mem_append.mp hy).elim (FF y) fun q => by cases List.mem_singleton.mp q; exact ha⟩ W (A0.set W))
theorem gnewarray (B : Fix p Z s m meth c bytes maxL own nm ret) (X : St p l e R s m args below meth c h0 ws T h cells slots) {aty : ArrayType} {n : Int32} {cap : Nat} {vs : List Value} {ty : FieldType} (hty : newarray.typeOf aty = ty) (hvs : List.replicate n.toNatClampNeg (defaultValue ty) = vs) (w : (Cond.arrayClass ty).before a0 Z = true) (hn : 0 ≤ n.toInt) (hcap : n.toInt ≤ cap) (hb8 : cap * 8 ≤ 536870912) (hc : cells + 1 ≤ R.cells) (hl : slots + cap ≤ R.slots) (hd : decode bytes pc = .ok (.newarray aty, 2)) (hp : pc' = pc + 2) (g : ∀ T' h' a, St p l e R s m args below meth c h0 ws T' h' (cells + 1) (slots + cap) → a = h.size → Ext h h' → h0.size ≤ a → VA Z h' a ty vs → Go p e below s K N h0 ws Q T' (mkF m pc' Ls (.ref a :: st))) : Go p e below s K N h0 ws Q T (mkF m pc Ls (.int n :: st)) := by
  subst hp; subst hty; subst hvs; obtain ⟨L, X, eT, KK, FF⟩ := X
  have hn' : ¬ n < 0 := by rw [Int32.lt_iff_toInt_lt, show (0 : Int32).toInt = 0 from rfl]; omega
  obtain ⟨T', h', cA, X', e', E, A, k⟩ := newP X B.1 B.2.1 w eT (g := mkF m pc Ls (.int n :: st)) rfl (hb B.2.2.1 hd) rfl hn' (cap := cap) (by simp only [Int32.toNatClampNeg]; omega) hb8 hc hl
  exact Go.to k (g T' h' _ ⟨_, X', e', KK.ext E, FF⟩ rfl E KK.1 (VA.new A hn'))
theorem gget (B : Fix p Z s m meth c bytes maxL own nm ret) (X : St p l e R s m args below meth c h0 ws T h cells slots) {a : Addr} {i : Nat} {C n d : String} {v : Value} (w : (Cond.fieldLink own i C n d).before a0 Z = true) (F : Fld Z h a C n d v) (hd : decode bytes pc = .ok (.getfield i, 3)) (hp : pc' = pc + 3) (g : ∀ T', St p l e R s m args below meth c h0 ws T' h cells slots → Go p e below s K N h0 ws Q T' (mkF m pc' Ls (v :: st))) : Go p e below s K N h0 ws Q T (mkF m pc Ls (.ref a :: st)) := by
  subst hp; obtain ⟨L, X, eT, r⟩ := X
  obtain ⟨T', X', e', k⟩ := getF X B.1 B.2.1 B.2.2.2.2.1 (host := "") (Or.inl w) Via.refl eT F (g := mkF m pc Ls (.ref a :: st)) rfl rfl (hb B.2.2.1 hd)
  exact Go.to k (g T' ⟨L, X', e', r⟩)
theorem gput (B : Fix p Z s m meth c bytes maxL own nm ret) (X : St p l e R s m args below meth c h0 ws T h cells slots) {a : Addr} {i kk : Nat} {C O n d : String} {ty : FieldType} {v old : Value} (w : (Cond.fieldLink own i O n d).before a0 Z = true) (F : Fld Z h a O n d old) (E : Exa Z h a C) (L : (Cond.lays C O n d).before a0 Z = true ∨ ((Cond.laysFinal C O n d).before a0 Z = true ∧ own = O ∧ nm = "<init>")) (wi : (Cond.instantiable C kk).before a0 Z = true) (hty : parseFieldDescriptor d = some ty) (hn : narrow ty v = v) (hf : fits ty v = true) (ha : a ∈ ws ∨ h0.size ≤ a) (hd : decode bytes pc = .ok (.putfield i, 3)) (hp : pc' = pc + 3) (g : ∀ T' h', St p l e R s m args below meth c h0 ws T' h' cells slots → Wr h h' a (Jvm.RoadKit.slotOf Z O n d) v → Go p e below s K N h0 ws Q T' (mkF m pc' Ls st)) : Go p e below s K N h0 ws Q T (mkF m pc Ls (v :: .ref a :: st)) := by
  subst hp; obtain ⟨L0, X, eT, KK, FF⟩ := X
  obtain ⟨T', h', X', e', W, k⟩ := putF X B.1 B.2.1 B.2.2.2.2.1 (host := "") (Or.inl w) Via.refl eT F E (L.imp id fun q => ⟨q.1, q.2.1, B.2.2.2.2.2.1.trans q.2.2⟩) wi hty hn hf (g := mkF m pc Ls (v :: .ref a :: st)) rfl rfl (hb B.2.2.1 hd)
  exact Go.to k (g T' h' ⟨_, X', e', KK.wr W ha, fun y hy => (List.mem_append.mp hy).elim (FF y) fun q => by cases List.mem_singleton.mp q; exact ha⟩ W)
theorem gnew (B : Fix p Z s m meth c bytes maxL own nm ret) (X : St p l e R s m args below meth c h0 ws T h cells slots) {i n : Nat} {C : String} (w : (Cond.classLink own i C).before a0 Z = true) (wi : (Cond.instantiable C n).before a0 Z = true) (wz : (Cond.initialized C).before a0 Z = true) (hc : cells + 1 ≤ R.cells) (hl : slots + n ≤ R.slots) (hd : decode bytes pc = .ok (.new i, 3)) (hp : pc' = pc + 3) (g : ∀ T' h' a, St p l e R s m args below meth c h0 ws T' h' (cells + 1) (slots + n) → a = h.size → Ext h h' → h0.size ≤ a → Exa Z h' a C → (∀ {O nm d : String} {ty : FieldType}, Laid Z a0 C O nm d → parseFieldDescriptor d = some ty → Fld Z h' a O nm d (defaultValue ty)) → Go p e below s K N h0 ws Q T' (mkF m pc' Ls (.ref a :: st))) : Go p e below s K N h0 ws Q T (mkF m pc Ls st) := by
  subst hp; obtain ⟨L0, X, eT, KK, FF⟩ := X
  obtain ⟨T', h', X', e', E, A, D, -, k⟩ := newO X B.1 B.2.1 B.2.2.2.2.1 w wi wz eT (g := mkF m pc Ls st) rfl (hb B.2.2.1 hd) hc hl
  exact Go.to k (g T' h' _ ⟨_, X', e', KK.ext E, FF⟩ rfl E KK.1 A D)
theorem ginitO (B : Fix p Z s m meth c bytes maxL own nm ret) (X : St p l e R s m args below meth c h0 ws T h cells slots) {a : Addr} {i W : Nat} (w1 : (Cond.methodLink own i Lib.objectInit).before a0 Z = true) (w2 : (Cond.instanceMethod Lib.objectInit).before a0 Z = true) (w3 : (Cond.code Lib.objectInit ⟨#[0xb1]⟩ 1 none).before a0 Z = true) (hsz : Ls.size = maxL) (hf : 1 ≤ R.frames) (hW : (st.map fun v => v.category).sum ≤ W) (hl : W + 12 ≤ R.locals) (hd : decode bytes pc = .ok (.invokespecial i, 3)) (hp : pc' = pc + 3) (g : ∀ T', St p l e R s m args below meth c h0 ws T' h cells slots → Go p e below s K N h0 ws Q T' (mkF m pc' Ls st)) : Go p e below s K N h0 ws Q T (mkF m pc Ls (.ref a :: st)) := by
  subst hp; obtain ⟨L0, X, eT, r⟩ := X
  obtain ⟨T', X', e', k⟩ := initO X B.1 B.2.1 B.2.2.2.2.1 w1 w2 w3 eT (g := mkF m pc Ls (.ref a :: st)) rfl (hsz.trans B.2.2.2.1.symm) rfl (hb B.2.2.1 hd) hf (W := W) (by show 2 * 0 + _ ≤ _; rw [Nat.mul_zero, Nat.zero_add]; exact hW) hl
  exact Go.to k (g T' ⟨L0, X', e', r⟩)
theorem gcallS (B : Fix p Z s m meth c bytes maxL own nm ret) (X : St p l e R s m args below meth c h0 ws T h cells slots) {y : MethodName} {bytes' : ByteArray} {maxL' : Nat} {ret' : Option FieldType} {rm : Room} {ws' : List Addr} {Q' : Option Value → Heap → Prop} {stk argsL : List Value} {i W : Nat} {ps : List FieldType} {rr : Option FieldType}  (w1 : (Cond.methodLink own i y).before a0 Z = true) (w2 : (Cond.static y).before a0 Z = true) (w3 : (Cond.initialized y.cls).before a0 Z = true) (w4 : (Cond.code y bytes' maxL' ret').before a0 Z = true) (hy : y.cls ≠ "java/lang/invoke/MethodHandle" ∧ y.cls ≠ "java/lang/invoke/VarHandle") (M : Meth l Z y bytes' maxL' ret' rm argsL.toArray h ws' Q') (hpd : parseMethodDescriptor y.desc = some ⟨ps, rr⟩) (hlen : argsL.length = ps.length) (hstk : stk = argsL.reverse ++ st) (hsz : Ls.size = maxL) (hW : (st.map fun v => v.category).sum ≤ W) (hfr : rm.frames + 1 ≤ R.frames) (hlo : W + (maxL' + 11) + rm.locals ≤ R.locals) (hcs : cells + rm.cells ≤ R.cells) (hss : slots + rm.slots ≤ R.slots) (hws : ∀ x ∈ ws', x ∈ ws ∨ h0.size ≤ x) (hd : decode bytes pc = .ok (.invokestatic i, 3)) (hp : pc' = pc + 3)
    (g : ∀ T' h' v, St p l e R s m args below meth c h0 ws T' h' (cells + rm.cells) (slots + rm.slots) → Keep h h' ws' → Q' v h' → Go p e below s K N h0 ws Q T' (mkF m pc' Ls (v.toList ++ st))) : Go p e below s K N h0 ws Q T (mkF m pc Ls stk) := by
  subst hp; subst hstk; obtain ⟨L0, X, eT, KK, FF⟩ := X
  obtain ⟨v2, _, ⟨T2, L2, c2, n2⟩, -, X2, ⟨Lc2, hq, l2, y2, z2⟩, k2⟩ := Jvm.LawKit.callS X B.1 (y := y) B.2.2.2.2.1 (mvT B.2.1 w1) (mvT B.2.1 w2) (mvT B.2.1 w3) (mvT B.2.1 w4) hy (backOf (W := W) (Q := fun v h' L => Q' v h' ∧ Keep h h' ws' ∧ FrW h ws' L) (M []) B.2.1 w4 w3 hfr hlo) (g := mkF m pc Ls (argsL.reverse ++ st)) rfl (hsz.trans B.2.2.2.1.symm) (argsL := argsL) (rest := st) (lenOf hpd hlen) rfl (by show 2 * 0 + _ ≤ _; rw [Nat.mul_zero, Nat.zero_add]; exact hW) (hb B.2.2.1 hd) (fun _ _ => ⟨rfl, eT, hcs, hss⟩)
  dsimp only [Pt.U, Pt.locs, Pt.cells, Pt.slots] at X2 l2 y2 z2 k2 hq
  subst l2 y2 z2
  refine Go.to k2 (g T2 T2.heap v2 ⟨_, X2, rfl, KK.trans hq.2.1 hws, fun y hy => (List.mem_append.mp hy).elim (FF y) fun q => ?_⟩ hq.2.1 hq.1)
  exact (hq.2.2 y q).elim (fun z => hws _ z) fun z => Or.inr (Nat.le_trans KK.1 z)
theorem gcallI (B : Fix p Z s m meth c bytes maxL own nm ret) (X : St p l e R s m args below meth c h0 ws T h cells slots) {y : MethodName} {bytes' : ByteArray} {maxL' : Nat} {ret' : Option FieldType} {rm : Room} {ws' : List Addr} {Q' : Option Value → Heap → Prop} {stk argsL : List Value} {i W : Nat} {ps : List FieldType} {rr : Option FieldType} {a : Addr} (hni : y.name = "<init>") (hret : ret' = none) (w1 : (Cond.methodLink own i y).before a0 Z = true) (w2 : (Cond.instanceMethod y).before a0 Z = true) (w3 : (Cond.initialized y.cls).before a0 Z = true) (w4 : (Cond.code y bytes' maxL' ret').before a0 Z = true) (hy : y.cls ≠ "java/lang/invoke/MethodHandle" ∧ y.cls ≠ "java/lang/invoke/VarHandle") (M : Meth l Z y bytes' maxL' ret' rm (.ref a :: argsL).toArray h ws' Q') (hpd : parseMethodDescriptor y.desc = some ⟨ps, rr⟩) (hlen : argsL.length = ps.length) (hstk : stk = argsL.reverse ++ .ref a :: st) (hsz : Ls.size = maxL) (hW : (st.map fun v => v.category).sum ≤ W) (hfr : rm.frames + 1 ≤ R.frames) (hlo : W + (maxL' + 11) + rm.locals ≤ R.locals) (hcs : cells + rm.cells ≤ R.cells) (hss : slots + rm.slots ≤ R.slots) (hws : ∀ x ∈ ws', x ∈ ws ∨ h0.size ≤ x) (hd : decode bytes pc = .ok (.invokespecial i, 3)) (hp : pc' = pc + 3)
    (g : ∀ T' h' v, St p l e R s m args below meth c h0 ws T' h' (cells + rm.cells) (slots + rm.slots) → Keep h h' ws' → Q' v h' → Go p e below s K N h0 ws Q T' (mkF m pc' Ls (v.toList ++ st))) : Go p e below s K N h0 ws Q T (mkF m pc Ls stk) := by
  subst hp; subst hstk; obtain ⟨L0, X, eT, KK, FF⟩ := X
  subst hret
  obtain ⟨v2, _, ⟨T2, L2, c2, n2⟩, -, X2, ⟨Lc2, hq, l2, y2, z2⟩, k2⟩ := X.specialBack B.1 (y := y) hni B.2.2.2.2.1 (mvT B.2.1 w1) (mvT B.2.1 w2) (mvT B.2.1 w4) hy (backOf (W := W) (Q := fun v h' L => Q' v h' ∧ Keep h h' ws' ∧ FrW h ws' L) (M []) B.2.1 w4 w3 hfr hlo) (g := mkF m pc Ls (argsL.reverse ++ .ref a :: st)) rfl (hsz.trans B.2.2.2.1.symm) (Steps.refl _) (a := a) (argsL := argsL) (rest := st) (lenOf hpd hlen) rfl (by show 2 * 0 + _ ≤ _; rw [Nat.mul_zero, Nat.zero_add]; exact hW) (hb B.2.2.1 hd) (fun _ _ => ⟨rfl, eT, hcs, hss⟩)
  dsimp only [Pt.U, Pt.locs, Pt.cells, Pt.slots] at X2 l2 y2 z2 k2 hq
  subst l2 y2 z2
  refine Go.to (fun t kt => k2.trans kt) (g T2 T2.heap v2 ⟨_, X2, rfl, KK.trans hq.2.1 hws, fun y hy => (List.mem_append.mp hy).elim (FF y) fun q => ?_⟩ hq.2.1 hq.1)
  exact (hq.2.2 y q).elim (fun z => hws _ z) fun z => Or.inr (Nat.le_trans KK.1 z)
theorem gcallV (B : Fix p Z s m meth c bytes maxL own nm ret) (X : St p l e R s m args below meth c h0 ws T h cells slots) {y : MethodName} {bytes' : ByteArray} {maxL' : Nat} {ret' : Option FieldType} {rm : Room} {ws' : List Addr} {Q' : Option Value → Heap → Prop} {stk argsL : List Value} {i W : Nat} {ps : List FieldType} {rr : Option FieldType} {a : Addr} {z : MethodName} {C : String} (E : Exa Z h a C) (w1 : (Cond.methodLink own i y).before a0 Z = true) (w2 : (Cond.declares y).before a0 Z = true) (w5 : (Cond.selects C y z).before a0 Z = true) (w6 : (Cond.instanceMethod z).before a0 Z = true) (w3 : (Cond.initialized z.cls).before a0 Z = true) (w4 : (Cond.code z bytes' maxL' ret').before a0 Z = true) (hyz : y = z) (hy : y.cls ≠ "java/lang/invoke/MethodHandle" ∧ y.cls ≠ "java/lang/invoke/VarHandle") (M : Meth l Z z bytes' maxL' ret' rm (.ref a :: argsL).toArray h ws' Q') (hpd : parseMethodDescriptor y.desc = some ⟨ps, rr⟩) (hlen : argsL.length = ps.length) (hstk : stk = argsL.reverse ++ .ref a :: st) (hsz : Ls.size = maxL) (hW : (st.map fun v => v.category).sum ≤ W) (hfr : rm.frames + 1 ≤ R.frames) (hlo : W + (maxL' + 11) + rm.locals ≤ R.locals) (hcs : cells + rm.cells ≤ R.cells) (hss : slots + rm.slots ≤ R.slots) (hws : ∀ x ∈ ws', x ∈ ws ∨ h0.size ≤ x) (hd : decode bytes pc = .ok (.invokevirtual i, 3)) (hp : pc' = pc + 3)
    (g : ∀ T' h' v, St p l e R s m args below meth c h0 ws T' h' (cells + rm.cells) (slots + rm.slots) → Keep h h' ws' → Q' v h' → Go p e below s K N h0 ws Q T' (mkF m pc' Ls (v.toList ++ st))) : Go p e below s K N h0 ws Q T (mkF m pc Ls stk) := by
  subst hp; subst hstk; obtain ⟨L0, X, eT, KK, FF⟩ := X
  subst hyz
  obtain ⟨cq, kq, qa, qb, qc⟩ := isOf B.2.1 eT E
  obtain ⟨v2, _, ⟨T2, L2, c2, n2⟩, -, X2, ⟨Lc2, hq, l2, y2, z2⟩, k2⟩ := X.virtualBack B.1 (y := y) (z := y) B.2.2.2.2.1 (mvT B.2.1 w1) (mvT B.2.1 w2) (notFace_of_selects (args := #[]) (mvT B.2.1 w5)) (mvT B.2.1 w5) (mvT B.2.1 w6) hy (backOf (W := W) (Q := fun v h' L => Q' v h' ∧ Keep h h' ws' ∧ FrW h ws' L) (M []) B.2.1 w4 w3 hfr hlo) qa qc (g := mkF m pc Ls (argsL.reverse ++ .ref a :: st)) rfl (hsz.trans B.2.2.2.1.symm) (Steps.refl _) (argsL := argsL) (rest := st) (lenOf hpd hlen) rfl (by show 2 * 0 + _ ≤ _; rw [Nat.mul_zero, Nat.zero_add]; exact hW) (hb B.2.2.1 hd) (fun _ _ => ⟨rfl, eT, hcs, hss⟩)
  dsimp only [Pt.U, Pt.locs, Pt.cells, Pt.slots] at X2 l2 y2 z2 k2 hq
  subst l2 y2 z2
  refine Go.to (fun t kt => k2.trans kt) (g T2 T2.heap v2 ⟨_, X2, rfl, KK.trans hq.2.1 hws, fun y hy => (List.mem_append.mp hy).elim (FF y) fun q => ?_⟩ hq.2.1 hq.1)
  exact (hq.2.2 y q).elim (fun z => hws _ z) fun z => Or.inr (Nat.le_trans KK.1 z)
theorem gcallP (B : Fix p Z s m meth c bytes maxL own nm ret) (X : St p l e R s m args below meth c h0 ws T h cells slots) {y : MethodName} {bytes' : ByteArray} {maxL' : Nat} {ret' : Option FieldType} {rm : Room} {ws' : List Addr} {Q' : Option Value → Heap → Prop} {stk argsL : List Value} {i W : Nat} {ps : List FieldType} {rr : Option FieldType} {a : Addr} {C : String} (E : Exa Z h a C) (w1 : (Cond.methodLink own i y).before a0 Z = true) (w2 : (Cond.instanceMethod y).before a0 Z = true) (w5 : (Cond.selects y.cls y y).before a0 Z = true) (w6 : (Cond.privateMethod y).before a0 Z = true) (w3 : (Cond.initialized y.cls).before a0 Z = true) (w4 : (Cond.code y bytes' maxL' ret').before a0 Z = true) (hy : y.cls ≠ "java/lang/invoke/MethodHandle" ∧ y.cls ≠ "java/lang/invoke/VarHandle") (M : Meth l Z y bytes' maxL' ret' rm (.ref a :: argsL).toArray h ws' Q') (hpd : parseMethodDescriptor y.desc = some ⟨ps, rr⟩) (hlen : argsL.length = ps.length) (hstk : stk = argsL.reverse ++ .ref a :: st) (hsz : Ls.size = maxL) (hW : (st.map fun v => v.category).sum ≤ W) (hfr : rm.frames + 1 ≤ R.frames) (hlo : W + (maxL' + 11) + rm.locals ≤ R.locals) (hcs : cells + rm.cells ≤ R.cells) (hss : slots + rm.slots ≤ R.slots) (hws : ∀ x ∈ ws', x ∈ ws ∨ h0.size ≤ x) (hd : decode bytes pc = .ok (.invokevirtual i, 3)) (hp : pc' = pc + 3)
    (g : ∀ T' h' v, St p l e R s m args below meth c h0 ws T' h' (cells + rm.cells) (slots + rm.slots) → Keep h h' ws' → Q' v h' → Go p e below s K N h0 ws Q T' (mkF m pc' Ls (v.toList ++ st))) : Go p e below s K N h0 ws Q T (mkF m pc Ls stk) := by
  subst hp; subst hstk; obtain ⟨L0, X, eT, KK, FF⟩ := X
  obtain ⟨cq, q, q'⟩ := E.cell
  obtain ⟨v2, _, ⟨T2, L2, c2, n2⟩, -, X2, ⟨Lc2, hq, l2, y2, z2⟩, k2⟩ := X.privateBack B.1 (y := y) B.2.2.2.2.1 (mvT B.2.1 w1) (mvT B.2.1 w2) (mvT B.2.1 w5) (Cond.privateMethod_at (mvP B.2.1 w6 (args := #[]))) (mvT B.2.1 w4) hy (backOf (W := W) (Q := fun v h' L => Q' v h' ∧ Keep h h' ws' ∧ FrW h ws' L) (M []) B.2.1 w4 w3 hfr hlo) (g := mkF m pc Ls (argsL.reverse ++ .ref a :: st)) rfl (hsz.trans B.2.2.2.1.symm) (Steps.refl _) (a := a) (by rw [eT]; exact q) q' (argsL := argsL) (rest := st) (lenOf hpd hlen) rfl (by show 2 * 0 + _ ≤ _; rw [Nat.mul_zero, Nat.zero_add]; exact hW) (hb B.2.2.1 hd) (fun _ _ => ⟨rfl, eT, hcs, hss⟩)
  dsimp only [Pt.U, Pt.locs, Pt.cells, Pt.slots] at X2 l2 y2 z2 k2 hq
  subst l2 y2 z2
  refine Go.to (fun t kt => k2.trans kt) (g T2 T2.heap v2 ⟨_, X2, rfl, KK.trans hq.2.1 hws, fun y hy => (List.mem_append.mp hy).elim (FF y) fun q => ?_⟩ hq.2.1 hq.1)
  exact (hq.2.2 y q).elim (fun z => hws _ z) fun z => Or.inr (Nat.le_trans KK.1 z)
theorem pureG {rm : Room} {r : Value} {ws' : List Addr} (hc : rm.cells = 0) (hs : rm.slots = 0) (g : ∀ T', St p l e R s m args below meth c h0 ws T' h cells slots → Go p e below s K N h0 ws Q T' (mkF m pc' Ls (r :: st))) : ∀ T' h' v, St p l e R s m args below meth c h0 ws T' h' (cells + rm.cells) (slots + rm.slots) → Keep h h' ws' → (v = some r ∧ h' = h) → Go p e below s K N h0 ws Q T' (mkF m pc' Ls (v.toList ++ st)) := by
  rintro T' h' v X k ⟨rfl, rfl⟩
  rw [hc, hs] at X; exact g T' X
theorem pureV {rm : Room} {r : Value} {ws' : List Addr} (hc : rm.cells = 0) (hs : rm.slots = 0) (g : ∀ T', St p l e R s m args below meth c h0 ws T' h cells slots → Go p e below s K N h0 ws Q T' (mkF m pc' Ls st)) : ∀ T' h' v, St p l e R s m args below meth c h0 ws T' h' (cells + rm.cells) (slots + rm.slots) → Keep h h' ws' → (v = none ∧ h' = h) → Go p e below s K N h0 ws Q T' (mkF m pc' Ls (v.toList ++ st)) := by
  rintro T' h' v X k ⟨rfl, rfl⟩
  rw [hc, hs] at X; exact g T' X
theorem joinG {α : Type} (B : Fix p Z s m meth c bytes maxL own nm ret) (X : St p l e R s m args below meth c h0 ws T h cells slots) {F : α → JFrame} {r : α} {f : JFrame} (b : (∀ T', St p l e R s m args below meth c h0 ws T' h cells slots → Go p e below s K N h0 ws Q T' (F r)) → Go p e below s K N h0 ws Q T f) (k : ∀ T', St p l e R s m args below meth c h0 ws T' h cells slots → Go p e below s K N h0 ws Q T' (F r)) : Go p e below s K N h0 ws Q T f := b k
theorem nbb (x : Int32) : x.toInt8.toInt32.toInt8.toInt32 = x.toInt8.toInt32 := by simp
theorem nb (x : Int32) : nar .byte x.toInt8.toInt32 = x.toInt8.toInt32 := by simp [nar]
theorem retI (X : Stand p l e R s m args below meth c T locs cells slots) (hx : p.tables.exec = Jvm.exec) {z : Int32} {rest : List Value} (hret : meth.sig.returnType = some .int) (hd : decode c.code pc = .ok (.ireturn, 1)) {fs : List Frame}
    (hl : ∀ (f : JFrame) (acts : List Action), f.method = m → f.locked = none → f.entered = [] → (doReturn e (T.setTop f) acts (some (.int z))).1 = T.setFrames fs) : Steps p.tables e below (T.setTop (mkF m pc Ls (.int z :: rest))) (T.setFrames fs) := by
  have hm' : T.vm.method? m = some meth := X.method'
  have hn : narrow .int (.int z) = .int z := rfl
  show Steps p.tables e below (T.setTop { method := m, pc := pc, locals := Ls, stack := _ :: rest, locked := none }) _
  jvm_step X.here [X.here.top, hx, hd, hm', hret, hn]
  first | (intro acts; rw [hl _ acts rfl rfl rfl]) | rw [hl _ _ rfl rfl rfl]
  exact Steps.refl _
theorem gretI (B : Fix p Z s m meth c bytes maxL own nm (some .int)) (X : St p l e R s m args below meth c h0 ws T h cells slots) {z : Int32} (hd : decode bytes pc = .ok (.ireturn, 1)) (hk : cells ≤ K) (hn : slots ≤ N) (hQ : Q (some (.int z)) h) : Go p e below s K N h0 ws Q T (mkF m pc Ls (.int z :: st)) := by
  obtain ⟨L0, X, eT, KK, FF⟩ := X; have hlk := B.2.2.2.2.2.2.2; have hrt := B.2.2.2.2.2.2.1
  obtain ⟨fs, hr, hrun, hended, hW, hsame⟩ := X.leave (v := some (.int z)) (fun h => by rw [hrt] at h; cases h) hlk
  exact ⟨_, _, retI X B.1 hrt (hb B.2.2.1 hd) hr, hrun, hended, _, _, rfl, ⟨by show Q _ T.heap; rw [eT]; exact hQ, by show Keep h0 T.heap ws; rw [eT]; exact KK, FF⟩, ⟨_, rfl⟩, hW, hsame.mono hk hn⟩
theorem gretN {t : FieldType} (B : Fix p Z s m meth c bytes maxL own nm (some t)) (X : St p l e R s m args below meth c h0 ws T h cells slots) {z z' : Int32} (ht : t = .boolean ∨ t = .byte ∨ t = .char ∨ t = .short) (hz : nar t z = z') (hd : decode bytes pc = .ok (.ireturn, 1)) (hk : cells ≤ K) (hn : slots ≤ N) (hQ : Q (some (.int z')) h) : Go p e below s K N h0 ws Q T (mkF m pc Ls (.int z :: st)) := by
  subst hz; obtain ⟨L0, X, eT, KK, FF⟩ := X; have hlk := B.2.2.2.2.2.2.2; have hrt := B.2.2.2.2.2.2.1
  obtain ⟨fs, hr, hrun, hended, hW, hsame⟩ := X.leave (v := some (.int (nar t z))) (fun h => by rw [hrt] at h; cases h) hlk
  exact ⟨_, _, retN X B.1 hrt ht (hb B.2.2.1 hd) hr, hrun, hended, _, _, rfl, ⟨by show Q _ T.heap; rw [eT]; exact hQ, by show Keep h0 T.heap ws; rw [eT]; exact KK, FF⟩, ⟨_, rfl⟩, hW, hsame.mono hk hn⟩
theorem gretL (B : Fix p Z s m meth c bytes maxL own nm (some .long)) (X : St p l e R s m args below meth c h0 ws T h cells slots) {z : Int64} (hd : decode bytes pc = .ok (.lreturn, 1)) (hk : cells ≤ K) (hn : slots ≤ N) (hQ : Q (some (.long z)) h) : Go p e below s K N h0 ws Q T (mkF m pc Ls (.long z :: st)) := by
  obtain ⟨L0, X, eT, KK, FF⟩ := X; have hlk := B.2.2.2.2.2.2.2; have hrt := B.2.2.2.2.2.2.1
  obtain ⟨fs, hr, hrun, hended, hW, hsame⟩ := X.leave (v := some (.long z)) (fun h => by rw [hrt] at h; cases h) hlk
  exact ⟨_, _, retOut X B.1 hrt rfl (Or.inr (Or.inl ⟨rfl, rfl, _, rfl⟩)) (hb B.2.2.1 hd) hr, hrun, hended, _, _, rfl, ⟨by show Q _ T.heap; rw [eT]; exact hQ, by show Keep h0 T.heap ws; rw [eT]; exact KK, FF⟩, ⟨_, rfl⟩, hW, hsame.mono hk hn⟩
theorem gretA {t : FieldType} (B : Fix p Z s m meth c bytes maxL own nm (some t)) (X : St p l e R s m args below meth c h0 ws T h cells slots) {a : Addr} (ht : t.isReference = true) (hnn : narrow t (.ref a) = .ref a) (hd : decode bytes pc = .ok (.areturn, 1)) (hk : cells ≤ K) (hn : slots ≤ N) (hQ : Q (some (.ref a)) h) : Go p e below s K N h0 ws Q T (mkF m pc Ls (.ref a :: st)) := by
  obtain ⟨L0, X, eT, KK, FF⟩ := X; have hlk := B.2.2.2.2.2.2.2; have hrt := B.2.2.2.2.2.2.1
  obtain ⟨fs, hr, hrun, hended, hW, hsame⟩ := X.leave (v := some (.ref a)) (fun h => by rw [hrt] at h; cases h) hlk
  exact ⟨_, _, retOut X B.1 hrt hnn (Or.inr (Or.inr (Or.inr (Or.inr ⟨rfl, ht, rfl⟩)))) (hb B.2.2.1 hd) hr, hrun, hended, _, _, rfl, ⟨by show Q _ T.heap; rw [eT]; exact hQ, by show Keep h0 T.heap ws; rw [eT]; exact KK, FF⟩, ⟨_, rfl⟩, hW, hsame.mono hk hn⟩
theorem gretV (B : Fix p Z s m meth c bytes maxL own nm none) (X : St p l e R s m args below meth c h0 ws T h cells slots)  (hd : decode bytes pc = .ok (.return_, 1)) (hk : cells ≤ K) (hn : slots ≤ N) (hQ : Q (none) h) : Go p e below s K N h0 ws Q T (mkF m pc Ls []) := by
  obtain ⟨L0, X, eT, KK, FF⟩ := X; have hlk := B.2.2.2.2.2.2.2; have hrt := B.2.2.2.2.2.2.1
  obtain ⟨fs, hr, hrun, hended, hW, hsame⟩ := X.leave (v := none) (fun h => rfl) hlk
  exact ⟨_, _, X.returnOut B.1 hrt (hb B.2.2.1 hd) hr, hrun, hended, _, _, rfl, ⟨by show Q _ T.heap; rw [eT]; exact hQ, by show Keep h0 T.heap ws; rw [eT]; exact KK, FF⟩, ⟨_, rfl⟩, hW, hsame.mono hk hn⟩
end Go
end Jvm.OwnKit
namespace Jvm.Pilot.@@N@@
open Jvm Jvm.ClassFile Sem Op Lib Jvm.Free Jvm.Stand Jvm.LawKit Jvm.RoadKit Jvm.OwnKit Bundle Jvm.Pilot.@@N@@.Jvm.D
theorem d1_0 : decode method_3_code 0 = .ok (.iload_n 0, 1) := by decide +kernel
theorem d1_1 : decode method_3_code 1 = .ok (.sipush 256, 3) := by decide +kernel
theorem d1_4 : decode method_3_code 4 = .ok (.iand, 1) := by decide +kernel
theorem d1_5 : decode method_3_code 5 = .ok (.ifCond .eq 16, 3) := by decide +kernel
theorem d1_8 : decode method_3_code 8 = .ok (.bipush 48, 2) := by decide +kernel
theorem d1_10 : decode method_3_code 10 = .ok (.iload_n 0, 1) := by decide +kernel
theorem d1_11 : decode method_3_code 11 = .ok (.sipush 255, 3) := by decide +kernel
theorem d1_14 : decode method_3_code 14 = .ok (.iand, 1) := by decide +kernel
theorem d1_15 : decode method_3_code 15 = .ok (.bipush 10, 2) := by decide +kernel
theorem d1_17 : decode method_3_code 17 = .ok (.irem, 1) := by decide +kernel
theorem d1_18 : decode method_3_code 18 = .ok (.iadd, 1) := by decide +kernel
theorem d1_19 : decode method_3_code 19 = .ok (.i2b, 1) := by decide +kernel
theorem d1_20 : decode method_3_code 20 = .ok (.ireturn, 1) := by decide +kernel
theorem d1_21 : decode method_3_code 21 = .ok (.iload_n 0, 1) := by decide +kernel
theorem d1_22 : decode method_3_code 22 = .ok (.i2b, 1) := by decide +kernel
theorem d1_23 : decode method_3_code 23 = .ok (.ireturn, 1) := by decide +kernel
theorem pn1 : plainFor (⟨"com/example/paycadence/paycadence/format/DigitsValuePinLaw", "draw", "(I)B"⟩ : MethodName) = true := plainFor_of_name (by first | (simp [plainName, overriddenIn]; done) | decide +kernel)
theorem ef1_I (m : MethodId) (x0 : Int32) : entryFrame m #[(.int x0)] 1 = mkF m 0 #[.val (.int x0)] [] := by first | (simp [entryFrame, mkF, argsToLocals, Value.category]; done) | rfl
def f1 (u : Int32) : Int32 := if (u &&& (256 : Int32)) = (0 : Int32) then u.toInt8.toInt32 else (((48 : Int32) + ((u &&& (255 : Int32)) % (10 : Int32))).toInt8.toInt32)
def rmr1 : Room := { frames := 0, cells := 0, slots := 0, locals := 0 }
set_option maxRecDepth 65536 in
set_option maxHeartbeats 4000000 in
theorem mt1 (l : Launch) (Z : State) (a0 : Array Value) (hw : ∀ d ∈ tables_1, d.before a0 Z = true) (u : Int32)  (h0 : Heap) : Meth l Z (⟨"com/example/paycadence/paycadence/format/DigitsValuePinLaw", "draw", "(I)B"⟩ : MethodName) method_3_code 1 (some .byte) rmr1 #[(.int u)] h0 [] (fun vr h' => vr = some (.int (f1 u)) ∧ h' = h0) := by
  refine Meth.of pn1 ?_
  intro p e s m below meth c T B X
  refine Go.entry (ef1_I m u) ?_
  refine giloadN B X d1_0 rfl (pc' := 1) rfl ?_
  refine gsipush B X d1_1 (v := (256 : Int32)) rfl (pc' := 4) rfl ?_
  refine giand B X d1_4 rfl (pc' := 5) rfl ?_
  by_cases c5_1 : (u &&& (256 : Int32)) = (0 : Int32)
  · refine gifY B X (pc' := 21) d1_5 ((if0 _ _).trans (teq c5_1).1) (by decide) ?_
    refine giloadN B X d1_21 rfl (pc' := 22) rfl ?_
    refine gi2b B X d1_22 rfl (pc' := 23) rfl ?_
    exact gretN B X (z' := u.toInt8.toInt32) (by simp) ((nb _)) d1_23 (by decide) (by decide) (⟨by rw [f1, if_pos c5_1], rfl⟩)
  · refine gifN B X d1_5 ((if0 _ _).trans (feq c5_1).1) (pc' := 8) rfl ?_
    refine gbipush B X d1_8 (v := (48 : Int32)) rfl (pc' := 10) rfl ?_
    refine giloadN B X d1_10 rfl (pc' := 11) rfl ?_
    refine gsipush B X d1_11 (v := (255 : Int32)) rfl (pc' := 14) rfl ?_
    refine giand B X d1_14 rfl (pc' := 15) rfl ?_
    refine gbipush B X d1_15 (v := (10 : Int32)) rfl (pc' := 17) rfl ?_
    refine girem B X d1_17 (by decide) rfl (pc' := 18) rfl ?_
    refine giadd B X d1_18 rfl (pc' := 19) rfl ?_
    refine gi2b B X d1_19 rfl (pc' := 20) rfl ?_
    exact gretN B X (z' := ((48 : Int32) + ((u &&& (255 : Int32)) % (10 : Int32))).toInt8.toInt32) (by simp) ((nb _)) d1_20 (by decide) (by decide) (⟨by rw [f1, if_neg c5_1], rfl⟩)
theorem d4_0 : decode method_4_code 0 = .ok (.iload_n 0, 1) := by decide +kernel
theorem d4_1 : decode method_4_code 1 = .ok (.bipush 48, 2) := by decide +kernel
theorem d4_3 : decode method_4_code 3 = .ok (.if_icmp .ge 5, 3) := by decide +kernel
theorem d4_6 : decode method_4_code 6 = .ok (.iconst (-1), 1) := by decide +kernel
theorem d4_7 : decode method_4_code 7 = .ok (.ireturn, 1) := by decide +kernel
theorem d4_8 : decode method_4_code 8 = .ok (.iload_n 0, 1) := by decide +kernel
theorem d4_9 : decode method_4_code 9 = .ok (.bipush 57, 2) := by decide +kernel
theorem d4_11 : decode method_4_code 11 = .ok (.if_icmp .le 5, 3) := by decide +kernel
theorem d4_14 : decode method_4_code 14 = .ok (.iconst (-1), 1) := by decide +kernel
theorem d4_15 : decode method_4_code 15 = .ok (.ireturn, 1) := by decide +kernel
theorem d4_16 : decode method_4_code 16 = .ok (.iload_n 0, 1) := by decide +kernel
theorem d4_17 : decode method_4_code 17 = .ok (.bipush 48, 2) := by decide +kernel
theorem d4_19 : decode method_4_code 19 = .ok (.isub, 1) := by decide +kernel
theorem d4_20 : decode method_4_code 20 = .ok (.ireturn, 1) := by decide +kernel
theorem pn4 : plainFor (⟨"com/example/paycadence/paycadence/format/DigitsValuePinLaw", "digit", "(B)I"⟩ : MethodName) = true := plainFor_of_name (by first | (simp [plainName, overriddenIn]; done) | decide +kernel)
theorem ef4_I (m : MethodId) (x0 : Int32) : entryFrame m #[(.int x0)] 1 = mkF m 0 #[.val (.int x0)] [] := by first | (simp [entryFrame, mkF, argsToLocals, Value.category]; done) | rfl
def f4 (b : Int32) : Int32 := if b < (48 : Int32) then (-1 : Int32) else (if (57 : Int32) < b then (-1 : Int32) else ((b - (48 : Int32))))
def rmr4 : Room := { frames := 0, cells := 0, slots := 0, locals := 0 }
set_option maxRecDepth 65536 in
set_option maxHeartbeats 4000000 in
theorem mt4 (l : Launch) (Z : State) (a0 : Array Value) (hw : ∀ d ∈ tables_1, d.before a0 Z = true) (b : Int32)  (h0 : Heap) : Meth l Z (⟨"com/example/paycadence/paycadence/format/DigitsValuePinLaw", "digit", "(B)I"⟩ : MethodName) method_4_code 1 (some .int) rmr4 #[(.int b)] h0 [] (fun vr h' => vr = some (.int (f4 b)) ∧ h' = h0) := by
  refine Meth.of pn4 ?_
  intro p e s m below meth c T B X
  refine Go.entry (ef4_I m b) ?_
  refine giloadN B X d4_0 rfl (pc' := 1) rfl ?_
  refine gbipush B X d4_1 (v := (48 : Int32)) rfl (pc' := 3) rfl ?_
  by_cases c3_2 : b < (48 : Int32)
  · refine gicN B X d4_3 (tlt c3_2).2.1 (pc' := 6) rfl ?_
    refine giconst B X d4_6 (v := (-1 : Int32)) rfl (pc' := 7) rfl ?_
    exact gretI B X d4_7 (by decide) (by decide) (⟨by rw [f4, if_pos c3_2], rfl⟩)
  · refine gicY B X (pc' := 8) d4_3 (flt c3_2).2.1 (by decide) ?_
    refine giloadN B X d4_8 rfl (pc' := 9) rfl ?_
    refine gbipush B X d4_9 (v := (57 : Int32)) rfl (pc' := 11) rfl ?_
    by_cases c11_3 : (57 : Int32) < b
    · refine gicN B X d4_11 (tlt c11_3).2.2.2 (pc' := 14) rfl ?_
      refine giconst B X d4_14 (v := (-1 : Int32)) rfl (pc' := 15) rfl ?_
      exact gretI B X d4_15 (by decide) (by decide) (⟨by rw [f4, if_neg c3_2, if_pos c11_3], rfl⟩)
    · refine gicY B X (pc' := 16) d4_11 (flt c11_3).2.2.2 (by decide) ?_
      refine giloadN B X d4_16 rfl (pc' := 17) rfl ?_
      refine gbipush B X d4_17 (v := (48 : Int32)) rfl (pc' := 19) rfl ?_
      refine gisub B X d4_19 rfl (pc' := 20) rfl ?_
      exact gretI B X d4_20 (by decide) (by decide) (⟨by rw [f4, if_neg c3_2, if_neg c11_3], rfl⟩)
theorem d5_0 : decode method_5_code 0 = .ok (.iload_n 0, 1) := by decide +kernel
theorem d5_1 : decode method_5_code 1 = .ok (.ifCond .ne 5, 3) := by decide +kernel
theorem d5_4 : decode method_5_code 4 = .ok (.iconst 1, 1) := by decide +kernel
theorem d5_5 : decode method_5_code 5 = .ok (.ireturn, 1) := by decide +kernel
theorem d5_6 : decode method_5_code 6 = .ok (.iload_n 0, 1) := by decide +kernel
theorem d5_7 : decode method_5_code 7 = .ok (.iconst 1, 1) := by decide +kernel
theorem d5_8 : decode method_5_code 8 = .ok (.if_icmp .ne 6, 3) := by decide +kernel
theorem d5_11 : decode method_5_code 11 = .ok (.bipush 10, 2) := by decide +kernel
theorem d5_13 : decode method_5_code 13 = .ok (.ireturn, 1) := by decide +kernel
theorem d5_14 : decode method_5_code 14 = .ok (.iload_n 0, 1) := by decide +kernel
theorem d5_15 : decode method_5_code 15 = .ok (.iconst 2, 1) := by decide +kernel
theorem d5_16 : decode method_5_code 16 = .ok (.if_icmp .ne 6, 3) := by decide +kernel
theorem d5_19 : decode method_5_code 19 = .ok (.bipush 100, 2) := by decide +kernel
theorem d5_21 : decode method_5_code 21 = .ok (.ireturn, 1) := by decide +kernel
theorem d5_22 : decode method_5_code 22 = .ok (.sipush 1000, 3) := by decide +kernel
theorem d5_25 : decode method_5_code 25 = .ok (.ireturn, 1) := by decide +kernel
theorem pn5 : plainFor (⟨"com/example/paycadence/paycadence/format/DigitsValuePinLaw", "weight", "(I)I"⟩ : MethodName) = true := plainFor_of_name (by first | (simp [plainName, overriddenIn]; done) | decide +kernel)
theorem ef5_I (m : MethodId) (x0 : Int32) : entryFrame m #[(.int x0)] 1 = mkF m 0 #[.val (.int x0)] [] := by first | (simp [entryFrame, mkF, argsToLocals, Value.category]; done) | rfl
def f5 (w : Int32) : Int32 := if w = (0 : Int32) then (1 : Int32) else (if w = (1 : Int32) then (10 : Int32) else (if w = (2 : Int32) then (100 : Int32) else ((1000 : Int32))))
def rmr5 : Room := { frames := 0, cells := 0, slots := 0, locals := 0 }
set_option maxRecDepth 65536 in
set_option maxHeartbeats 4000000 in
theorem mt5 (l : Launch) (Z : State) (a0 : Array Value) (hw : ∀ d ∈ tables_1, d.before a0 Z = true) (w : Int32)  (h0 : Heap) : Meth l Z (⟨"com/example/paycadence/paycadence/format/DigitsValuePinLaw", "weight", "(I)I"⟩ : MethodName) method_5_code 1 (some .int) rmr5 #[(.int w)] h0 [] (fun vr h' => vr = some (.int (f5 w)) ∧ h' = h0) := by
  refine Meth.of pn5 ?_
  intro p e s m below meth c T B X
  refine Go.entry (ef5_I m w) ?_
  refine giloadN B X d5_0 rfl (pc' := 1) rfl ?_
  by_cases c1_4 : w = (0 : Int32)
  · refine gifN B X d5_1 ((if0 _ _).trans (teq c1_4).2) (pc' := 4) rfl ?_
    refine giconst B X d5_4 (v := (1 : Int32)) rfl (pc' := 5) rfl ?_
    exact gretI B X d5_5 (by decide) (by decide) (⟨by rw [f5, if_pos c1_4], rfl⟩)
  · refine gifY B X (pc' := 6) d5_1 ((if0 _ _).trans (feq c1_4).2) (by decide) ?_
    refine giloadN B X d5_6 rfl (pc' := 7) rfl ?_
    refine giconst B X d5_7 (v := (1 : Int32)) rfl (pc' := 8) rfl ?_
    by_cases c8_5 : w = (1 : Int32)
    · refine gicN B X d5_8 (teq c8_5).2 (pc' := 11) rfl ?_
      refine gbipush B X d5_11 (v := (10 : Int32)) rfl (pc' := 13) rfl ?_
      exact gretI B X d5_13 (by decide) (by decide) (⟨by rw [f5, if_neg c1_4, if_pos c8_5], rfl⟩)
    · refine gicY B X (pc' := 14) d5_8 (feq c8_5).2 (by decide) ?_
      refine giloadN B X d5_14 rfl (pc' := 15) rfl ?_
      refine giconst B X d5_15 (v := (2 : Int32)) rfl (pc' := 16) rfl ?_
      by_cases c16_6 : w = (2 : Int32)
      · refine gicN B X d5_16 (teq c16_6).2 (pc' := 19) rfl ?_
        refine gbipush B X d5_19 (v := (100 : Int32)) rfl (pc' := 21) rfl ?_
        exact gretI B X d5_21 (by decide) (by decide) (⟨by rw [f5, if_neg c1_4, if_neg c8_5, if_pos c16_6], rfl⟩)
      · refine gicY B X (pc' := 22) d5_16 (feq c16_6).2 (by decide) ?_
        refine gsipush B X d5_22 (v := (1000 : Int32)) rfl (pc' := 25) rfl ?_
        exact gretI B X d5_25 (by decide) (by decide) (⟨by rw [f5, if_neg c1_4, if_neg c8_5, if_neg c16_6], rfl⟩)
theorem d2_0 : decode method_6_code 0 = .ok (.iload_n 1, 1) := by decide +kernel
theorem d2_1 : decode method_6_code 1 = .ok (.iload_n 2, 1) := by decide +kernel
theorem d2_2 : decode method_6_code 2 = .ok (.if_icmp .lt 8, 3) := by decide +kernel
theorem d2_5 : decode method_6_code 5 = .ok (.iload_n 1, 1) := by decide +kernel
theorem d2_6 : decode method_6_code 6 = .ok (.iload_n 3, 1) := by decide +kernel
theorem d2_7 : decode method_6_code 7 = .ok (.if_icmp .lt 5, 3) := by decide +kernel
theorem d2_10 : decode method_6_code 10 = .ok (.iconst 0, 1) := by decide +kernel
theorem d2_11 : decode method_6_code 11 = .ok (.ireturn, 1) := by decide +kernel
theorem d2_12 : decode method_6_code 12 = .ok (.aload_n 0, 1) := by decide +kernel
theorem d2_13 : decode method_6_code 13 = .ok (.iload_n 1, 1) := by decide +kernel
theorem d2_14 : decode method_6_code 14 = .ok (.baload, 1) := by decide +kernel
theorem d2_15 : decode method_6_code 15 = .ok (.invokestatic 23, 3) := by decide +kernel
theorem d2_18 : decode method_6_code 18 = .ok (.istore 4, 2) := by decide +kernel
theorem d2_20 : decode method_6_code 20 = .ok (.iload 4, 2) := by decide +kernel
theorem d2_22 : decode method_6_code 22 = .ok (.ifCond .ge 5, 3) := by decide +kernel
theorem d2_25 : decode method_6_code 25 = .ok (.iconst (-1), 1) := by decide +kernel
theorem d2_26 : decode method_6_code 26 = .ok (.ireturn, 1) := by decide +kernel
theorem d2_27 : decode method_6_code 27 = .ok (.iload 4, 2) := by decide +kernel
theorem d2_29 : decode method_6_code 29 = .ok (.iload_n 3, 1) := by decide +kernel
theorem d2_30 : decode method_6_code 30 = .ok (.iconst 1, 1) := by decide +kernel
theorem d2_31 : decode method_6_code 31 = .ok (.isub, 1) := by decide +kernel
theorem d2_32 : decode method_6_code 32 = .ok (.iload_n 1, 1) := by decide +kernel
theorem d2_33 : decode method_6_code 33 = .ok (.isub, 1) := by decide +kernel
theorem d2_34 : decode method_6_code 34 = .ok (.invokestatic 27, 3) := by decide +kernel
theorem d2_37 : decode method_6_code 37 = .ok (.imul, 1) := by decide +kernel
theorem d2_38 : decode method_6_code 38 = .ok (.ireturn, 1) := by decide +kernel
theorem pn2 : plainFor (⟨"com/example/paycadence/paycadence/format/DigitsValuePinLaw", "term", "([BIII)I"⟩ : MethodName) = true := plainFor_of_name (by first | (simp [plainName, overriddenIn]; done) | decide +kernel)
theorem ef2_RIII (m : MethodId) (x0 : Addr) (x1 : Int32) (x2 : Int32) (x3 : Int32) : entryFrame m #[(.ref x0), (.int x1), (.int x2), (.int x3)] 5 = mkF m 0 #[.val (.ref x0), .val (.int x1), .val (.int x2), .val (.int x3), .unset] [] := by first | (simp [entryFrame, mkF, argsToLocals, Value.category]; done) | rfl
theorem pd__B_I : parseMethodDescriptor "(B)I" = some ⟨[.byte], some .int⟩ := by decide +kernel
theorem pd__I_I : parseMethodDescriptor "(I)I" = some ⟨[.int], some .int⟩ := by decide +kernel
def f2 (i : Int32) (fr : Int32) (to : Int32) (x : Int32) : Int32 := if i < fr then (0 : Int32) else (if i < to then (if (f4 x) < (0 : Int32) then (-1 : Int32) else (((f4 x) * (f5 ((to - (1 : Int32)) - i))))) else ((0 : Int32)))
def rmr2 : Room := { frames := 1, cells := 0, slots := 0, locals := 13 }
set_option maxRecDepth 65536 in
set_option maxHeartbeats 4000000 in
theorem mt2 (l : Launch) (Z : State) (a0 : Array Value) (hw : ∀ d ∈ tables_1, d.before a0 Z = true) (a : Addr) (i : Int32) (fr : Int32) (to : Int32) (vs : List Value) (x : Int32) (h0 : Heap) (F : VA Z h0 a .byte vs) (hn : vs.length = 4) (hi : 0 ≤ i.toInt ∧ i.toInt < (4 : Nat)) (hv : vs[i.toNatClampNeg]? = some (.int x)) : Meth l Z (⟨"com/example/paycadence/paycadence/format/DigitsValuePinLaw", "term", "([BIII)I"⟩ : MethodName) method_6_code 5 (some .int) rmr2 #[(.ref a), (.int i), (.int fr), (.int to)] h0 [] (fun vr h' => vr = some (.int (f2 i fr to x)) ∧ h' = h0) := by
  refine Meth.of pn2 ?_
  intro p e s m below meth c T B X
  refine Go.entry (ef2_RIII m a i fr to) ?_
  refine giloadN B X d2_0 rfl (pc' := 1) rfl ?_
  refine giloadN B X d2_1 rfl (pc' := 2) rfl ?_
  by_cases c2_7 : i < fr
  · refine gicY B X (pc' := 10) d2_2 (tlt c2_7).1 (by decide) ?_
    refine giconst B X d2_10 (v := (0 : Int32)) rfl (pc' := 11) rfl ?_
    exact gretI B X d2_11 (by decide) (by decide) (⟨by rw [f2, if_pos c2_7], rfl⟩)
  · refine gicN B X d2_2 (flt c2_7).1 (pc' := 5) rfl ?_
    refine giloadN B X d2_5 rfl (pc' := 6) rfl ?_
    refine giloadN B X d2_6 rfl (pc' := 7) rfl ?_
    by_cases c7_8 : i < to
    · refine gicY B X (pc' := 12) d2_7 (tlt c7_8).1 (by decide) ?_
      refine galoadN B X d2_12 rfl rfl (pc' := 13) rfl ?_
      refine giloadN B X d2_13 rfl (pc' := 14) rfl ?_
      refine gbaload B X F hn hi (v := (.int x)) (hv) d2_14 (pc' := 15) rfl ?_
      refine gcallS B X (hw _ (List.mem_of_getElem? (i := 12) rfl)) (hw _ (List.mem_of_getElem? (i := 13) rfl)) (hw _ (List.mem_of_getElem? (i := 3) rfl)) (hw _ (List.mem_of_getElem? (i := 14) rfl)) (by decide) (mt4 l Z a0 hw x  h0 ) pd__B_I rfl (argsL := [(.int x)]) (st := []) rfl rfl (W := 0) (Nat.le_of_eq rfl) (by decide) (by decide) (by decide) (by decide) (fun x q => nomatch q) d2_15 rfl (pureG rfl rfl fun T9 X10 => ?_)
      refine gistore B X10 d2_18 (Ls' := #[.val (.ref a), .val (.int i), .val (.int fr), .val (.int to), .val (.int (f4 x))]) rfl (pc' := 20) rfl ?_
      refine giload B X10 d2_20 rfl (pc' := 22) rfl ?_
      by_cases c22_11 : (f4 x) < (0 : Int32)
      · refine gifN B X10 d2_22 ((if0 _ _).trans (tlt c22_11).2.1) (pc' := 25) rfl ?_
        refine giconst B X10 d2_25 (v := (-1 : Int32)) rfl (pc' := 26) rfl ?_
        exact gretI B X10 d2_26 (by decide) (by decide) (⟨by rw [f2, if_neg c2_7, if_pos c7_8, if_pos c22_11], rfl⟩)
      · refine gifY B X10 (pc' := 27) d2_22 ((if0 _ _).trans (flt c22_11).2.1) (by decide) ?_
        refine giload B X10 d2_27 rfl (pc' := 29) rfl ?_
        refine giloadN B X10 d2_29 rfl (pc' := 30) rfl ?_
        refine giconst B X10 d2_30 (v := (1 : Int32)) rfl (pc' := 31) rfl ?_
        refine gisub B X10 d2_31 rfl (pc' := 32) rfl ?_
        refine giloadN B X10 d2_32 rfl (pc' := 33) rfl ?_
        refine gisub B X10 d2_33 rfl (pc' := 34) rfl ?_
        refine gcallS B X10 (hw _ (List.mem_of_getElem? (i := 15) rfl)) (hw _ (List.mem_of_getElem? (i := 16) rfl)) (hw _ (List.mem_of_getElem? (i := 3) rfl)) (hw _ (List.mem_of_getElem? (i := 17) rfl)) (by decide) (mt5 l Z a0 hw ((to - (1 : Int32)) - i)  h0 ) pd__I_I rfl (argsL := [(.int ((to - (1 : Int32)) - i))]) (st := [(.int (f4 x))]) rfl rfl (W := 1) (Nat.le_of_eq rfl) (by decide) (by decide) (by decide) (by decide) (fun x q => nomatch q) d2_34 rfl (pureG rfl rfl fun T12 X13 => ?_)
        refine gimul B X13 d2_37 rfl (pc' := 38) rfl ?_
        exact gretI B X13 d2_38 (by decide) (by decide) (⟨by rw [f2, if_neg c2_7, if_pos c7_8, if_neg c22_11], rfl⟩)
    · refine gicN B X d2_7 (flt c7_8).1 (pc' := 10) rfl ?_
      refine giconst B X d2_10 (v := (0 : Int32)) rfl (pc' := 11) rfl ?_
      exact gretI B X d2_11 (by decide) (by decide) (⟨by rw [f2, if_neg c2_7, if_neg c7_8], rfl⟩)
theorem d3_0 : decode prog_45_method_3_code 0 = .ok (.iconst 0, 1) := by decide +kernel
theorem d3_1 : decode prog_45_method_3_code 1 = .ok (.istore_n 3, 1) := by decide +kernel
theorem d3_2 : decode prog_45_method_3_code 2 = .ok (.iload_n 1, 1) := by decide +kernel
theorem d3_3 : decode prog_45_method_3_code 3 = .ok (.istore 4, 2) := by decide +kernel
theorem d3_5 : decode prog_45_method_3_code 5 = .ok (.iload 4, 2) := by decide +kernel
theorem d3_7 : decode prog_45_method_3_code 7 = .ok (.iload_n 2, 1) := by decide +kernel
theorem d3_8 : decode prog_45_method_3_code 8 = .ok (.if_icmp .ge 48, 3) := by decide +kernel
theorem d3_11 : decode prog_45_method_3_code 11 = .ok (.iload_n 3, 1) := by decide +kernel
theorem d3_12 : decode prog_45_method_3_code 12 = .ok (.ifCond .lt 44, 3) := by decide +kernel
theorem d3_15 : decode prog_45_method_3_code 15 = .ok (.aload_n 0, 1) := by decide +kernel
theorem d3_16 : decode prog_45_method_3_code 16 = .ok (.iload 4, 2) := by decide +kernel
theorem d3_18 : decode prog_45_method_3_code 18 = .ok (.baload, 1) := by decide +kernel
theorem d3_19 : decode prog_45_method_3_code 19 = .ok (.istore 5, 2) := by decide +kernel
theorem d3_21 : decode prog_45_method_3_code 21 = .ok (.iload 5, 2) := by decide +kernel
theorem d3_23 : decode prog_45_method_3_code 23 = .ok (.bipush 48, 2) := by decide +kernel
theorem d3_25 : decode prog_45_method_3_code 25 = .ok (.if_icmp .lt 23, 3) := by decide +kernel
theorem d3_28 : decode prog_45_method_3_code 28 = .ok (.iload 5, 2) := by decide +kernel
theorem d3_30 : decode prog_45_method_3_code 30 = .ok (.bipush 57, 2) := by decide +kernel
theorem d3_32 : decode prog_45_method_3_code 32 = .ok (.if_icmp .gt 16, 3) := by decide +kernel
theorem d3_35 : decode prog_45_method_3_code 35 = .ok (.bipush 10, 2) := by decide +kernel
theorem d3_37 : decode prog_45_method_3_code 37 = .ok (.iload_n 3, 1) := by decide +kernel
theorem d3_38 : decode prog_45_method_3_code 38 = .ok (.imul, 1) := by decide +kernel
theorem d3_39 : decode prog_45_method_3_code 39 = .ok (.iload 5, 2) := by decide +kernel
theorem d3_41 : decode prog_45_method_3_code 41 = .ok (.bipush 48, 2) := by decide +kernel
theorem d3_43 : decode prog_45_method_3_code 43 = .ok (.isub, 1) := by decide +kernel
theorem d3_44 : decode prog_45_method_3_code 44 = .ok (.iadd, 1) := by decide +kernel
theorem d3_45 : decode prog_45_method_3_code 45 = .ok (.goto 4, 3) := by decide +kernel
theorem d3_48 : decode prog_45_method_3_code 48 = .ok (.iconst (-1), 1) := by decide +kernel
theorem d3_49 : decode prog_45_method_3_code 49 = .ok (.istore_n 3, 1) := by decide +kernel
theorem d3_50 : decode prog_45_method_3_code 50 = .ok (.iinc 4 1, 3) := by decide +kernel
theorem d3_53 : decode prog_45_method_3_code 53 = .ok (.goto (-48), 3) := by decide +kernel
theorem d3_56 : decode prog_45_method_3_code 56 = .ok (.iload_n 3, 1) := by decide +kernel
theorem d3_57 : decode prog_45_method_3_code 57 = .ok (.ireturn, 1) := by decide +kernel
theorem pn3 : plainFor (⟨"com/example/paycadence/paycadence/format/Digits", "value", "([BII)I"⟩ : MethodName) = true := plainFor_of_name (by first | (simp [plainName, overriddenIn]; done) | decide +kernel)
theorem ef3_RII (m : MethodId) (x0 : Addr) (x1 : Int32) (x2 : Int32) : entryFrame m #[(.ref x0), (.int x1), (.int x2)] 6 = mkF m 0 #[.val (.ref x0), .val (.int x1), .val (.int x2), .unset, .unset, .unset] [] := by first | (simp [entryFrame, mkF, argsToLocals, Value.category]; done) | rfl
def og (v : Int32) (b : Int32) : Int32 := if b < (48 : Int32) then (-1 : Int32) else (if (57 : Int32) < b then (-1 : Int32) else (((10 : Int32) * v) + (b - (48 : Int32))))
def f3_0 (to : Int32) (x0 : Int32) (x1 : Int32) (x2 : Int32) (x3 : Int32) : Int32 := if (0 : Int32) < to then (if (1 : Int32) < to then (if (og (0 : Int32) x0) < (0 : Int32) then (og (0 : Int32) x0) else (if (2 : Int32) < to then (if (og (og (0 : Int32) x0) x1) < (0 : Int32) then (og (og (0 : Int32) x0) x1) else (if (3 : Int32) < to then (if (og (og (og (0 : Int32) x0) x1) x2) < (0 : Int32) then (og (og (og (0 : Int32) x0) x1) x2) else ((og (og (og (og (0 : Int32) x0) x1) x2) x3))) else ((og (og (og (0 : Int32) x0) x1) x2)))) else ((og (og (0 : Int32) x0) x1)))) else ((og (0 : Int32) x0))) else ((0 : Int32))
def rmr3 : Room := { frames := 0, cells := 0, slots := 0, locals := 0 }
set_option maxRecDepth 65536 in
set_option maxHeartbeats 4000000 in
theorem mt3_0 (l : Launch) (Z : State) (a0 : Array Value) (hw : ∀ d ∈ tables_1, d.before a0 Z = true) (a : Addr) (to : Int32) (x0 x1 x2 x3 : Int32) (h0 : Heap) (F : VA Z h0 a .byte [.int x0, .int x1, .int x2, .int x3]) (ht : ¬ (4 : Int32) < to) : Meth l Z (⟨"com/example/paycadence/paycadence/format/Digits", "value", "([BII)I"⟩ : MethodName) prog_45_method_3_code 6 (some .int) rmr3 #[(.ref a), (.int (0 : Int32)), (.int to)] h0 [] (fun vr h' => vr = some (.int (f3_0 to x0 x1 x2 x3)) ∧ h' = h0) := by
  refine Meth.of pn3 ?_
  intro p e s m below meth c T B X
  refine Go.entry (ef3_RII m a (0 : Int32) to) ?_
  refine giconst B X d3_0 (v := (0 : Int32)) rfl (pc' := 1) rfl ?_
  refine gistoreN B X d3_1 (Ls' := #[.val (.ref a), .val (.int (0 : Int32)), .val (.int to), .val (.int (0 : Int32)), .unset, .unset]) rfl (pc' := 2) rfl ?_
  refine giloadN B X d3_2 rfl (pc' := 3) rfl ?_
  refine gistore B X d3_3 (Ls' := #[.val (.ref a), .val (.int (0 : Int32)), .val (.int to), .val (.int (0 : Int32)), .val (.int (0 : Int32)), .unset]) rfl (pc' := 5) rfl ?_
  refine giload B X d3_5 rfl (pc' := 7) rfl ?_
  refine giloadN B X d3_7 rfl (pc' := 8) rfl ?_
  by_cases c8_14 : (0 : Int32) < to
  · refine gicN B X d3_8 (tlt c8_14).2.1 (pc' := 11) rfl ?_
    refine giloadN B X d3_11 rfl (pc' := 12) rfl ?_
    have c12_15 : ¬ ((0 : Int32) < (0 : Int32)) := (by decide)
    refine gifN B X d3_12 ((if0 _ _).trans (flt c12_15).1) (pc' := 15) rfl ?_
    refine galoadN B X d3_15 rfl rfl (pc' := 16) rfl ?_
    refine giload B X d3_16 rfl (pc' := 18) rfl ?_
    refine gbaload B X (n := 4) F rfl (by decide) (v := (.int x0)) rfl d3_18 (pc' := 19) rfl ?_
    refine gistore B X d3_19 (Ls' := #[.val (.ref a), .val (.int (0 : Int32)), .val (.int to), .val (.int (0 : Int32)), .val (.int (0 : Int32)), .val (.int x0)]) rfl (pc' := 21) rfl ?_
    refine joinG B X (F := fun z => (mkF m 49 #[.val (.ref a), .val (.int (0 : Int32)), .val (.int to), .val (.int (0 : Int32)), .val (.int (0 : Int32)), .val (.int x0)] [(.int z)])) (r := (og (0 : Int32) x0)) (fun J => ?_) ?_
    · refine giload B X d3_21 rfl (pc' := 23) rfl ?_
      refine gbipush B X d3_23 (v := (48 : Int32)) rfl (pc' := 25) rfl ?_
      by_cases c25_16 : x0 < (48 : Int32)
      · refine gicY B X (pc' := 48) d3_25 (tlt c25_16).1 (by decide) ?_
        refine giconst B X d3_48 (v := (-1 : Int32)) rfl (pc' := 49) rfl ?_
        have e_J : (og (0 : Int32) x0) = (-1 : Int32) := by rw [og, if_pos c25_16]
        rw [e_J] at J
        exact J _ X
      · refine gicN B X d3_25 (flt c25_16).1 (pc' := 28) rfl ?_
        refine giload B X d3_28 rfl (pc' := 30) rfl ?_
        refine gbipush B X d3_30 (v := (57 : Int32)) rfl (pc' := 32) rfl ?_
        by_cases c32_17 : (57 : Int32) < x0
        · refine gicY B X (pc' := 48) d3_32 (tlt c32_17).2.2.1 (by decide) ?_
          refine giconst B X d3_48 (v := (-1 : Int32)) rfl (pc' := 49) rfl ?_
          have e_J : (og (0 : Int32) x0) = (-1 : Int32) := by rw [og, if_neg c25_16, if_pos c32_17]
          rw [e_J] at J
          exact J _ X
        · refine gicN B X d3_32 (flt c32_17).2.2.1 (pc' := 35) rfl ?_
          refine gbipush B X d3_35 (v := (10 : Int32)) rfl (pc' := 37) rfl ?_
          refine giloadN B X d3_37 rfl (pc' := 38) rfl ?_
          refine gimul B X d3_38 rfl (pc' := 39) rfl ?_
          refine giload B X d3_39 rfl (pc' := 41) rfl ?_
          refine gbipush B X d3_41 (v := (48 : Int32)) rfl (pc' := 43) rfl ?_
          refine gisub B X d3_43 rfl (pc' := 44) rfl ?_
          refine giadd B X d3_44 rfl (pc' := 45) rfl ?_
          refine ggoto B X (pc' := 49) d3_45 (by decide) ?_
          have e_J : (og (0 : Int32) x0) = (((10 : Int32) * (0 : Int32)) + (x0 - (48 : Int32))) := by rw [og, if_neg c25_16, if_neg c32_17]
          rw [e_J] at J
          exact J _ X
    intro T18 X19
    show Go p e below s _ _ _ _ _ T18 (mkF m 49 #[.val (.ref a), .val (.int (0 : Int32)), .val (.int to), .val (.int (0 : Int32)), .val (.int (0 : Int32)), .val (.int x0)] [(.int (og (0 : Int32) x0))])
    refine gistoreN B X19 d3_49 (Ls' := #[.val (.ref a), .val (.int (0 : Int32)), .val (.int to), .val (.int (og (0 : Int32) x0)), .val (.int (0 : Int32)), .val (.int x0)]) rfl (pc' := 50) rfl ?_
    refine giinc B X19 d3_50 rfl (v := (1 : Int32)) (by decide) (Ls' := #[.val (.ref a), .val (.int (0 : Int32)), .val (.int to), .val (.int (og (0 : Int32) x0)), .val (.int (1 : Int32)), .val (.int x0)]) rfl (pc' := 53) rfl ?_
    refine ggoto B X19 (pc' := 5) d3_53 (by decide) ?_
    refine giload B X19 d3_5 rfl (pc' := 7) rfl ?_
    refine giloadN B X19 d3_7 rfl (pc' := 8) rfl ?_
    by_cases c8_20 : (1 : Int32) < to
    · refine gicN B X19 d3_8 (tlt c8_20).2.1 (pc' := 11) rfl ?_
      refine giloadN B X19 d3_11 rfl (pc' := 12) rfl ?_
      by_cases c12_21 : (og (0 : Int32) x0) < (0 : Int32)
      · refine gifY B X19 (pc' := 56) d3_12 ((if0 _ _).trans (tlt c12_21).1) (by decide) ?_
        refine giloadN B X19 d3_56 rfl (pc' := 57) rfl ?_
        exact gretI B X19 d3_57 (by decide) (by decide) (⟨by rw [f3_0, if_pos c8_14, if_pos c8_20, if_pos c12_21], rfl⟩)
      · refine gifN B X19 d3_12 ((if0 _ _).trans (flt c12_21).1) (pc' := 15) rfl ?_
        refine galoadN B X19 d3_15 rfl rfl (pc' := 16) rfl ?_
        refine giload B X19 d3_16 rfl (pc' := 18) rfl ?_
        refine gbaload B X19 (n := 4) F rfl (by decide) (v := (.int x1)) rfl d3_18 (pc' := 19) rfl ?_
        refine gistore B X19 d3_19 (Ls' := #[.val (.ref a), .val (.int (0 : Int32)), .val (.int to), .val (.int (og (0 : Int32) x0)), .val (.int (1 : Int32)), .val (.int x1)]) rfl (pc' := 21) rfl ?_
        refine joinG B X19 (F := fun z => (mkF m 49 #[.val (.ref a), .val (.int (0 : Int32)), .val (.int to), .val (.int (og (0 : Int32) x0)), .val (.int (1 : Int32)), .val (.int x1)] [(.int z)])) (r := (og (og (0 : Int32) x0) x1)) (fun J => ?_) ?_
        · refine giload B X19 d3_21 rfl (pc' := 23) rfl ?_
          refine gbipush B X19 d3_23 (v := (48 : Int32)) rfl (pc' := 25) rfl ?_
          by_cases c25_22 : x1 < (48 : Int32)
          · refine gicY B X19 (pc' := 48) d3_25 (tlt c25_22).1 (by decide) ?_
            refine giconst B X19 d3_48 (v := (-1 : Int32)) rfl (pc' := 49) rfl ?_
            have e_J : (og (og (0 : Int32) x0) x1) = (-1 : Int32) := by rw [og, if_pos c25_22]
            rw [e_J] at J
            exact J _ X19
          · refine gicN B X19 d3_25 (flt c25_22).1 (pc' := 28) rfl ?_
            refine giload B X19 d3_28 rfl (pc' := 30) rfl ?_
            refine gbipush B X19 d3_30 (v := (57 : Int32)) rfl (pc' := 32) rfl ?_
            by_cases c32_23 : (57 : Int32) < x1
            · refine gicY B X19 (pc' := 48) d3_32 (tlt c32_23).2.2.1 (by decide) ?_
              refine giconst B X19 d3_48 (v := (-1 : Int32)) rfl (pc' := 49) rfl ?_
              have e_J : (og (og (0 : Int32) x0) x1) = (-1 : Int32) := by rw [og, if_neg c25_22, if_pos c32_23]
              rw [e_J] at J
              exact J _ X19
            · refine gicN B X19 d3_32 (flt c32_23).2.2.1 (pc' := 35) rfl ?_
              refine gbipush B X19 d3_35 (v := (10 : Int32)) rfl (pc' := 37) rfl ?_
              refine giloadN B X19 d3_37 rfl (pc' := 38) rfl ?_
              refine gimul B X19 d3_38 rfl (pc' := 39) rfl ?_
              refine giload B X19 d3_39 rfl (pc' := 41) rfl ?_
              refine gbipush B X19 d3_41 (v := (48 : Int32)) rfl (pc' := 43) rfl ?_
              refine gisub B X19 d3_43 rfl (pc' := 44) rfl ?_
              refine giadd B X19 d3_44 rfl (pc' := 45) rfl ?_
              refine ggoto B X19 (pc' := 49) d3_45 (by decide) ?_
              have e_J : (og (og (0 : Int32) x0) x1) = (((10 : Int32) * (og (0 : Int32) x0)) + (x1 - (48 : Int32))) := by rw [og, if_neg c25_22, if_neg c32_23]
              rw [e_J] at J
              exact J _ X19
        intro T24 X25
        show Go p e below s _ _ _ _ _ T24 (mkF m 49 #[.val (.ref a), .val (.int (0 : Int32)), .val (.int to), .val (.int (og (0 : Int32) x0)), .val (.int (1 : Int32)), .val (.int x1)] [(.int (og (og (0 : Int32) x0) x1))])
        refine gistoreN B X25 d3_49 (Ls' := #[.val (.ref a), .val (.int (0 : Int32)), .val (.int to), .val (.int (og (og (0 : Int32) x0) x1)), .val (.int (1 : Int32)), .val (.int x1)]) rfl (pc' := 50) rfl ?_
        refine giinc B X25 d3_50 rfl (v := (2 : Int32)) (by decide) (Ls' := #[.val (.ref a), .val (.int (0 : Int32)), .val (.int to), .val (.int (og (og (0 : Int32) x0) x1)), .val (.int (2 : Int32)), .val (.int x1)]) rfl (pc' := 53) rfl ?_
        refine ggoto B X25 (pc' := 5) d3_53 (by decide) ?_
        refine giload B X25 d3_5 rfl (pc' := 7) rfl ?_
        refine giloadN B X25 d3_7 rfl (pc' := 8) rfl ?_
        by_cases c8_26 : (2 : Int32) < to
        · refine gicN B X25 d3_8 (tlt c8_26).2.1 (pc' := 11) rfl ?_
          refine giloadN B X25 d3_11 rfl (pc' := 12) rfl ?_
          by_cases c12_27 : (og (og (0 : Int32) x0) x1) < (0 : Int32)
          · refine gifY B X25 (pc' := 56) d3_12 ((if0 _ _).trans (tlt c12_27).1) (by decide) ?_
            refine giloadN B X25 d3_56 rfl (pc' := 57) rfl ?_
            exact gretI B X25 d3_57 (by decide) (by decide) (⟨by rw [f3_0, if_pos c8_14, if_pos c8_20, if_neg c12_21, if_pos c8_26, if_pos c12_27], rfl⟩)
          · refine gifN B X25 d3_12 ((if0 _ _).trans (flt c12_27).1) (pc' := 15) rfl ?_
            refine galoadN B X25 d3_15 rfl rfl (pc' := 16) rfl ?_
            refine giload B X25 d3_16 rfl (pc' := 18) rfl ?_
            refine gbaload B X25 (n := 4) F rfl (by decide) (v := (.int x2)) rfl d3_18 (pc' := 19) rfl ?_
            refine gistore B X25 d3_19 (Ls' := #[.val (.ref a), .val (.int (0 : Int32)), .val (.int to), .val (.int (og (og (0 : Int32) x0) x1)), .val (.int (2 : Int32)), .val (.int x2)]) rfl (pc' := 21) rfl ?_
            refine joinG B X25 (F := fun z => (mkF m 49 #[.val (.ref a), .val (.int (0 : Int32)), .val (.int to), .val (.int (og (og (0 : Int32) x0) x1)), .val (.int (2 : Int32)), .val (.int x2)] [(.int z)])) (r := (og (og (og (0 : Int32) x0) x1) x2)) (fun J => ?_) ?_
            · refine giload B X25 d3_21 rfl (pc' := 23) rfl ?_
              refine gbipush B X25 d3_23 (v := (48 : Int32)) rfl (pc' := 25) rfl ?_
              by_cases c25_28 : x2 < (48 : Int32)
              · refine gicY B X25 (pc' := 48) d3_25 (tlt c25_28).1 (by decide) ?_
                refine giconst B X25 d3_48 (v := (-1 : Int32)) rfl (pc' := 49) rfl ?_
                have e_J : (og (og (og (0 : Int32) x0) x1) x2) = (-1 : Int32) := by rw [og, if_pos c25_28]
                rw [e_J] at J
                exact J _ X25
              · refine gicN B X25 d3_25 (flt c25_28).1 (pc' := 28) rfl ?_
                refine giload B X25 d3_28 rfl (pc' := 30) rfl ?_
                refine gbipush B X25 d3_30 (v := (57 : Int32)) rfl (pc' := 32) rfl ?_
                by_cases c32_29 : (57 : Int32) < x2
                · refine gicY B X25 (pc' := 48) d3_32 (tlt c32_29).2.2.1 (by decide) ?_
                  refine giconst B X25 d3_48 (v := (-1 : Int32)) rfl (pc' := 49) rfl ?_
                  have e_J : (og (og (og (0 : Int32) x0) x1) x2) = (-1 : Int32) := by rw [og, if_neg c25_28, if_pos c32_29]
                  rw [e_J] at J
                  exact J _ X25
                · refine gicN B X25 d3_32 (flt c32_29).2.2.1 (pc' := 35) rfl ?_
                  refine gbipush B X25 d3_35 (v := (10 : Int32)) rfl (pc' := 37) rfl ?_
                  refine giloadN B X25 d3_37 rfl (pc' := 38) rfl ?_
                  refine gimul B X25 d3_38 rfl (pc' := 39) rfl ?_
                  refine giload B X25 d3_39 rfl (pc' := 41) rfl ?_
                  refine gbipush B X25 d3_41 (v := (48 : Int32)) rfl (pc' := 43) rfl ?_
                  refine gisub B X25 d3_43 rfl (pc' := 44) rfl ?_
                  refine giadd B X25 d3_44 rfl (pc' := 45) rfl ?_
                  refine ggoto B X25 (pc' := 49) d3_45 (by decide) ?_
                  have e_J : (og (og (og (0 : Int32) x0) x1) x2) = (((10 : Int32) * (og (og (0 : Int32) x0) x1)) + (x2 - (48 : Int32))) := by rw [og, if_neg c25_28, if_neg c32_29]
                  rw [e_J] at J
                  exact J _ X25
            intro T30 X31
            show Go p e below s _ _ _ _ _ T30 (mkF m 49 #[.val (.ref a), .val (.int (0 : Int32)), .val (.int to), .val (.int (og (og (0 : Int32) x0) x1)), .val (.int (2 : Int32)), .val (.int x2)] [(.int (og (og (og (0 : Int32) x0) x1) x2))])
            refine gistoreN B X31 d3_49 (Ls' := #[.val (.ref a), .val (.int (0 : Int32)), .val (.int to), .val (.int (og (og (og (0 : Int32) x0) x1) x2)), .val (.int (2 : Int32)), .val (.int x2)]) rfl (pc' := 50) rfl ?_
            refine giinc B X31 d3_50 rfl (v := (3 : Int32)) (by decide) (Ls' := #[.val (.ref a), .val (.int (0 : Int32)), .val (.int to), .val (.int (og (og (og (0 : Int32) x0) x1) x2)), .val (.int (3 : Int32)), .val (.int x2)]) rfl (pc' := 53) rfl ?_
            refine ggoto B X31 (pc' := 5) d3_53 (by decide) ?_
            refine giload B X31 d3_5 rfl (pc' := 7) rfl ?_
            refine giloadN B X31 d3_7 rfl (pc' := 8) rfl ?_
            by_cases c8_32 : (3 : Int32) < to
            · refine gicN B X31 d3_8 (tlt c8_32).2.1 (pc' := 11) rfl ?_
              refine giloadN B X31 d3_11 rfl (pc' := 12) rfl ?_
              by_cases c12_33 : (og (og (og (0 : Int32) x0) x1) x2) < (0 : Int32)
              · refine gifY B X31 (pc' := 56) d3_12 ((if0 _ _).trans (tlt c12_33).1) (by decide) ?_
                refine giloadN B X31 d3_56 rfl (pc' := 57) rfl ?_
                exact gretI B X31 d3_57 (by decide) (by decide) (⟨by rw [f3_0, if_pos c8_14, if_pos c8_20, if_neg c12_21, if_pos c8_26, if_neg c12_27, if_pos c8_32, if_pos c12_33], rfl⟩)
              · refine gifN B X31 d3_12 ((if0 _ _).trans (flt c12_33).1) (pc' := 15) rfl ?_
                refine galoadN B X31 d3_15 rfl rfl (pc' := 16) rfl ?_
                refine giload B X31 d3_16 rfl (pc' := 18) rfl ?_
                refine gbaload B X31 (n := 4) F rfl (by decide) (v := (.int x3)) rfl d3_18 (pc' := 19) rfl ?_
                refine gistore B X31 d3_19 (Ls' := #[.val (.ref a), .val (.int (0 : Int32)), .val (.int to), .val (.int (og (og (og (0 : Int32) x0) x1) x2)), .val (.int (3 : Int32)), .val (.int x3)]) rfl (pc' := 21) rfl ?_
                refine joinG B X31 (F := fun z => (mkF m 49 #[.val (.ref a), .val (.int (0 : Int32)), .val (.int to), .val (.int (og (og (og (0 : Int32) x0) x1) x2)), .val (.int (3 : Int32)), .val (.int x3)] [(.int z)])) (r := (og (og (og (og (0 : Int32) x0) x1) x2) x3)) (fun J => ?_) ?_
                · refine giload B X31 d3_21 rfl (pc' := 23) rfl ?_
                  refine gbipush B X31 d3_23 (v := (48 : Int32)) rfl (pc' := 25) rfl ?_
                  by_cases c25_34 : x3 < (48 : Int32)
                  · refine gicY B X31 (pc' := 48) d3_25 (tlt c25_34).1 (by decide) ?_
                    refine giconst B X31 d3_48 (v := (-1 : Int32)) rfl (pc' := 49) rfl ?_
                    have e_J : (og (og (og (og (0 : Int32) x0) x1) x2) x3) = (-1 : Int32) := by rw [og, if_pos c25_34]
                    rw [e_J] at J
                    exact J _ X31
                  · refine gicN B X31 d3_25 (flt c25_34).1 (pc' := 28) rfl ?_
                    refine giload B X31 d3_28 rfl (pc' := 30) rfl ?_
                    refine gbipush B X31 d3_30 (v := (57 : Int32)) rfl (pc' := 32) rfl ?_
                    by_cases c32_35 : (57 : Int32) < x3
                    · refine gicY B X31 (pc' := 48) d3_32 (tlt c32_35).2.2.1 (by decide) ?_
                      refine giconst B X31 d3_48 (v := (-1 : Int32)) rfl (pc' := 49) rfl ?_
                      have e_J : (og (og (og (og (0 : Int32) x0) x1) x2) x3) = (-1 : Int32) := by rw [og, if_neg c25_34, if_pos c32_35]
                      rw [e_J] at J
                      exact J _ X31
                    · refine gicN B X31 d3_32 (flt c32_35).2.2.1 (pc' := 35) rfl ?_
                      refine gbipush B X31 d3_35 (v := (10 : Int32)) rfl (pc' := 37) rfl ?_
                      refine giloadN B X31 d3_37 rfl (pc' := 38) rfl ?_
                      refine gimul B X31 d3_38 rfl (pc' := 39) rfl ?_
                      refine giload B X31 d3_39 rfl (pc' := 41) rfl ?_
                      refine gbipush B X31 d3_41 (v := (48 : Int32)) rfl (pc' := 43) rfl ?_
                      refine gisub B X31 d3_43 rfl (pc' := 44) rfl ?_
                      refine giadd B X31 d3_44 rfl (pc' := 45) rfl ?_
                      refine ggoto B X31 (pc' := 49) d3_45 (by decide) ?_
                      have e_J : (og (og (og (og (0 : Int32) x0) x1) x2) x3) = (((10 : Int32) * (og (og (og (0 : Int32) x0) x1) x2)) + (x3 - (48 : Int32))) := by rw [og, if_neg c25_34, if_neg c32_35]
                      rw [e_J] at J
                      exact J _ X31
                intro T36 X37
                show Go p e below s _ _ _ _ _ T36 (mkF m 49 #[.val (.ref a), .val (.int (0 : Int32)), .val (.int to), .val (.int (og (og (og (0 : Int32) x0) x1) x2)), .val (.int (3 : Int32)), .val (.int x3)] [(.int (og (og (og (og (0 : Int32) x0) x1) x2) x3))])
                refine gistoreN B X37 d3_49 (Ls' := #[.val (.ref a), .val (.int (0 : Int32)), .val (.int to), .val (.int (og (og (og (og (0 : Int32) x0) x1) x2) x3)), .val (.int (3 : Int32)), .val (.int x3)]) rfl (pc' := 50) rfl ?_
                refine giinc B X37 d3_50 rfl (v := (4 : Int32)) (by decide) (Ls' := #[.val (.ref a), .val (.int (0 : Int32)), .val (.int to), .val (.int (og (og (og (og (0 : Int32) x0) x1) x2) x3)), .val (.int (4 : Int32)), .val (.int x3)]) rfl (pc' := 53) rfl ?_
                refine ggoto B X37 (pc' := 5) d3_53 (by decide) ?_
                refine giload B X37 d3_5 rfl (pc' := 7) rfl ?_
                refine giloadN B X37 d3_7 rfl (pc' := 8) rfl ?_
                have c8_38 : ¬ ((4 : Int32) < to) := ht
                refine gicY B X37 (pc' := 56) d3_8 (flt c8_38).2.1 (by decide) ?_
                refine giloadN B X37 d3_56 rfl (pc' := 57) rfl ?_
                exact gretI B X37 d3_57 (by decide) (by decide) (⟨by rw [f3_0, if_pos c8_14, if_pos c8_20, if_neg c12_21, if_pos c8_26, if_neg c12_27, if_pos c8_32, if_neg c12_33], rfl⟩)
            · refine gicY B X31 (pc' := 56) d3_8 (flt c8_32).2.1 (by decide) ?_
              refine giloadN B X31 d3_56 rfl (pc' := 57) rfl ?_
              exact gretI B X31 d3_57 (by decide) (by decide) (⟨by rw [f3_0, if_pos c8_14, if_pos c8_20, if_neg c12_21, if_pos c8_26, if_neg c12_27, if_neg c8_32], rfl⟩)
        · refine gicY B X25 (pc' := 56) d3_8 (flt c8_26).2.1 (by decide) ?_
          refine giloadN B X25 d3_56 rfl (pc' := 57) rfl ?_
          exact gretI B X25 d3_57 (by decide) (by decide) (⟨by rw [f3_0, if_pos c8_14, if_pos c8_20, if_neg c12_21, if_neg c8_26], rfl⟩)
    · refine gicY B X19 (pc' := 56) d3_8 (flt c8_20).2.1 (by decide) ?_
      refine giloadN B X19 d3_56 rfl (pc' := 57) rfl ?_
      exact gretI B X19 d3_57 (by decide) (by decide) (⟨by rw [f3_0, if_pos c8_14, if_neg c8_20], rfl⟩)
  · refine gicY B X (pc' := 56) d3_8 (flt c8_14).2.1 (by decide) ?_
    refine giloadN B X d3_56 rfl (pc' := 57) rfl ?_
    exact gretI B X d3_57 (by decide) (by decide) (⟨by rw [f3_0, if_neg c8_14], rfl⟩)
def f3_1 (to : Int32) (x0 : Int32) (x1 : Int32) (x2 : Int32) (x3 : Int32) : Int32 := if (1 : Int32) < to then (if (2 : Int32) < to then (if (og (0 : Int32) x1) < (0 : Int32) then (og (0 : Int32) x1) else (if (3 : Int32) < to then (if (og (og (0 : Int32) x1) x2) < (0 : Int32) then (og (og (0 : Int32) x1) x2) else ((og (og (og (0 : Int32) x1) x2) x3))) else ((og (og (0 : Int32) x1) x2)))) else ((og (0 : Int32) x1))) else ((0 : Int32))
set_option maxRecDepth 65536 in
set_option maxHeartbeats 4000000 in
theorem mt3_1 (l : Launch) (Z : State) (a0 : Array Value) (hw : ∀ d ∈ tables_1, d.before a0 Z = true) (a : Addr) (to : Int32) (x0 x1 x2 x3 : Int32) (h0 : Heap) (F : VA Z h0 a .byte [.int x0, .int x1, .int x2, .int x3]) (ht : ¬ (4 : Int32) < to) : Meth l Z (⟨"com/example/paycadence/paycadence/format/Digits", "value", "([BII)I"⟩ : MethodName) prog_45_method_3_code 6 (some .int) rmr3 #[(.ref a), (.int (1 : Int32)), (.int to)] h0 [] (fun vr h' => vr = some (.int (f3_1 to x0 x1 x2 x3)) ∧ h' = h0) := by
  refine Meth.of pn3 ?_
  intro p e s m below meth c T B X
  refine Go.entry (ef3_RII m a (1 : Int32) to) ?_
  refine giconst B X d3_0 (v := (0 : Int32)) rfl (pc' := 1) rfl ?_
  refine gistoreN B X d3_1 (Ls' := #[.val (.ref a), .val (.int (1 : Int32)), .val (.int to), .val (.int (0 : Int32)), .unset, .unset]) rfl (pc' := 2) rfl ?_
  refine giloadN B X d3_2 rfl (pc' := 3) rfl ?_
  refine gistore B X d3_3 (Ls' := #[.val (.ref a), .val (.int (1 : Int32)), .val (.int to), .val (.int (0 : Int32)), .val (.int (1 : Int32)), .unset]) rfl (pc' := 5) rfl ?_
  refine giload B X d3_5 rfl (pc' := 7) rfl ?_
  refine giloadN B X d3_7 rfl (pc' := 8) rfl ?_
  by_cases c8_39 : (1 : Int32) < to
  · refine gicN B X d3_8 (tlt c8_39).2.1 (pc' := 11) rfl ?_
    refine giloadN B X d3_11 rfl (pc' := 12) rfl ?_
    have c12_40 : ¬ ((0 : Int32) < (0 : Int32)) := (by decide)
    refine gifN B X d3_12 ((if0 _ _).trans (flt c12_40).1) (pc' := 15) rfl ?_
    refine galoadN B X d3_15 rfl rfl (pc' := 16) rfl ?_
    refine giload B X d3_16 rfl (pc' := 18) rfl ?_
    refine gbaload B X (n := 4) F rfl (by decide) (v := (.int x1)) rfl d3_18 (pc' := 19) rfl ?_
    refine gistore B X d3_19 (Ls' := #[.val (.ref a), .val (.int (1 : Int32)), .val (.int to), .val (.int (0 : Int32)), .val (.int (1 : Int32)), .val (.int x1)]) rfl (pc' := 21) rfl ?_
    refine joinG B X (F := fun z => (mkF m 49 #[.val (.ref a), .val (.int (1 : Int32)), .val (.int to), .val (.int (0 : Int32)), .val (.int (1 : Int32)), .val (.int x1)] [(.int z)])) (r := (og (0 : Int32) x1)) (fun J => ?_) ?_
    · refine giload B X d3_21 rfl (pc' := 23) rfl ?_
      refine gbipush B X d3_23 (v := (48 : Int32)) rfl (pc' := 25) rfl ?_
      by_cases c25_41 : x1 < (48 : Int32)
      · refine gicY B X (pc' := 48) d3_25 (tlt c25_41).1 (by decide) ?_
        refine giconst B X d3_48 (v := (-1 : Int32)) rfl (pc' := 49) rfl ?_
        have e_J : (og (0 : Int32) x1) = (-1 : Int32) := by rw [og, if_pos c25_41]
        rw [e_J] at J
        exact J _ X
      · refine gicN B X d3_25 (flt c25_41).1 (pc' := 28) rfl ?_
        refine giload B X d3_28 rfl (pc' := 30) rfl ?_
        refine gbipush B X d3_30 (v := (57 : Int32)) rfl (pc' := 32) rfl ?_
        by_cases c32_42 : (57 : Int32) < x1
        · refine gicY B X (pc' := 48) d3_32 (tlt c32_42).2.2.1 (by decide) ?_
          refine giconst B X d3_48 (v := (-1 : Int32)) rfl (pc' := 49) rfl ?_
          have e_J : (og (0 : Int32) x1) = (-1 : Int32) := by rw [og, if_neg c25_41, if_pos c32_42]
          rw [e_J] at J
          exact J _ X
        · refine gicN B X d3_32 (flt c32_42).2.2.1 (pc' := 35) rfl ?_
          refine gbipush B X d3_35 (v := (10 : Int32)) rfl (pc' := 37) rfl ?_
          refine giloadN B X d3_37 rfl (pc' := 38) rfl ?_
          refine gimul B X d3_38 rfl (pc' := 39) rfl ?_
          refine giload B X d3_39 rfl (pc' := 41) rfl ?_
          refine gbipush B X d3_41 (v := (48 : Int32)) rfl (pc' := 43) rfl ?_
          refine gisub B X d3_43 rfl (pc' := 44) rfl ?_
          refine giadd B X d3_44 rfl (pc' := 45) rfl ?_
          refine ggoto B X (pc' := 49) d3_45 (by decide) ?_
          have e_J : (og (0 : Int32) x1) = (((10 : Int32) * (0 : Int32)) + (x1 - (48 : Int32))) := by rw [og, if_neg c25_41, if_neg c32_42]
          rw [e_J] at J
          exact J _ X
    intro T43 X44
    show Go p e below s _ _ _ _ _ T43 (mkF m 49 #[.val (.ref a), .val (.int (1 : Int32)), .val (.int to), .val (.int (0 : Int32)), .val (.int (1 : Int32)), .val (.int x1)] [(.int (og (0 : Int32) x1))])
    refine gistoreN B X44 d3_49 (Ls' := #[.val (.ref a), .val (.int (1 : Int32)), .val (.int to), .val (.int (og (0 : Int32) x1)), .val (.int (1 : Int32)), .val (.int x1)]) rfl (pc' := 50) rfl ?_
    refine giinc B X44 d3_50 rfl (v := (2 : Int32)) (by decide) (Ls' := #[.val (.ref a), .val (.int (1 : Int32)), .val (.int to), .val (.int (og (0 : Int32) x1)), .val (.int (2 : Int32)), .val (.int x1)]) rfl (pc' := 53) rfl ?_
    refine ggoto B X44 (pc' := 5) d3_53 (by decide) ?_
    refine giload B X44 d3_5 rfl (pc' := 7) rfl ?_
    refine giloadN B X44 d3_7 rfl (pc' := 8) rfl ?_
    by_cases c8_45 : (2 : Int32) < to
    · refine gicN B X44 d3_8 (tlt c8_45).2.1 (pc' := 11) rfl ?_
      refine giloadN B X44 d3_11 rfl (pc' := 12) rfl ?_
      by_cases c12_46 : (og (0 : Int32) x1) < (0 : Int32)
      · refine gifY B X44 (pc' := 56) d3_12 ((if0 _ _).trans (tlt c12_46).1) (by decide) ?_
        refine giloadN B X44 d3_56 rfl (pc' := 57) rfl ?_
        exact gretI B X44 d3_57 (by decide) (by decide) (⟨by rw [f3_1, if_pos c8_39, if_pos c8_45, if_pos c12_46], rfl⟩)
      · refine gifN B X44 d3_12 ((if0 _ _).trans (flt c12_46).1) (pc' := 15) rfl ?_
        refine galoadN B X44 d3_15 rfl rfl (pc' := 16) rfl ?_
        refine giload B X44 d3_16 rfl (pc' := 18) rfl ?_
        refine gbaload B X44 (n := 4) F rfl (by decide) (v := (.int x2)) rfl d3_18 (pc' := 19) rfl ?_
        refine gistore B X44 d3_19 (Ls' := #[.val (.ref a), .val (.int (1 : Int32)), .val (.int to), .val (.int (og (0 : Int32) x1)), .val (.int (2 : Int32)), .val (.int x2)]) rfl (pc' := 21) rfl ?_
        refine joinG B X44 (F := fun z => (mkF m 49 #[.val (.ref a), .val (.int (1 : Int32)), .val (.int to), .val (.int (og (0 : Int32) x1)), .val (.int (2 : Int32)), .val (.int x2)] [(.int z)])) (r := (og (og (0 : Int32) x1) x2)) (fun J => ?_) ?_
        · refine giload B X44 d3_21 rfl (pc' := 23) rfl ?_
          refine gbipush B X44 d3_23 (v := (48 : Int32)) rfl (pc' := 25) rfl ?_
          by_cases c25_47 : x2 < (48 : Int32)
          · refine gicY B X44 (pc' := 48) d3_25 (tlt c25_47).1 (by decide) ?_
            refine giconst B X44 d3_48 (v := (-1 : Int32)) rfl (pc' := 49) rfl ?_
            have e_J : (og (og (0 : Int32) x1) x2) = (-1 : Int32) := by rw [og, if_pos c25_47]
            rw [e_J] at J
            exact J _ X44
          · refine gicN B X44 d3_25 (flt c25_47).1 (pc' := 28) rfl ?_
            refine giload B X44 d3_28 rfl (pc' := 30) rfl ?_
            refine gbipush B X44 d3_30 (v := (57 : Int32)) rfl (pc' := 32) rfl ?_
            by_cases c32_48 : (57 : Int32) < x2
            · refine gicY B X44 (pc' := 48) d3_32 (tlt c32_48).2.2.1 (by decide) ?_
              refine giconst B X44 d3_48 (v := (-1 : Int32)) rfl (pc' := 49) rfl ?_
              have e_J : (og (og (0 : Int32) x1) x2) = (-1 : Int32) := by rw [og, if_neg c25_47, if_pos c32_48]
              rw [e_J] at J
              exact J _ X44
            · refine gicN B X44 d3_32 (flt c32_48).2.2.1 (pc' := 35) rfl ?_
              refine gbipush B X44 d3_35 (v := (10 : Int32)) rfl (pc' := 37) rfl ?_
              refine giloadN B X44 d3_37 rfl (pc' := 38) rfl ?_
              refine gimul B X44 d3_38 rfl (pc' := 39) rfl ?_
              refine giload B X44 d3_39 rfl (pc' := 41) rfl ?_
              refine gbipush B X44 d3_41 (v := (48 : Int32)) rfl (pc' := 43) rfl ?_
              refine gisub B X44 d3_43 rfl (pc' := 44) rfl ?_
              refine giadd B X44 d3_44 rfl (pc' := 45) rfl ?_
              refine ggoto B X44 (pc' := 49) d3_45 (by decide) ?_
              have e_J : (og (og (0 : Int32) x1) x2) = (((10 : Int32) * (og (0 : Int32) x1)) + (x2 - (48 : Int32))) := by rw [og, if_neg c25_47, if_neg c32_48]
              rw [e_J] at J
              exact J _ X44
        intro T49 X50
        show Go p e below s _ _ _ _ _ T49 (mkF m 49 #[.val (.ref a), .val (.int (1 : Int32)), .val (.int to), .val (.int (og (0 : Int32) x1)), .val (.int (2 : Int32)), .val (.int x2)] [(.int (og (og (0 : Int32) x1) x2))])
        refine gistoreN B X50 d3_49 (Ls' := #[.val (.ref a), .val (.int (1 : Int32)), .val (.int to), .val (.int (og (og (0 : Int32) x1) x2)), .val (.int (2 : Int32)), .val (.int x2)]) rfl (pc' := 50) rfl ?_
        refine giinc B X50 d3_50 rfl (v := (3 : Int32)) (by decide) (Ls' := #[.val (.ref a), .val (.int (1 : Int32)), .val (.int to), .val (.int (og (og (0 : Int32) x1) x2)), .val (.int (3 : Int32)), .val (.int x2)]) rfl (pc' := 53) rfl ?_
        refine ggoto B X50 (pc' := 5) d3_53 (by decide) ?_
        refine giload B X50 d3_5 rfl (pc' := 7) rfl ?_
        refine giloadN B X50 d3_7 rfl (pc' := 8) rfl ?_
        by_cases c8_51 : (3 : Int32) < to
        · refine gicN B X50 d3_8 (tlt c8_51).2.1 (pc' := 11) rfl ?_
          refine giloadN B X50 d3_11 rfl (pc' := 12) rfl ?_
          by_cases c12_52 : (og (og (0 : Int32) x1) x2) < (0 : Int32)
          · refine gifY B X50 (pc' := 56) d3_12 ((if0 _ _).trans (tlt c12_52).1) (by decide) ?_
            refine giloadN B X50 d3_56 rfl (pc' := 57) rfl ?_
            exact gretI B X50 d3_57 (by decide) (by decide) (⟨by rw [f3_1, if_pos c8_39, if_pos c8_45, if_neg c12_46, if_pos c8_51, if_pos c12_52], rfl⟩)
          · refine gifN B X50 d3_12 ((if0 _ _).trans (flt c12_52).1) (pc' := 15) rfl ?_
            refine galoadN B X50 d3_15 rfl rfl (pc' := 16) rfl ?_
            refine giload B X50 d3_16 rfl (pc' := 18) rfl ?_
            refine gbaload B X50 (n := 4) F rfl (by decide) (v := (.int x3)) rfl d3_18 (pc' := 19) rfl ?_
            refine gistore B X50 d3_19 (Ls' := #[.val (.ref a), .val (.int (1 : Int32)), .val (.int to), .val (.int (og (og (0 : Int32) x1) x2)), .val (.int (3 : Int32)), .val (.int x3)]) rfl (pc' := 21) rfl ?_
            refine joinG B X50 (F := fun z => (mkF m 49 #[.val (.ref a), .val (.int (1 : Int32)), .val (.int to), .val (.int (og (og (0 : Int32) x1) x2)), .val (.int (3 : Int32)), .val (.int x3)] [(.int z)])) (r := (og (og (og (0 : Int32) x1) x2) x3)) (fun J => ?_) ?_
            · refine giload B X50 d3_21 rfl (pc' := 23) rfl ?_
              refine gbipush B X50 d3_23 (v := (48 : Int32)) rfl (pc' := 25) rfl ?_
              by_cases c25_53 : x3 < (48 : Int32)
              · refine gicY B X50 (pc' := 48) d3_25 (tlt c25_53).1 (by decide) ?_
                refine giconst B X50 d3_48 (v := (-1 : Int32)) rfl (pc' := 49) rfl ?_
                have e_J : (og (og (og (0 : Int32) x1) x2) x3) = (-1 : Int32) := by rw [og, if_pos c25_53]
                rw [e_J] at J
                exact J _ X50
              · refine gicN B X50 d3_25 (flt c25_53).1 (pc' := 28) rfl ?_
                refine giload B X50 d3_28 rfl (pc' := 30) rfl ?_
                refine gbipush B X50 d3_30 (v := (57 : Int32)) rfl (pc' := 32) rfl ?_
                by_cases c32_54 : (57 : Int32) < x3
                · refine gicY B X50 (pc' := 48) d3_32 (tlt c32_54).2.2.1 (by decide) ?_
                  refine giconst B X50 d3_48 (v := (-1 : Int32)) rfl (pc' := 49) rfl ?_
                  have e_J : (og (og (og (0 : Int32) x1) x2) x3) = (-1 : Int32) := by rw [og, if_neg c25_53, if_pos c32_54]
                  rw [e_J] at J
                  exact J _ X50
                · refine gicN B X50 d3_32 (flt c32_54).2.2.1 (pc' := 35) rfl ?_
                  refine gbipush B X50 d3_35 (v := (10 : Int32)) rfl (pc' := 37) rfl ?_
                  refine giloadN B X50 d3_37 rfl (pc' := 38) rfl ?_
                  refine gimul B X50 d3_38 rfl (pc' := 39) rfl ?_
                  refine giload B X50 d3_39 rfl (pc' := 41) rfl ?_
                  refine gbipush B X50 d3_41 (v := (48 : Int32)) rfl (pc' := 43) rfl ?_
                  refine gisub B X50 d3_43 rfl (pc' := 44) rfl ?_
                  refine giadd B X50 d3_44 rfl (pc' := 45) rfl ?_
                  refine ggoto B X50 (pc' := 49) d3_45 (by decide) ?_
                  have e_J : (og (og (og (0 : Int32) x1) x2) x3) = (((10 : Int32) * (og (og (0 : Int32) x1) x2)) + (x3 - (48 : Int32))) := by rw [og, if_neg c25_53, if_neg c32_54]
                  rw [e_J] at J
                  exact J _ X50
            intro T55 X56
            show Go p e below s _ _ _ _ _ T55 (mkF m 49 #[.val (.ref a), .val (.int (1 : Int32)), .val (.int to), .val (.int (og (og (0 : Int32) x1) x2)), .val (.int (3 : Int32)), .val (.int x3)] [(.int (og (og (og (0 : Int32) x1) x2) x3))])
            refine gistoreN B X56 d3_49 (Ls' := #[.val (.ref a), .val (.int (1 : Int32)), .val (.int to), .val (.int (og (og (og (0 : Int32) x1) x2) x3)), .val (.int (3 : Int32)), .val (.int x3)]) rfl (pc' := 50) rfl ?_
            refine giinc B X56 d3_50 rfl (v := (4 : Int32)) (by decide) (Ls' := #[.val (.ref a), .val (.int (1 : Int32)), .val (.int to), .val (.int (og (og (og (0 : Int32) x1) x2) x3)), .val (.int (4 : Int32)), .val (.int x3)]) rfl (pc' := 53) rfl ?_
            refine ggoto B X56 (pc' := 5) d3_53 (by decide) ?_
            refine giload B X56 d3_5 rfl (pc' := 7) rfl ?_
            refine giloadN B X56 d3_7 rfl (pc' := 8) rfl ?_
            have c8_57 : ¬ ((4 : Int32) < to) := ht
            refine gicY B X56 (pc' := 56) d3_8 (flt c8_57).2.1 (by decide) ?_
            refine giloadN B X56 d3_56 rfl (pc' := 57) rfl ?_
            exact gretI B X56 d3_57 (by decide) (by decide) (⟨by rw [f3_1, if_pos c8_39, if_pos c8_45, if_neg c12_46, if_pos c8_51, if_neg c12_52], rfl⟩)
        · refine gicY B X50 (pc' := 56) d3_8 (flt c8_51).2.1 (by decide) ?_
          refine giloadN B X50 d3_56 rfl (pc' := 57) rfl ?_
          exact gretI B X50 d3_57 (by decide) (by decide) (⟨by rw [f3_1, if_pos c8_39, if_pos c8_45, if_neg c12_46, if_neg c8_51], rfl⟩)
    · refine gicY B X44 (pc' := 56) d3_8 (flt c8_45).2.1 (by decide) ?_
      refine giloadN B X44 d3_56 rfl (pc' := 57) rfl ?_
      exact gretI B X44 d3_57 (by decide) (by decide) (⟨by rw [f3_1, if_pos c8_39, if_neg c8_45], rfl⟩)
  · refine gicY B X (pc' := 56) d3_8 (flt c8_39).2.1 (by decide) ?_
    refine giloadN B X d3_56 rfl (pc' := 57) rfl ?_
    exact gretI B X d3_57 (by decide) (by decide) (⟨by rw [f3_1, if_neg c8_39], rfl⟩)
def f3_2 (to : Int32) (x0 : Int32) (x1 : Int32) (x2 : Int32) (x3 : Int32) : Int32 := if (2 : Int32) < to then (if (3 : Int32) < to then (if (og (0 : Int32) x2) < (0 : Int32) then (og (0 : Int32) x2) else ((og (og (0 : Int32) x2) x3))) else ((og (0 : Int32) x2))) else ((0 : Int32))
set_option maxRecDepth 65536 in
set_option maxHeartbeats 4000000 in
theorem mt3_2 (l : Launch) (Z : State) (a0 : Array Value) (hw : ∀ d ∈ tables_1, d.before a0 Z = true) (a : Addr) (to : Int32) (x0 x1 x2 x3 : Int32) (h0 : Heap) (F : VA Z h0 a .byte [.int x0, .int x1, .int x2, .int x3]) (ht : ¬ (4 : Int32) < to) : Meth l Z (⟨"com/example/paycadence/paycadence/format/Digits", "value", "([BII)I"⟩ : MethodName) prog_45_method_3_code 6 (some .int) rmr3 #[(.ref a), (.int (2 : Int32)), (.int to)] h0 [] (fun vr h' => vr = some (.int (f3_2 to x0 x1 x2 x3)) ∧ h' = h0) := by
  refine Meth.of pn3 ?_
  intro p e s m below meth c T B X
  refine Go.entry (ef3_RII m a (2 : Int32) to) ?_
  refine giconst B X d3_0 (v := (0 : Int32)) rfl (pc' := 1) rfl ?_
  refine gistoreN B X d3_1 (Ls' := #[.val (.ref a), .val (.int (2 : Int32)), .val (.int to), .val (.int (0 : Int32)), .unset, .unset]) rfl (pc' := 2) rfl ?_
  refine giloadN B X d3_2 rfl (pc' := 3) rfl ?_
  refine gistore B X d3_3 (Ls' := #[.val (.ref a), .val (.int (2 : Int32)), .val (.int to), .val (.int (0 : Int32)), .val (.int (2 : Int32)), .unset]) rfl (pc' := 5) rfl ?_
  refine giload B X d3_5 rfl (pc' := 7) rfl ?_
  refine giloadN B X d3_7 rfl (pc' := 8) rfl ?_
  by_cases c8_58 : (2 : Int32) < to
  · refine gicN B X d3_8 (tlt c8_58).2.1 (pc' := 11) rfl ?_
    refine giloadN B X d3_11 rfl (pc' := 12) rfl ?_
    have c12_59 : ¬ ((0 : Int32) < (0 : Int32)) := (by decide)
    refine gifN B X d3_12 ((if0 _ _).trans (flt c12_59).1) (pc' := 15) rfl ?_
    refine galoadN B X d3_15 rfl rfl (pc' := 16) rfl ?_
    refine giload B X d3_16 rfl (pc' := 18) rfl ?_
    refine gbaload B X (n := 4) F rfl (by decide) (v := (.int x2)) rfl d3_18 (pc' := 19) rfl ?_
    refine gistore B X d3_19 (Ls' := #[.val (.ref a), .val (.int (2 : Int32)), .val (.int to), .val (.int (0 : Int32)), .val (.int (2 : Int32)), .val (.int x2)]) rfl (pc' := 21) rfl ?_
    refine joinG B X (F := fun z => (mkF m 49 #[.val (.ref a), .val (.int (2 : Int32)), .val (.int to), .val (.int (0 : Int32)), .val (.int (2 : Int32)), .val (.int x2)] [(.int z)])) (r := (og (0 : Int32) x2)) (fun J => ?_) ?_
    · refine giload B X d3_21 rfl (pc' := 23) rfl ?_
      refine gbipush B X d3_23 (v := (48 : Int32)) rfl (pc' := 25) rfl ?_
      by_cases c25_60 : x2 < (48 : Int32)
      · refine gicY B X (pc' := 48) d3_25 (tlt c25_60).1 (by decide) ?_
        refine giconst B X d3_48 (v := (-1 : Int32)) rfl (pc' := 49) rfl ?_
        have e_J : (og (0 : Int32) x2) = (-1 : Int32) := by rw [og, if_pos c25_60]
        rw [e_J] at J
        exact J _ X
      · refine gicN B X d3_25 (flt c25_60).1 (pc' := 28) rfl ?_
        refine giload B X d3_28 rfl (pc' := 30) rfl ?_
        refine gbipush B X d3_30 (v := (57 : Int32)) rfl (pc' := 32) rfl ?_
        by_cases c32_61 : (57 : Int32) < x2
        · refine gicY B X (pc' := 48) d3_32 (tlt c32_61).2.2.1 (by decide) ?_
          refine giconst B X d3_48 (v := (-1 : Int32)) rfl (pc' := 49) rfl ?_
          have e_J : (og (0 : Int32) x2) = (-1 : Int32) := by rw [og, if_neg c25_60, if_pos c32_61]
          rw [e_J] at J
          exact J _ X
        · refine gicN B X d3_32 (flt c32_61).2.2.1 (pc' := 35) rfl ?_
          refine gbipush B X d3_35 (v := (10 : Int32)) rfl (pc' := 37) rfl ?_
          refine giloadN B X d3_37 rfl (pc' := 38) rfl ?_
          refine gimul B X d3_38 rfl (pc' := 39) rfl ?_
          refine giload B X d3_39 rfl (pc' := 41) rfl ?_
          refine gbipush B X d3_41 (v := (48 : Int32)) rfl (pc' := 43) rfl ?_
          refine gisub B X d3_43 rfl (pc' := 44) rfl ?_
          refine giadd B X d3_44 rfl (pc' := 45) rfl ?_
          refine ggoto B X (pc' := 49) d3_45 (by decide) ?_
          have e_J : (og (0 : Int32) x2) = (((10 : Int32) * (0 : Int32)) + (x2 - (48 : Int32))) := by rw [og, if_neg c25_60, if_neg c32_61]
          rw [e_J] at J
          exact J _ X
    intro T62 X63
    show Go p e below s _ _ _ _ _ T62 (mkF m 49 #[.val (.ref a), .val (.int (2 : Int32)), .val (.int to), .val (.int (0 : Int32)), .val (.int (2 : Int32)), .val (.int x2)] [(.int (og (0 : Int32) x2))])
    refine gistoreN B X63 d3_49 (Ls' := #[.val (.ref a), .val (.int (2 : Int32)), .val (.int to), .val (.int (og (0 : Int32) x2)), .val (.int (2 : Int32)), .val (.int x2)]) rfl (pc' := 50) rfl ?_
    refine giinc B X63 d3_50 rfl (v := (3 : Int32)) (by decide) (Ls' := #[.val (.ref a), .val (.int (2 : Int32)), .val (.int to), .val (.int (og (0 : Int32) x2)), .val (.int (3 : Int32)), .val (.int x2)]) rfl (pc' := 53) rfl ?_
    refine ggoto B X63 (pc' := 5) d3_53 (by decide) ?_
    refine giload B X63 d3_5 rfl (pc' := 7) rfl ?_
    refine giloadN B X63 d3_7 rfl (pc' := 8) rfl ?_
    by_cases c8_64 : (3 : Int32) < to
    · refine gicN B X63 d3_8 (tlt c8_64).2.1 (pc' := 11) rfl ?_
      refine giloadN B X63 d3_11 rfl (pc' := 12) rfl ?_
      by_cases c12_65 : (og (0 : Int32) x2) < (0 : Int32)
      · refine gifY B X63 (pc' := 56) d3_12 ((if0 _ _).trans (tlt c12_65).1) (by decide) ?_
        refine giloadN B X63 d3_56 rfl (pc' := 57) rfl ?_
        exact gretI B X63 d3_57 (by decide) (by decide) (⟨by rw [f3_2, if_pos c8_58, if_pos c8_64, if_pos c12_65], rfl⟩)
      · refine gifN B X63 d3_12 ((if0 _ _).trans (flt c12_65).1) (pc' := 15) rfl ?_
        refine galoadN B X63 d3_15 rfl rfl (pc' := 16) rfl ?_
        refine giload B X63 d3_16 rfl (pc' := 18) rfl ?_
        refine gbaload B X63 (n := 4) F rfl (by decide) (v := (.int x3)) rfl d3_18 (pc' := 19) rfl ?_
        refine gistore B X63 d3_19 (Ls' := #[.val (.ref a), .val (.int (2 : Int32)), .val (.int to), .val (.int (og (0 : Int32) x2)), .val (.int (3 : Int32)), .val (.int x3)]) rfl (pc' := 21) rfl ?_
        refine joinG B X63 (F := fun z => (mkF m 49 #[.val (.ref a), .val (.int (2 : Int32)), .val (.int to), .val (.int (og (0 : Int32) x2)), .val (.int (3 : Int32)), .val (.int x3)] [(.int z)])) (r := (og (og (0 : Int32) x2) x3)) (fun J => ?_) ?_
        · refine giload B X63 d3_21 rfl (pc' := 23) rfl ?_
          refine gbipush B X63 d3_23 (v := (48 : Int32)) rfl (pc' := 25) rfl ?_
          by_cases c25_66 : x3 < (48 : Int32)
          · refine gicY B X63 (pc' := 48) d3_25 (tlt c25_66).1 (by decide) ?_
            refine giconst B X63 d3_48 (v := (-1 : Int32)) rfl (pc' := 49) rfl ?_
            have e_J : (og (og (0 : Int32) x2) x3) = (-1 : Int32) := by rw [og, if_pos c25_66]
            rw [e_J] at J
            exact J _ X63
          · refine gicN B X63 d3_25 (flt c25_66).1 (pc' := 28) rfl ?_
            refine giload B X63 d3_28 rfl (pc' := 30) rfl ?_
            refine gbipush B X63 d3_30 (v := (57 : Int32)) rfl (pc' := 32) rfl ?_
            by_cases c32_67 : (57 : Int32) < x3
            · refine gicY B X63 (pc' := 48) d3_32 (tlt c32_67).2.2.1 (by decide) ?_
              refine giconst B X63 d3_48 (v := (-1 : Int32)) rfl (pc' := 49) rfl ?_
              have e_J : (og (og (0 : Int32) x2) x3) = (-1 : Int32) := by rw [og, if_neg c25_66, if_pos c32_67]
              rw [e_J] at J
              exact J _ X63
            · refine gicN B X63 d3_32 (flt c32_67).2.2.1 (pc' := 35) rfl ?_
              refine gbipush B X63 d3_35 (v := (10 : Int32)) rfl (pc' := 37) rfl ?_
              refine giloadN B X63 d3_37 rfl (pc' := 38) rfl ?_
              refine gimul B X63 d3_38 rfl (pc' := 39) rfl ?_
              refine giload B X63 d3_39 rfl (pc' := 41) rfl ?_
              refine gbipush B X63 d3_41 (v := (48 : Int32)) rfl (pc' := 43) rfl ?_
              refine gisub B X63 d3_43 rfl (pc' := 44) rfl ?_
              refine giadd B X63 d3_44 rfl (pc' := 45) rfl ?_
              refine ggoto B X63 (pc' := 49) d3_45 (by decide) ?_
              have e_J : (og (og (0 : Int32) x2) x3) = (((10 : Int32) * (og (0 : Int32) x2)) + (x3 - (48 : Int32))) := by rw [og, if_neg c25_66, if_neg c32_67]
              rw [e_J] at J
              exact J _ X63
        intro T68 X69
        show Go p e below s _ _ _ _ _ T68 (mkF m 49 #[.val (.ref a), .val (.int (2 : Int32)), .val (.int to), .val (.int (og (0 : Int32) x2)), .val (.int (3 : Int32)), .val (.int x3)] [(.int (og (og (0 : Int32) x2) x3))])
        refine gistoreN B X69 d3_49 (Ls' := #[.val (.ref a), .val (.int (2 : Int32)), .val (.int to), .val (.int (og (og (0 : Int32) x2) x3)), .val (.int (3 : Int32)), .val (.int x3)]) rfl (pc' := 50) rfl ?_
        refine giinc B X69 d3_50 rfl (v := (4 : Int32)) (by decide) (Ls' := #[.val (.ref a), .val (.int (2 : Int32)), .val (.int to), .val (.int (og (og (0 : Int32) x2) x3)), .val (.int (4 : Int32)), .val (.int x3)]) rfl (pc' := 53) rfl ?_
        refine ggoto B X69 (pc' := 5) d3_53 (by decide) ?_
        refine giload B X69 d3_5 rfl (pc' := 7) rfl ?_
        refine giloadN B X69 d3_7 rfl (pc' := 8) rfl ?_
        have c8_70 : ¬ ((4 : Int32) < to) := ht
        refine gicY B X69 (pc' := 56) d3_8 (flt c8_70).2.1 (by decide) ?_
        refine giloadN B X69 d3_56 rfl (pc' := 57) rfl ?_
        exact gretI B X69 d3_57 (by decide) (by decide) (⟨by rw [f3_2, if_pos c8_58, if_pos c8_64, if_neg c12_65], rfl⟩)
    · refine gicY B X63 (pc' := 56) d3_8 (flt c8_64).2.1 (by decide) ?_
      refine giloadN B X63 d3_56 rfl (pc' := 57) rfl ?_
      exact gretI B X63 d3_57 (by decide) (by decide) (⟨by rw [f3_2, if_pos c8_58, if_neg c8_64], rfl⟩)
  · refine gicY B X (pc' := 56) d3_8 (flt c8_58).2.1 (by decide) ?_
    refine giloadN B X d3_56 rfl (pc' := 57) rfl ?_
    exact gretI B X d3_57 (by decide) (by decide) (⟨by rw [f3_2, if_neg c8_58], rfl⟩)
def f3_3 (to : Int32) (x0 : Int32) (x1 : Int32) (x2 : Int32) (x3 : Int32) : Int32 := if (3 : Int32) < to then (og (0 : Int32) x3) else ((0 : Int32))
set_option maxRecDepth 65536 in
set_option maxHeartbeats 4000000 in
theorem mt3_3 (l : Launch) (Z : State) (a0 : Array Value) (hw : ∀ d ∈ tables_1, d.before a0 Z = true) (a : Addr) (to : Int32) (x0 x1 x2 x3 : Int32) (h0 : Heap) (F : VA Z h0 a .byte [.int x0, .int x1, .int x2, .int x3]) (ht : ¬ (4 : Int32) < to) : Meth l Z (⟨"com/example/paycadence/paycadence/format/Digits", "value", "([BII)I"⟩ : MethodName) prog_45_method_3_code 6 (some .int) rmr3 #[(.ref a), (.int (3 : Int32)), (.int to)] h0 [] (fun vr h' => vr = some (.int (f3_3 to x0 x1 x2 x3)) ∧ h' = h0) := by
  refine Meth.of pn3 ?_
  intro p e s m below meth c T B X
  refine Go.entry (ef3_RII m a (3 : Int32) to) ?_
  refine giconst B X d3_0 (v := (0 : Int32)) rfl (pc' := 1) rfl ?_
  refine gistoreN B X d3_1 (Ls' := #[.val (.ref a), .val (.int (3 : Int32)), .val (.int to), .val (.int (0 : Int32)), .unset, .unset]) rfl (pc' := 2) rfl ?_
  refine giloadN B X d3_2 rfl (pc' := 3) rfl ?_
  refine gistore B X d3_3 (Ls' := #[.val (.ref a), .val (.int (3 : Int32)), .val (.int to), .val (.int (0 : Int32)), .val (.int (3 : Int32)), .unset]) rfl (pc' := 5) rfl ?_
  refine giload B X d3_5 rfl (pc' := 7) rfl ?_
  refine giloadN B X d3_7 rfl (pc' := 8) rfl ?_
  by_cases c8_71 : (3 : Int32) < to
  · refine gicN B X d3_8 (tlt c8_71).2.1 (pc' := 11) rfl ?_
    refine giloadN B X d3_11 rfl (pc' := 12) rfl ?_
    have c12_72 : ¬ ((0 : Int32) < (0 : Int32)) := (by decide)
    refine gifN B X d3_12 ((if0 _ _).trans (flt c12_72).1) (pc' := 15) rfl ?_
    refine galoadN B X d3_15 rfl rfl (pc' := 16) rfl ?_
    refine giload B X d3_16 rfl (pc' := 18) rfl ?_
    refine gbaload B X (n := 4) F rfl (by decide) (v := (.int x3)) rfl d3_18 (pc' := 19) rfl ?_
    refine gistore B X d3_19 (Ls' := #[.val (.ref a), .val (.int (3 : Int32)), .val (.int to), .val (.int (0 : Int32)), .val (.int (3 : Int32)), .val (.int x3)]) rfl (pc' := 21) rfl ?_
    refine joinG B X (F := fun z => (mkF m 49 #[.val (.ref a), .val (.int (3 : Int32)), .val (.int to), .val (.int (0 : Int32)), .val (.int (3 : Int32)), .val (.int x3)] [(.int z)])) (r := (og (0 : Int32) x3)) (fun J => ?_) ?_
    · refine giload B X d3_21 rfl (pc' := 23) rfl ?_
      refine gbipush B X d3_23 (v := (48 : Int32)) rfl (pc' := 25) rfl ?_
      by_cases c25_73 : x3 < (48 : Int32)
      · refine gicY B X (pc' := 48) d3_25 (tlt c25_73).1 (by decide) ?_
        refine giconst B X d3_48 (v := (-1 : Int32)) rfl (pc' := 49) rfl ?_
        have e_J : (og (0 : Int32) x3) = (-1 : Int32) := by rw [og, if_pos c25_73]
        rw [e_J] at J
        exact J _ X
      · refine gicN B X d3_25 (flt c25_73).1 (pc' := 28) rfl ?_
        refine giload B X d3_28 rfl (pc' := 30) rfl ?_
        refine gbipush B X d3_30 (v := (57 : Int32)) rfl (pc' := 32) rfl ?_
        by_cases c32_74 : (57 : Int32) < x3
        · refine gicY B X (pc' := 48) d3_32 (tlt c32_74).2.2.1 (by decide) ?_
          refine giconst B X d3_48 (v := (-1 : Int32)) rfl (pc' := 49) rfl ?_
          have e_J : (og (0 : Int32) x3) = (-1 : Int32) := by rw [og, if_neg c25_73, if_pos c32_74]
          rw [e_J] at J
          exact J _ X
        · refine gicN B X d3_32 (flt c32_74).2.2.1 (pc' := 35) rfl ?_
          refine gbipush B X d3_35 (v := (10 : Int32)) rfl (pc' := 37) rfl ?_
          refine giloadN B X d3_37 rfl (pc' := 38) rfl ?_
          refine gimul B X d3_38 rfl (pc' := 39) rfl ?_
          refine giload B X d3_39 rfl (pc' := 41) rfl ?_
          refine gbipush B X d3_41 (v := (48 : Int32)) rfl (pc' := 43) rfl ?_
          refine gisub B X d3_43 rfl (pc' := 44) rfl ?_
          refine giadd B X d3_44 rfl (pc' := 45) rfl ?_
          refine ggoto B X (pc' := 49) d3_45 (by decide) ?_
          have e_J : (og (0 : Int32) x3) = (((10 : Int32) * (0 : Int32)) + (x3 - (48 : Int32))) := by rw [og, if_neg c25_73, if_neg c32_74]
          rw [e_J] at J
          exact J _ X
    intro T75 X76
    show Go p e below s _ _ _ _ _ T75 (mkF m 49 #[.val (.ref a), .val (.int (3 : Int32)), .val (.int to), .val (.int (0 : Int32)), .val (.int (3 : Int32)), .val (.int x3)] [(.int (og (0 : Int32) x3))])
    refine gistoreN B X76 d3_49 (Ls' := #[.val (.ref a), .val (.int (3 : Int32)), .val (.int to), .val (.int (og (0 : Int32) x3)), .val (.int (3 : Int32)), .val (.int x3)]) rfl (pc' := 50) rfl ?_
    refine giinc B X76 d3_50 rfl (v := (4 : Int32)) (by decide) (Ls' := #[.val (.ref a), .val (.int (3 : Int32)), .val (.int to), .val (.int (og (0 : Int32) x3)), .val (.int (4 : Int32)), .val (.int x3)]) rfl (pc' := 53) rfl ?_
    refine ggoto B X76 (pc' := 5) d3_53 (by decide) ?_
    refine giload B X76 d3_5 rfl (pc' := 7) rfl ?_
    refine giloadN B X76 d3_7 rfl (pc' := 8) rfl ?_
    have c8_77 : ¬ ((4 : Int32) < to) := ht
    refine gicY B X76 (pc' := 56) d3_8 (flt c8_77).2.1 (by decide) ?_
    refine giloadN B X76 d3_56 rfl (pc' := 57) rfl ?_
    exact gretI B X76 d3_57 (by decide) (by decide) (⟨by rw [f3_3, if_pos c8_71], rfl⟩)
  · refine gicY B X (pc' := 56) d3_8 (flt c8_71).2.1 (by decide) ?_
    refine giloadN B X d3_56 rfl (pc' := 57) rfl ?_
    exact gretI B X d3_57 (by decide) (by decide) (⟨by rw [f3_3, if_neg c8_71], rfl⟩)
def f3_4 (to : Int32) (x0 : Int32) (x1 : Int32) (x2 : Int32) (x3 : Int32) : Int32 := (0 : Int32)
set_option maxRecDepth 65536 in
set_option maxHeartbeats 4000000 in
theorem mt3_4 (l : Launch) (Z : State) (a0 : Array Value) (hw : ∀ d ∈ tables_1, d.before a0 Z = true) (a : Addr) (to : Int32) (x0 x1 x2 x3 : Int32) (h0 : Heap) (F : VA Z h0 a .byte [.int x0, .int x1, .int x2, .int x3]) (ht : ¬ (4 : Int32) < to) : Meth l Z (⟨"com/example/paycadence/paycadence/format/Digits", "value", "([BII)I"⟩ : MethodName) prog_45_method_3_code 6 (some .int) rmr3 #[(.ref a), (.int (4 : Int32)), (.int to)] h0 [] (fun vr h' => vr = some (.int (f3_4 to x0 x1 x2 x3)) ∧ h' = h0) := by
  refine Meth.of pn3 ?_
  intro p e s m below meth c T B X
  refine Go.entry (ef3_RII m a (4 : Int32) to) ?_
  refine giconst B X d3_0 (v := (0 : Int32)) rfl (pc' := 1) rfl ?_
  refine gistoreN B X d3_1 (Ls' := #[.val (.ref a), .val (.int (4 : Int32)), .val (.int to), .val (.int (0 : Int32)), .unset, .unset]) rfl (pc' := 2) rfl ?_
  refine giloadN B X d3_2 rfl (pc' := 3) rfl ?_
  refine gistore B X d3_3 (Ls' := #[.val (.ref a), .val (.int (4 : Int32)), .val (.int to), .val (.int (0 : Int32)), .val (.int (4 : Int32)), .unset]) rfl (pc' := 5) rfl ?_
  refine giload B X d3_5 rfl (pc' := 7) rfl ?_
  refine giloadN B X d3_7 rfl (pc' := 8) rfl ?_
  have c8_78 : ¬ ((4 : Int32) < to) := ht
  refine gicY B X (pc' := 56) d3_8 (flt c8_78).2.1 (by decide) ?_
  refine giloadN B X d3_56 rfl (pc' := 57) rfl ?_
  exact gretI B X d3_57 (by decide) (by decide) (⟨rfl, rfl⟩)
def own_od (v d : Int32) : Int32 := if d < 0 then -1 else 10 * v + d
theorem own_og (v b : Int32) : og v b = own_od v (f4 b) := by
  have hs := c_isub b 48
  have hr := rng32 (b - 48)
  have hb := rng32 b
  unfold og own_od f4
  simp only [Int32.lt_iff_toInt_lt, Int32.reduceToInt] at *
  split
  · rfl
  · split
    · rfl
    · rename_i h1 h2
      rw [if_neg]
      omega
def own_dv (i : Fin 11) : Int32 := if i.1 = 10 then -1 else Int32.ofInt (i.1 : Int)
theorem own_d4 (b : Int32) : ∃ i : Fin 11, f4 b = own_dv i := by
  have hs := c_isub b 48
  have hr := rng32 (b - 48)
  have hb := rng32 b
  by_cases h : 48 ≤ b.toInt ∧ b.toInt ≤ 57
  · refine ⟨⟨(b.toInt - 48).toNat, by omega⟩, ?_⟩
    unfold f4 own_dv
    simp only [Int32.lt_iff_toInt_lt, Int32.reduceToInt] at *
    rw [if_neg (by omega), if_neg (by omega), if_neg (by omega), Int.toNat_of_nonneg (by omega), ← Int32.ofInt_toInt (b - 48)]
    congr 1
    omega
  · refine ⟨⟨10, by omega⟩, ?_⟩
    unfold f4 own_dv
    simp only [Int32.lt_iff_toInt_lt, Int32.reduceToInt] at *
    split
    · rfl
    · split
      · rfl
      · exfalso; omega
theorem own_fr (r : Int32) : (r &&& 7) % 5 = 0 ∨ (r &&& 7) % 5 = 1 ∨ (r &&& 7) % 5 = 2 ∨ (r &&& 7) % 5 = 3 ∨ (r &&& 7) % 5 = 4 := by
  have h := c_mask r 7 3 (by decide) (by decide)
  have h2 := (c_irem (r &&& 7) 5 5 (by decide)).1 (by rw [h]; omega)
  simp only [← Int32.toInt_inj, h2, h, Int32.reduceToInt]; omega
theorem own_to0 (r : Int32) : 0 + (r &&& 7) % 5 = 0 ∨ 0 + (r &&& 7) % 5 = 1 ∨ 0 + (r &&& 7) % 5 = 2 ∨ 0 + (r &&& 7) % 5 = 3 ∨ 0 + (r &&& 7) % 5 = 4 := by
  have h := c_mask r 7 3 (by decide) (by decide)
  have h2 := (c_irem (r &&& 7) 5 5 (by decide)).1 (by rw [h]; omega)
  have h3 := c_iadd 0 ((r &&& 7) % 5)
  have h4 := rng32 (0 + (r &&& 7) % 5)
  simp only [← Int32.toInt_inj, h2, h, Int32.reduceToInt] at *; omega
theorem own_to1 (r : Int32) : 1 + (r &&& 7) % 4 = 1 ∨ 1 + (r &&& 7) % 4 = 2 ∨ 1 + (r &&& 7) % 4 = 3 ∨ 1 + (r &&& 7) % 4 = 4 := by
  have h := c_mask r 7 3 (by decide) (by decide)
  have h2 := (c_irem (r &&& 7) 4 4 (by decide)).1 (by rw [h]; omega)
  have h3 := c_iadd 1 ((r &&& 7) % 4)
  have h4 := rng32 (1 + (r &&& 7) % 4)
  simp only [← Int32.toInt_inj, h2, h, Int32.reduceToInt] at *; omega
theorem own_to2 (r : Int32) : 2 + (r &&& 7) % 3 = 2 ∨ 2 + (r &&& 7) % 3 = 3 ∨ 2 + (r &&& 7) % 3 = 4 := by
  have h := c_mask r 7 3 (by decide) (by decide)
  have h2 := (c_irem (r &&& 7) 3 3 (by decide)).1 (by rw [h]; omega)
  have h3 := c_iadd 2 ((r &&& 7) % 3)
  have h4 := rng32 (2 + (r &&& 7) % 3)
  simp only [← Int32.toInt_inj, h2, h, Int32.reduceToInt] at *; omega
theorem own_to3 (r : Int32) : 3 + (r &&& 7) % 2 = 3 ∨ 3 + (r &&& 7) % 2 = 4 := by
  have h := c_mask r 7 3 (by decide) (by decide)
  have h2 := (c_irem (r &&& 7) 2 2 (by decide)).1 (by rw [h]; omega)
  have h3 := c_iadd 3 ((r &&& 7) % 2)
  have h4 := rng32 (3 + (r &&& 7) % 2)
  simp only [← Int32.toInt_inj, h2, h, Int32.reduceToInt] at *; omega
theorem own_to4 (r : Int32) : 4 + (r &&& 7) % 1 = 4 := by
  have h := c_mask r 7 3 (by decide) (by decide)
  have h2 := (c_irem (r &&& 7) 1 1 (by decide)).1 (by rw [h]; omega)
  have h3 := c_iadd 4 ((r &&& 7) % 1)
  have h4 := rng32 (4 + (r &&& 7) % 1)
  simp only [← Int32.toInt_inj, h2, h, Int32.reduceToInt] at *; omega
theorem own_c00 : ((0 : Int32) < (0 : Int32)) = False := by decide
theorem own_c01 : ((0 : Int32) < (1 : Int32)) = True := by decide
theorem own_c02 : ((0 : Int32) < (2 : Int32)) = True := by decide
theorem own_c03 : ((0 : Int32) < (3 : Int32)) = True := by decide
theorem own_c04 : ((0 : Int32) < (4 : Int32)) = True := by decide
theorem own_c10 : ((1 : Int32) < (0 : Int32)) = False := by decide
theorem own_c11 : ((1 : Int32) < (1 : Int32)) = False := by decide
theorem own_c12 : ((1 : Int32) < (2 : Int32)) = True := by decide
theorem own_c13 : ((1 : Int32) < (3 : Int32)) = True := by decide
theorem own_c14 : ((1 : Int32) < (4 : Int32)) = True := by decide
theorem own_c20 : ((2 : Int32) < (0 : Int32)) = False := by decide
theorem own_c21 : ((2 : Int32) < (1 : Int32)) = False := by decide
theorem own_c22 : ((2 : Int32) < (2 : Int32)) = False := by decide
theorem own_c23 : ((2 : Int32) < (3 : Int32)) = True := by decide
theorem own_c24 : ((2 : Int32) < (4 : Int32)) = True := by decide
theorem own_c30 : ((3 : Int32) < (0 : Int32)) = False := by decide
theorem own_c31 : ((3 : Int32) < (1 : Int32)) = False := by decide
theorem own_c32 : ((3 : Int32) < (2 : Int32)) = False := by decide
theorem own_c33 : ((3 : Int32) < (3 : Int32)) = False := by decide
theorem own_c34 : ((3 : Int32) < (4 : Int32)) = True := by decide
theorem own_c40 : ((4 : Int32) < (0 : Int32)) = False := by decide
theorem own_c41 : ((4 : Int32) < (1 : Int32)) = False := by decide
theorem own_c42 : ((4 : Int32) < (2 : Int32)) = False := by decide
theorem own_c43 : ((4 : Int32) < (3 : Int32)) = False := by decide
theorem own_c44 : ((4 : Int32) < (4 : Int32)) = False := by decide
theorem own_w10 : f5 ((1 : Int32) - (1 : Int32) - (0 : Int32)) = 1 := by decide
theorem own_w20 : f5 ((2 : Int32) - (1 : Int32) - (0 : Int32)) = 10 := by decide
theorem own_w21 : f5 ((2 : Int32) - (1 : Int32) - (1 : Int32)) = 1 := by decide
theorem own_w30 : f5 ((3 : Int32) - (1 : Int32) - (0 : Int32)) = 100 := by decide
theorem own_w31 : f5 ((3 : Int32) - (1 : Int32) - (1 : Int32)) = 10 := by decide
theorem own_w32 : f5 ((3 : Int32) - (1 : Int32) - (2 : Int32)) = 1 := by decide
theorem own_w40 : f5 ((4 : Int32) - (1 : Int32) - (0 : Int32)) = 1000 := by decide
theorem own_w41 : f5 ((4 : Int32) - (1 : Int32) - (1 : Int32)) = 100 := by decide
theorem own_w42 : f5 ((4 : Int32) - (1 : Int32) - (2 : Int32)) = 10 := by decide
theorem own_w43 : f5 ((4 : Int32) - (1 : Int32) - (3 : Int32)) = 1 := by decide
theorem pn0 : plainFor (⟨"com/example/paycadence/paycadence/format/DigitsValuePinLaw", "law", "(IIIII)Z"⟩ : MethodName) = true := plainFor_of_name (by first | (simp [plainName, overriddenIn]; done) | decide +kernel)
theorem ef0_IIIII (m : MethodId) (x0 : Int32) (x1 : Int32) (x2 : Int32) (x3 : Int32) (x4 : Int32) : entryFrame m #[(.int x0), (.int x1), (.int x2), (.int x3), (.int x4)] 13 = mkF m 0 #[.val (.int x0), .val (.int x1), .val (.int x2), .val (.int x3), .val (.int x4), .unset, .unset, .unset, .unset, .unset, .unset, .unset, .unset] [] := by first | (simp [entryFrame, mkF, argsToLocals, Value.category]; done) | rfl
theorem pd__I_B : parseMethodDescriptor "(I)B" = some ⟨[.int], some .byte⟩ := by decide +kernel
theorem pd___BIII_I : parseMethodDescriptor "([BIII)I" = some ⟨[(.array .byte), .int, .int, .int], some .int⟩ := by decide +kernel
def oE (t0 : Int32) (t1 : Int32) (t2 : Int32) (t3 : Int32) : Int32 := if t0 < (0 : Int32) then (-1 : Int32) else (if t1 < (0 : Int32) then (-1 : Int32) else (if t2 < (0 : Int32) then (-1 : Int32) else (if t3 < (0 : Int32) then (-1 : Int32) else ((((t0 + t1) + t2) + t3)))))
set_option maxRecDepth 100000 in
set_option maxHeartbeats 4000000 in
theorem own_fin00 (x0 x1 x2 x3 : Int32) : f3_0 0 x0 x1 x2 x3 = oE (f2 0 0 0 x0) (f2 1 0 0 x1) (f2 2 0 0 x2) (f2 3 0 0 x3) := by
  unfold f3_0 oE f2
  simp only [own_og, own_c00, own_c01, own_c02, own_c03, own_c04, own_c10, own_c11, own_c12, own_c13, own_c14, own_c20, own_c21, own_c22, own_c23, own_c24, own_c30, own_c31, own_c32, own_c33, own_c34, own_c40, own_c41, own_c42, own_c43, own_c44, own_w10, own_w20, own_w21, own_w30, own_w31, own_w32, own_w40, own_w41, own_w42, own_w43, if_true, if_false]
  try decide
set_option maxRecDepth 100000 in
set_option maxHeartbeats 4000000 in
theorem own_fin01 (x0 x1 x2 x3 : Int32) : f3_0 1 x0 x1 x2 x3 = oE (f2 0 0 1 x0) (f2 1 0 1 x1) (f2 2 0 1 x2) (f2 3 0 1 x3) := by
  unfold f3_0 oE f2
  simp only [own_og, own_c00, own_c01, own_c02, own_c03, own_c04, own_c10, own_c11, own_c12, own_c13, own_c14, own_c20, own_c21, own_c22, own_c23, own_c24, own_c30, own_c31, own_c32, own_c33, own_c34, own_c40, own_c41, own_c42, own_c43, own_c44, own_w10, own_w20, own_w21, own_w30, own_w31, own_w32, own_w40, own_w41, own_w42, own_w43, if_true, if_false]
  obtain ⟨i0, e0⟩ := own_d4 x0
  simp only [e0]
  clear e0
  revert i0
  decide +kernel
set_option maxRecDepth 100000 in
set_option maxHeartbeats 4000000 in
theorem own_fin02 (x0 x1 x2 x3 : Int32) : f3_0 2 x0 x1 x2 x3 = oE (f2 0 0 2 x0) (f2 1 0 2 x1) (f2 2 0 2 x2) (f2 3 0 2 x3) := by
  unfold f3_0 oE f2
  simp only [own_og, own_c00, own_c01, own_c02, own_c03, own_c04, own_c10, own_c11, own_c12, own_c13, own_c14, own_c20, own_c21, own_c22, own_c23, own_c24, own_c30, own_c31, own_c32, own_c33, own_c34, own_c40, own_c41, own_c42, own_c43, own_c44, own_w10, own_w20, own_w21, own_w30, own_w31, own_w32, own_w40, own_w41, own_w42, own_w43, if_true, if_false]
  obtain ⟨i0, e0⟩ := own_d4 x0
  obtain ⟨i1, e1⟩ := own_d4 x1
  simp only [e0, e1]
  clear e0 e1
  revert i0 i1
  decide +kernel
set_option maxRecDepth 100000 in
set_option maxHeartbeats 4000000 in
theorem own_fin03 (x0 x1 x2 x3 : Int32) : f3_0 3 x0 x1 x2 x3 = oE (f2 0 0 3 x0) (f2 1 0 3 x1) (f2 2 0 3 x2) (f2 3 0 3 x3) := by
  unfold f3_0 oE f2
  simp only [own_og, own_c00, own_c01, own_c02, own_c03, own_c04, own_c10, own_c11, own_c12, own_c13, own_c14, own_c20, own_c21, own_c22, own_c23, own_c24, own_c30, own_c31, own_c32, own_c33, own_c34, own_c40, own_c41, own_c42, own_c43, own_c44, own_w10, own_w20, own_w21, own_w30, own_w31, own_w32, own_w40, own_w41, own_w42, own_w43, if_true, if_false]
  obtain ⟨i0, e0⟩ := own_d4 x0
  obtain ⟨i1, e1⟩ := own_d4 x1
  obtain ⟨i2, e2⟩ := own_d4 x2
  simp only [e0, e1, e2]
  clear e0 e1 e2
  revert i0 i1 i2
  decide +kernel
set_option maxRecDepth 100000 in
set_option maxHeartbeats 4000000 in
theorem own_fin04 (x0 x1 x2 x3 : Int32) : f3_0 4 x0 x1 x2 x3 = oE (f2 0 0 4 x0) (f2 1 0 4 x1) (f2 2 0 4 x2) (f2 3 0 4 x3) := by
  unfold f3_0 oE f2
  simp only [own_og, own_c00, own_c01, own_c02, own_c03, own_c04, own_c10, own_c11, own_c12, own_c13, own_c14, own_c20, own_c21, own_c22, own_c23, own_c24, own_c30, own_c31, own_c32, own_c33, own_c34, own_c40, own_c41, own_c42, own_c43, own_c44, own_w10, own_w20, own_w21, own_w30, own_w31, own_w32, own_w40, own_w41, own_w42, own_w43, if_true, if_false]
  obtain ⟨i0, e0⟩ := own_d4 x0
  obtain ⟨i1, e1⟩ := own_d4 x1
  obtain ⟨i2, e2⟩ := own_d4 x2
  obtain ⟨i3, e3⟩ := own_d4 x3
  simp only [e0, e1, e2, e3]
  clear e0 e1 e2 e3
  revert i0 i1 i2 i3
  decide +kernel
set_option maxRecDepth 100000 in
set_option maxHeartbeats 4000000 in
theorem own_fin11 (x0 x1 x2 x3 : Int32) : f3_1 1 x0 x1 x2 x3 = oE (f2 0 1 1 x0) (f2 1 1 1 x1) (f2 2 1 1 x2) (f2 3 1 1 x3) := by
  unfold f3_1 oE f2
  simp only [own_og, own_c00, own_c01, own_c02, own_c03, own_c04, own_c10, own_c11, own_c12, own_c13, own_c14, own_c20, own_c21, own_c22, own_c23, own_c24, own_c30, own_c31, own_c32, own_c33, own_c34, own_c40, own_c41, own_c42, own_c43, own_c44, own_w10, own_w20, own_w21, own_w30, own_w31, own_w32, own_w40, own_w41, own_w42, own_w43, if_true, if_false]
  try decide
set_option maxRecDepth 100000 in
set_option maxHeartbeats 4000000 in
theorem own_fin12 (x0 x1 x2 x3 : Int32) : f3_1 2 x0 x1 x2 x3 = oE (f2 0 1 2 x0) (f2 1 1 2 x1) (f2 2 1 2 x2) (f2 3 1 2 x3) := by
  unfold f3_1 oE f2
  simp only [own_og, own_c00, own_c01, own_c02, own_c03, own_c04, own_c10, own_c11, own_c12, own_c13, own_c14, own_c20, own_c21, own_c22, own_c23, own_c24, own_c30, own_c31, own_c32, own_c33, own_c34, own_c40, own_c41, own_c42, own_c43, own_c44, own_w10, own_w20, own_w21, own_w30, own_w31, own_w32, own_w40, own_w41, own_w42, own_w43, if_true, if_false]
  obtain ⟨i1, e1⟩ := own_d4 x1
  simp only [e1]
  clear e1
  revert i1
  decide +kernel
set_option maxRecDepth 100000 in
set_option maxHeartbeats 4000000 in
theorem own_fin13 (x0 x1 x2 x3 : Int32) : f3_1 3 x0 x1 x2 x3 = oE (f2 0 1 3 x0) (f2 1 1 3 x1) (f2 2 1 3 x2) (f2 3 1 3 x3) := by
  unfold f3_1 oE f2
  simp only [own_og, own_c00, own_c01, own_c02, own_c03, own_c04, own_c10, own_c11, own_c12, own_c13, own_c14, own_c20, own_c21, own_c22, own_c23, own_c24, own_c30, own_c31, own_c32, own_c33, own_c34, own_c40, own_c41, own_c42, own_c43, own_c44, own_w10, own_w20, own_w21, own_w30, own_w31, own_w32, own_w40, own_w41, own_w42, own_w43, if_true, if_false]
  obtain ⟨i1, e1⟩ := own_d4 x1
  obtain ⟨i2, e2⟩ := own_d4 x2
  simp only [e1, e2]
  clear e1 e2
  revert i1 i2
  decide +kernel
set_option maxRecDepth 100000 in
set_option maxHeartbeats 4000000 in
theorem own_fin14 (x0 x1 x2 x3 : Int32) : f3_1 4 x0 x1 x2 x3 = oE (f2 0 1 4 x0) (f2 1 1 4 x1) (f2 2 1 4 x2) (f2 3 1 4 x3) := by
  unfold f3_1 oE f2
  simp only [own_og, own_c00, own_c01, own_c02, own_c03, own_c04, own_c10, own_c11, own_c12, own_c13, own_c14, own_c20, own_c21, own_c22, own_c23, own_c24, own_c30, own_c31, own_c32, own_c33, own_c34, own_c40, own_c41, own_c42, own_c43, own_c44, own_w10, own_w20, own_w21, own_w30, own_w31, own_w32, own_w40, own_w41, own_w42, own_w43, if_true, if_false]
  obtain ⟨i1, e1⟩ := own_d4 x1
  obtain ⟨i2, e2⟩ := own_d4 x2
  obtain ⟨i3, e3⟩ := own_d4 x3
  simp only [e1, e2, e3]
  clear e1 e2 e3
  revert i1 i2 i3
  decide +kernel
set_option maxRecDepth 100000 in
set_option maxHeartbeats 4000000 in
theorem own_fin22 (x0 x1 x2 x3 : Int32) : f3_2 2 x0 x1 x2 x3 = oE (f2 0 2 2 x0) (f2 1 2 2 x1) (f2 2 2 2 x2) (f2 3 2 2 x3) := by
  unfold f3_2 oE f2
  simp only [own_og, own_c00, own_c01, own_c02, own_c03, own_c04, own_c10, own_c11, own_c12, own_c13, own_c14, own_c20, own_c21, own_c22, own_c23, own_c24, own_c30, own_c31, own_c32, own_c33, own_c34, own_c40, own_c41, own_c42, own_c43, own_c44, own_w10, own_w20, own_w21, own_w30, own_w31, own_w32, own_w40, own_w41, own_w42, own_w43, if_true, if_false]
  try decide
set_option maxRecDepth 100000 in
set_option maxHeartbeats 4000000 in
theorem own_fin23 (x0 x1 x2 x3 : Int32) : f3_2 3 x0 x1 x2 x3 = oE (f2 0 2 3 x0) (f2 1 2 3 x1) (f2 2 2 3 x2) (f2 3 2 3 x3) := by
  unfold f3_2 oE f2
  simp only [own_og, own_c00, own_c01, own_c02, own_c03, own_c04, own_c10, own_c11, own_c12, own_c13, own_c14, own_c20, own_c21, own_c22, own_c23, own_c24, own_c30, own_c31, own_c32, own_c33, own_c34, own_c40, own_c41, own_c42, own_c43, own_c44, own_w10, own_w20, own_w21, own_w30, own_w31, own_w32, own_w40, own_w41, own_w42, own_w43, if_true, if_false]
  obtain ⟨i2, e2⟩ := own_d4 x2
  simp only [e2]
  clear e2
  revert i2
  decide +kernel
set_option maxRecDepth 100000 in
set_option maxHeartbeats 4000000 in
theorem own_fin24 (x0 x1 x2 x3 : Int32) : f3_2 4 x0 x1 x2 x3 = oE (f2 0 2 4 x0) (f2 1 2 4 x1) (f2 2 2 4 x2) (f2 3 2 4 x3) := by
  unfold f3_2 oE f2
  simp only [own_og, own_c00, own_c01, own_c02, own_c03, own_c04, own_c10, own_c11, own_c12, own_c13, own_c14, own_c20, own_c21, own_c22, own_c23, own_c24, own_c30, own_c31, own_c32, own_c33, own_c34, own_c40, own_c41, own_c42, own_c43, own_c44, own_w10, own_w20, own_w21, own_w30, own_w31, own_w32, own_w40, own_w41, own_w42, own_w43, if_true, if_false]
  obtain ⟨i2, e2⟩ := own_d4 x2
  obtain ⟨i3, e3⟩ := own_d4 x3
  simp only [e2, e3]
  clear e2 e3
  revert i2 i3
  decide +kernel
set_option maxRecDepth 100000 in
set_option maxHeartbeats 4000000 in
theorem own_fin33 (x0 x1 x2 x3 : Int32) : f3_3 3 x0 x1 x2 x3 = oE (f2 0 3 3 x0) (f2 1 3 3 x1) (f2 2 3 3 x2) (f2 3 3 3 x3) := by
  unfold f3_3 oE f2
  simp only [own_og, own_c00, own_c01, own_c02, own_c03, own_c04, own_c10, own_c11, own_c12, own_c13, own_c14, own_c20, own_c21, own_c22, own_c23, own_c24, own_c30, own_c31, own_c32, own_c33, own_c34, own_c40, own_c41, own_c42, own_c43, own_c44, own_w10, own_w20, own_w21, own_w30, own_w31, own_w32, own_w40, own_w41, own_w42, own_w43, if_true, if_false]
  try decide
set_option maxRecDepth 100000 in
set_option maxHeartbeats 4000000 in
theorem own_fin34 (x0 x1 x2 x3 : Int32) : f3_3 4 x0 x1 x2 x3 = oE (f2 0 3 4 x0) (f2 1 3 4 x1) (f2 2 3 4 x2) (f2 3 3 4 x3) := by
  unfold f3_3 oE f2
  simp only [own_og, own_c00, own_c01, own_c02, own_c03, own_c04, own_c10, own_c11, own_c12, own_c13, own_c14, own_c20, own_c21, own_c22, own_c23, own_c24, own_c30, own_c31, own_c32, own_c33, own_c34, own_c40, own_c41, own_c42, own_c43, own_c44, own_w10, own_w20, own_w21, own_w30, own_w31, own_w32, own_w40, own_w41, own_w42, own_w43, if_true, if_false]
  obtain ⟨i3, e3⟩ := own_d4 x3
  simp only [e3]
  clear e3
  revert i3
  decide +kernel
set_option maxRecDepth 100000 in
set_option maxHeartbeats 4000000 in
theorem own_fin44 (x0 x1 x2 x3 : Int32) : f3_4 4 x0 x1 x2 x3 = oE (f2 0 4 4 x0) (f2 1 4 4 x1) (f2 2 4 4 x2) (f2 3 4 4 x3) := by
  unfold f3_4 oE f2
  simp only [own_og, own_c00, own_c01, own_c02, own_c03, own_c04, own_c10, own_c11, own_c12, own_c13, own_c14, own_c20, own_c21, own_c22, own_c23, own_c24, own_c30, own_c31, own_c32, own_c33, own_c34, own_c40, own_c41, own_c42, own_c43, own_c44, own_w10, own_w20, own_w21, own_w30, own_w31, own_w32, own_w40, own_w41, own_w42, own_w43, if_true, if_false]
  try decide
theorem pd___BII_I : parseMethodDescriptor "([BII)I" = some ⟨[(.array .byte), .int, .int], some .int⟩ := by decide +kernel
set_option maxRecDepth 65536 in
set_option maxHeartbeats 4000000 in
theorem mt0 (l : Launch) (Z : State) (a0 : Array Value) (hw : ∀ d ∈ tables_1, d.before a0 Z = true) (p0 : Int32) (p1 : Int32) (p2 : Int32) (p3 : Int32) (p4 : Int32) (h0 : Heap) : Meth l Z x code maxLocals ret room_1 #[(.int p0), (.int p1), (.int p2), (.int p3), (.int p4)] h0 [] (fun v h' => v = some (.int 1)) := by
  refine Meth.of pn0 ?_
  intro p e s m below meth c T B X
  have B : Fix p Z s m meth c code 13 "com/example/paycadence/paycadence/format/DigitsValuePinLaw" "law" (some .boolean) := B
  refine Go.entry (ef0_IIIII m p0 p1 p2 p3 p4) ?_
  refine giconst B X at_0 (v := (4 : Int32)) rfl (pc' := 1) rfl ?_
  refine gnewarray B X (cap := 4) (vs := [(.int (0 : Int32)), (.int (0 : Int32)), (.int (0 : Int32)), (.int (0 : Int32))]) (ty := .byte) rfl rfl (hw _ (List.mem_of_getElem? (i := 0) rfl)) (by decide) (by decide) (by decide) (by decide) (by decide) at_1 (pc' := 3) rfl fun T79 h80 a81 X82 q83 E84 z_a81 A85 => ?_
  refine gastore B X82 at_3 rfl (Ls' := #[.val (.int p0), .val (.int p1), .val (.int p2), .val (.int p3), .val (.int p4), .val (.ref a81), .unset, .unset, .unset, .unset, .unset, .unset, .unset]) rfl (pc' := 5) rfl ?_
  refine gaload B X82 at_5 rfl rfl (pc' := 7) rfl ?_
  refine giconst B X82 at_7 (v := (0 : Int32)) rfl (pc' := 8) rfl ?_
  refine giloadN B X82 at_8 rfl (pc' := 9) rfl ?_
  refine gcallS B X82 (hw _ (List.mem_of_getElem? (i := 1) rfl)) (hw _ (List.mem_of_getElem? (i := 2) rfl)) (hw _ (List.mem_of_getElem? (i := 3) rfl)) (hw _ (List.mem_of_getElem? (i := 4) rfl)) (by decide) (mt1 l Z a0 hw p0  h80 ) pd__I_B rfl (argsL := [(.int p0)]) (st := [(.int (0 : Int32)), (.ref a81)]) rfl rfl (W := 2) (Nat.le_of_eq rfl) (by decide) (by decide) (by decide) (by decide) (fun x q => nomatch q) at_9 rfl (pureG rfl rfl fun T86 X87 => ?_)
  refine gbastore B X87 (i := 0) (n := 4) A85 rfl (by decide) rfl (vs' := [(.int (f1 p0).toInt8.toInt32), (.int (0 : Int32)), (.int (0 : Int32)), (.int (0 : Int32))]) rfl (Or.inr z_a81) at_12 (pc' := 13) rfl fun T88 h89 X90 W91 A92 => ?_
  refine gaload B X90 at_13 rfl rfl (pc' := 15) rfl ?_
  refine giconst B X90 at_15 (v := (1 : Int32)) rfl (pc' := 16) rfl ?_
  refine giloadN B X90 at_16 rfl (pc' := 17) rfl ?_
  refine gcallS B X90 (hw _ (List.mem_of_getElem? (i := 1) rfl)) (hw _ (List.mem_of_getElem? (i := 2) rfl)) (hw _ (List.mem_of_getElem? (i := 3) rfl)) (hw _ (List.mem_of_getElem? (i := 4) rfl)) (by decide) (mt1 l Z a0 hw p1  h89 ) pd__I_B rfl (argsL := [(.int p1)]) (st := [(.int (1 : Int32)), (.ref a81)]) rfl rfl (W := 2) (Nat.le_of_eq rfl) (by decide) (by decide) (by decide) (by decide) (fun x q => nomatch q) at_17 rfl (pureG rfl rfl fun T93 X94 => ?_)
  refine gbastore B X94 (i := 1) (n := 4) A92 rfl (by decide) rfl (vs' := [(.int (f1 p0).toInt8.toInt32), (.int (f1 p1).toInt8.toInt32), (.int (0 : Int32)), (.int (0 : Int32))]) rfl (Or.inr z_a81) at_20 (pc' := 21) rfl fun T95 h96 X97 W98 A99 => ?_
  refine gaload B X97 at_21 rfl rfl (pc' := 23) rfl ?_
  refine giconst B X97 at_23 (v := (2 : Int32)) rfl (pc' := 24) rfl ?_
  refine giloadN B X97 at_24 rfl (pc' := 25) rfl ?_
  refine gcallS B X97 (hw _ (List.mem_of_getElem? (i := 1) rfl)) (hw _ (List.mem_of_getElem? (i := 2) rfl)) (hw _ (List.mem_of_getElem? (i := 3) rfl)) (hw _ (List.mem_of_getElem? (i := 4) rfl)) (by decide) (mt1 l Z a0 hw p2  h96 ) pd__I_B rfl (argsL := [(.int p2)]) (st := [(.int (2 : Int32)), (.ref a81)]) rfl rfl (W := 2) (Nat.le_of_eq rfl) (by decide) (by decide) (by decide) (by decide) (fun x q => nomatch q) at_25 rfl (pureG rfl rfl fun T100 X101 => ?_)
  refine gbastore B X101 (i := 2) (n := 4) A99 rfl (by decide) rfl (vs' := [(.int (f1 p0).toInt8.toInt32), (.int (f1 p1).toInt8.toInt32), (.int (f1 p2).toInt8.toInt32), (.int (0 : Int32))]) rfl (Or.inr z_a81) at_28 (pc' := 29) rfl fun T102 h103 X104 W105 A106 => ?_
  refine gaload B X104 at_29 rfl rfl (pc' := 31) rfl ?_
  refine giconst B X104 at_31 (v := (3 : Int32)) rfl (pc' := 32) rfl ?_
  refine giloadN B X104 at_32 rfl (pc' := 33) rfl ?_
  refine gcallS B X104 (hw _ (List.mem_of_getElem? (i := 1) rfl)) (hw _ (List.mem_of_getElem? (i := 2) rfl)) (hw _ (List.mem_of_getElem? (i := 3) rfl)) (hw _ (List.mem_of_getElem? (i := 4) rfl)) (by decide) (mt1 l Z a0 hw p3  h103 ) pd__I_B rfl (argsL := [(.int p3)]) (st := [(.int (3 : Int32)), (.ref a81)]) rfl rfl (W := 2) (Nat.le_of_eq rfl) (by decide) (by decide) (by decide) (by decide) (fun x q => nomatch q) at_33 rfl (pureG rfl rfl fun T107 X108 => ?_)
  refine gbastore B X108 (i := 3) (n := 4) A106 rfl (by decide) rfl (vs' := [(.int (f1 p0).toInt8.toInt32), (.int (f1 p1).toInt8.toInt32), (.int (f1 p2).toInt8.toInt32), (.int (f1 p3).toInt8.toInt32)]) rfl (Or.inr z_a81) at_36 (pc' := 37) rfl fun T109 h110 X111 W112 A113 => ?_
  generalize (f1 p0).toInt8.toInt32 = b0 at A113 ⊢
  generalize (f1 p1).toInt8.toInt32 = b1 at A113 ⊢
  generalize (f1 p2).toInt8.toInt32 = b2 at A113 ⊢
  generalize (f1 p3).toInt8.toInt32 = b3 at A113 ⊢
  refine giload B X111 at_37 rfl (pc' := 39) rfl ?_
  refine gbipush B X111 at_39 (v := (7 : Int32)) rfl (pc' := 41) rfl ?_
  refine giand B X111 at_41 rfl (pc' := 42) rfl ?_
  refine giconst B X111 at_42 (v := (5 : Int32)) rfl (pc' := 43) rfl ?_
  refine girem B X111 at_43 (by decide) rfl (pc' := 44) rfl ?_
  generalize e_qfr : ((p4 &&& (7 : Int32)) % (5 : Int32)) = qfr
  refine gistore B X111 at_44 (Ls' := #[.val (.int p0), .val (.int p1), .val (.int p2), .val (.int p3), .val (.int p4), .val (.ref a81), .val (.int qfr), .unset, .unset, .unset, .unset, .unset, .unset]) rfl (pc' := 46) rfl ?_
  have h4 := own_fr p4; rw [e_qfr] at h4; clear e_qfr
  rcases h4 with rfl | rfl | rfl | rfl | rfl
  · skip
    refine giload B X111 at_46 rfl (pc' := 48) rfl ?_
    refine giload B X111 at_48 rfl (pc' := 50) rfl ?_
    refine giconst B X111 at_50 (v := (3 : Int32)) rfl (pc' := 51) rfl ?_
    refine giushr B X111 at_51 rfl (pc' := 52) rfl ?_
    refine gbipush B X111 at_52 (v := (7 : Int32)) rfl (pc' := 54) rfl ?_
    refine giand B X111 at_54 rfl (pc' := 55) rfl ?_
    refine giconst B X111 at_55 (v := (5 : Int32)) rfl (pc' := 56) rfl ?_
    refine giload B X111 at_56 rfl (pc' := 58) rfl ?_
    refine gisub B X111 at_58 (v := (5 : Int32)) (by decide) (pc' := 59) rfl ?_
    refine girem B X111 at_59 (by decide) rfl (pc' := 60) rfl ?_
    refine giadd B X111 at_60 rfl (pc' := 61) rfl ?_
    generalize e_qto : ((0 : Int32) + ((((p4.toUInt32 >>> ((3 : Int32) &&& 31).toUInt32).toInt32) &&& (7 : Int32)) % (5 : Int32))) = qto
    refine gistore B X111 at_61 (Ls' := #[.val (.int p0), .val (.int p1), .val (.int p2), .val (.int p3), .val (.int p4), .val (.ref a81), .val (.int (0 : Int32)), .val (.int qto), .unset, .unset, .unset, .unset, .unset]) rfl (pc' := 63) rfl ?_
    have h5 := own_to0 ((p4.toUInt32 >>> ((3 : Int32) &&& 31).toUInt32).toInt32); rw [e_qto] at h5; clear e_qto
    rcases h5 with rfl | rfl | rfl | rfl | rfl
    · skip
      refine gaload B X111 at_63 rfl rfl (pc' := 65) rfl ?_
      refine giconst B X111 at_65 (v := (0 : Int32)) rfl (pc' := 66) rfl ?_
      refine giload B X111 at_66 rfl (pc' := 68) rfl ?_
      refine giload B X111 at_68 rfl (pc' := 70) rfl ?_
      refine gcallS B X111 (hw _ (List.mem_of_getElem? (i := 5) rfl)) (hw _ (List.mem_of_getElem? (i := 6) rfl)) (hw _ (List.mem_of_getElem? (i := 3) rfl)) (hw _ (List.mem_of_getElem? (i := 7) rfl)) (by decide) (mt2 l Z a0 hw a81 (0 : Int32) (0 : Int32) (0 : Int32) [(.int b0), (.int b1), (.int b2), (.int b3)] b0 h110 A113 rfl (by decide) rfl) pd___BIII_I rfl (argsL := [(.ref a81), (.int (0 : Int32)), (.int (0 : Int32)), (.int (0 : Int32))]) (st := []) rfl rfl (W := 0) (Nat.le_of_eq rfl) (by decide) (by decide) (by decide) (by decide) (fun x q => nomatch q) at_70 rfl (pureG rfl rfl fun T114 X115 => ?_)
      refine gistore B X115 at_73 (Ls' := #[.val (.int p0), .val (.int p1), .val (.int p2), .val (.int p3), .val (.int p4), .val (.ref a81), .val (.int (0 : Int32)), .val (.int (0 : Int32)), .val (.int (f2 (0 : Int32) (0 : Int32) (0 : Int32) b0)), .unset, .unset, .unset, .unset]) rfl (pc' := 75) rfl ?_
      refine gaload B X115 at_75 rfl rfl (pc' := 77) rfl ?_
      refine giconst B X115 at_77 (v := (1 : Int32)) rfl (pc' := 78) rfl ?_
      refine giload B X115 at_78 rfl (pc' := 80) rfl ?_
      refine giload B X115 at_80 rfl (pc' := 82) rfl ?_
      refine gcallS B X115 (hw _ (List.mem_of_getElem? (i := 5) rfl)) (hw _ (List.mem_of_getElem? (i := 6) rfl)) (hw _ (List.mem_of_getElem? (i := 3) rfl)) (hw _ (List.mem_of_getElem? (i := 7) rfl)) (by decide) (mt2 l Z a0 hw a81 (1 : Int32) (0 : Int32) (0 : Int32) [(.int b0), (.int b1), (.int b2), (.int b3)] b1 h110 A113 rfl (by decide) rfl) pd___BIII_I rfl (argsL := [(.ref a81), (.int (1 : Int32)), (.int (0 : Int32)), (.int (0 : Int32))]) (st := []) rfl rfl (W := 0) (Nat.le_of_eq rfl) (by decide) (by decide) (by decide) (by decide) (fun x q => nomatch q) at_82 rfl (pureG rfl rfl fun T116 X117 => ?_)
      refine gistore B X117 at_85 (Ls' := #[.val (.int p0), .val (.int p1), .val (.int p2), .val (.int p3), .val (.int p4), .val (.ref a81), .val (.int (0 : Int32)), .val (.int (0 : Int32)), .val (.int (f2 (0 : Int32) (0 : Int32) (0 : Int32) b0)), .val (.int (f2 (1 : Int32) (0 : Int32) (0 : Int32) b1)), .unset, .unset, .unset]) rfl (pc' := 87) rfl ?_
      refine gaload B X117 at_87 rfl rfl (pc' := 89) rfl ?_
      refine giconst B X117 at_89 (v := (2 : Int32)) rfl (pc' := 90) rfl ?_
      refine giload B X117 at_90 rfl (pc' := 92) rfl ?_
      refine giload B X117 at_92 rfl (pc' := 94) rfl ?_
      refine gcallS B X117 (hw _ (List.mem_of_getElem? (i := 5) rfl)) (hw _ (List.mem_of_getElem? (i := 6) rfl)) (hw _ (List.mem_of_getElem? (i := 3) rfl)) (hw _ (List.mem_of_getElem? (i := 7) rfl)) (by decide) (mt2 l Z a0 hw a81 (2 : Int32) (0 : Int32) (0 : Int32) [(.int b0), (.int b1), (.int b2), (.int b3)] b2 h110 A113 rfl (by decide) rfl) pd___BIII_I rfl (argsL := [(.ref a81), (.int (2 : Int32)), (.int (0 : Int32)), (.int (0 : Int32))]) (st := []) rfl rfl (W := 0) (Nat.le_of_eq rfl) (by decide) (by decide) (by decide) (by decide) (fun x q => nomatch q) at_94 rfl (pureG rfl rfl fun T118 X119 => ?_)
      refine gistore B X119 at_97 (Ls' := #[.val (.int p0), .val (.int p1), .val (.int p2), .val (.int p3), .val (.int p4), .val (.ref a81), .val (.int (0 : Int32)), .val (.int (0 : Int32)), .val (.int (f2 (0 : Int32) (0 : Int32) (0 : Int32) b0)), .val (.int (f2 (1 : Int32) (0 : Int32) (0 : Int32) b1)), .val (.int (f2 (2 : Int32) (0 : Int32) (0 : Int32) b2)), .unset, .unset]) rfl (pc' := 99) rfl ?_
      refine gaload B X119 at_99 rfl rfl (pc' := 101) rfl ?_
      refine giconst B X119 at_101 (v := (3 : Int32)) rfl (pc' := 102) rfl ?_
      refine giload B X119 at_102 rfl (pc' := 104) rfl ?_
      refine giload B X119 at_104 rfl (pc' := 106) rfl ?_
      refine gcallS B X119 (hw _ (List.mem_of_getElem? (i := 5) rfl)) (hw _ (List.mem_of_getElem? (i := 6) rfl)) (hw _ (List.mem_of_getElem? (i := 3) rfl)) (hw _ (List.mem_of_getElem? (i := 7) rfl)) (by decide) (mt2 l Z a0 hw a81 (3 : Int32) (0 : Int32) (0 : Int32) [(.int b0), (.int b1), (.int b2), (.int b3)] b3 h110 A113 rfl (by decide) rfl) pd___BIII_I rfl (argsL := [(.ref a81), (.int (3 : Int32)), (.int (0 : Int32)), (.int (0 : Int32))]) (st := []) rfl rfl (W := 0) (Nat.le_of_eq rfl) (by decide) (by decide) (by decide) (by decide) (fun x q => nomatch q) at_106 rfl (pureG rfl rfl fun T120 X121 => ?_)
      refine gistore B X121 at_109 (Ls' := #[.val (.int p0), .val (.int p1), .val (.int p2), .val (.int p3), .val (.int p4), .val (.ref a81), .val (.int (0 : Int32)), .val (.int (0 : Int32)), .val (.int (f2 (0 : Int32) (0 : Int32) (0 : Int32) b0)), .val (.int (f2 (1 : Int32) (0 : Int32) (0 : Int32) b1)), .val (.int (f2 (2 : Int32) (0 : Int32) (0 : Int32) b2)), .val (.int (f2 (3 : Int32) (0 : Int32) (0 : Int32) b3)), .unset]) rfl (pc' := 111) rfl ?_
      refine joinG B X121 (F := fun z => (mkF m 150 #[.val (.int p0), .val (.int p1), .val (.int p2), .val (.int p3), .val (.int p4), .val (.ref a81), .val (.int (0 : Int32)), .val (.int (0 : Int32)), .val (.int (f2 (0 : Int32) (0 : Int32) (0 : Int32) b0)), .val (.int (f2 (1 : Int32) (0 : Int32) (0 : Int32) b1)), .val (.int (f2 (2 : Int32) (0 : Int32) (0 : Int32) b2)), .val (.int (f2 (3 : Int32) (0 : Int32) (0 : Int32) b3)), .val (.int z)] [])) (r := (oE (f2 (0 : Int32) (0 : Int32) (0 : Int32) b0) (f2 (1 : Int32) (0 : Int32) (0 : Int32) b1) (f2 (2 : Int32) (0 : Int32) (0 : Int32) b2) (f2 (3 : Int32) (0 : Int32) (0 : Int32) b3))) (fun J => ?_) ?_
      · refine giload B X121 at_111 rfl (pc' := 113) rfl ?_
        by_cases c113_122 : (f2 (0 : Int32) (0 : Int32) (0 : Int32) b0) < (0 : Int32)
        · refine gifY B X121 (pc' := 131) at_113 ((if0 _ _).trans (tlt c113_122).1) (by decide) ?_
          refine giconst B X121 at_131 (v := (-1 : Int32)) rfl (pc' := 132) rfl ?_
          refine gistore B X121 at_132 (Ls' := #[.val (.int p0), .val (.int p1), .val (.int p2), .val (.int p3), .val (.int p4), .val (.ref a81), .val (.int (0 : Int32)), .val (.int (0 : Int32)), .val (.int (f2 (0 : Int32) (0 : Int32) (0 : Int32) b0)), .val (.int (f2 (1 : Int32) (0 : Int32) (0 : Int32) b1)), .val (.int (f2 (2 : Int32) (0 : Int32) (0 : Int32) b2)), .val (.int (f2 (3 : Int32) (0 : Int32) (0 : Int32) b3)), .val (.int (-1 : Int32))]) rfl (pc' := 134) rfl ?_
          refine ggoto B X121 (pc' := 150) at_134 (by decide) ?_
          have e_J : (oE (f2 (0 : Int32) (0 : Int32) (0 : Int32) b0) (f2 (1 : Int32) (0 : Int32) (0 : Int32) b1) (f2 (2 : Int32) (0 : Int32) (0 : Int32) b2) (f2 (3 : Int32) (0 : Int32) (0 : Int32) b3)) = (-1 : Int32) := by rw [oE, if_pos c113_122]
          rw [e_J] at J
          exact J _ X121
        · refine gifN B X121 at_113 ((if0 _ _).trans (flt c113_122).1) (pc' := 116) rfl ?_
          refine giload B X121 at_116 rfl (pc' := 118) rfl ?_
          by_cases c118_123 : (f2 (1 : Int32) (0 : Int32) (0 : Int32) b1) < (0 : Int32)
          · refine gifY B X121 (pc' := 131) at_118 ((if0 _ _).trans (tlt c118_123).1) (by decide) ?_
            refine giconst B X121 at_131 (v := (-1 : Int32)) rfl (pc' := 132) rfl ?_
            refine gistore B X121 at_132 (Ls' := #[.val (.int p0), .val (.int p1), .val (.int p2), .val (.int p3), .val (.int p4), .val (.ref a81), .val (.int (0 : Int32)), .val (.int (0 : Int32)), .val (.int (f2 (0 : Int32) (0 : Int32) (0 : Int32) b0)), .val (.int (f2 (1 : Int32) (0 : Int32) (0 : Int32) b1)), .val (.int (f2 (2 : Int32) (0 : Int32) (0 : Int32) b2)), .val (.int (f2 (3 : Int32) (0 : Int32) (0 : Int32) b3)), .val (.int (-1 : Int32))]) rfl (pc' := 134) rfl ?_
            refine ggoto B X121 (pc' := 150) at_134 (by decide) ?_
            have e_J : (oE (f2 (0 : Int32) (0 : Int32) (0 : Int32) b0) (f2 (1 : Int32) (0 : Int32) (0 : Int32) b1) (f2 (2 : Int32) (0 : Int32) (0 : Int32) b2) (f2 (3 : Int32) (0 : Int32) (0 : Int32) b3)) = (-1 : Int32) := by rw [oE, if_neg c113_122, if_pos c118_123]
            rw [e_J] at J
            exact J _ X121
          · refine gifN B X121 at_118 ((if0 _ _).trans (flt c118_123).1) (pc' := 121) rfl ?_
            refine giload B X121 at_121 rfl (pc' := 123) rfl ?_
            by_cases c123_124 : (f2 (2 : Int32) (0 : Int32) (0 : Int32) b2) < (0 : Int32)
            · refine gifY B X121 (pc' := 131) at_123 ((if0 _ _).trans (tlt c123_124).1) (by decide) ?_
              refine giconst B X121 at_131 (v := (-1 : Int32)) rfl (pc' := 132) rfl ?_
              refine gistore B X121 at_132 (Ls' := #[.val (.int p0), .val (.int p1), .val (.int p2), .val (.int p3), .val (.int p4), .val (.ref a81), .val (.int (0 : Int32)), .val (.int (0 : Int32)), .val (.int (f2 (0 : Int32) (0 : Int32) (0 : Int32) b0)), .val (.int (f2 (1 : Int32) (0 : Int32) (0 : Int32) b1)), .val (.int (f2 (2 : Int32) (0 : Int32) (0 : Int32) b2)), .val (.int (f2 (3 : Int32) (0 : Int32) (0 : Int32) b3)), .val (.int (-1 : Int32))]) rfl (pc' := 134) rfl ?_
              refine ggoto B X121 (pc' := 150) at_134 (by decide) ?_
              have e_J : (oE (f2 (0 : Int32) (0 : Int32) (0 : Int32) b0) (f2 (1 : Int32) (0 : Int32) (0 : Int32) b1) (f2 (2 : Int32) (0 : Int32) (0 : Int32) b2) (f2 (3 : Int32) (0 : Int32) (0 : Int32) b3)) = (-1 : Int32) := by rw [oE, if_neg c113_122, if_neg c118_123, if_pos c123_124]
              rw [e_J] at J
              exact J _ X121
            · refine gifN B X121 at_123 ((if0 _ _).trans (flt c123_124).1) (pc' := 126) rfl ?_
              refine giload B X121 at_126 rfl (pc' := 128) rfl ?_
              by_cases c128_125 : (f2 (3 : Int32) (0 : Int32) (0 : Int32) b3) < (0 : Int32)
              · refine gifN B X121 at_128 ((if0 _ _).trans (tlt c128_125).2.1) (pc' := 131) rfl ?_
                refine giconst B X121 at_131 (v := (-1 : Int32)) rfl (pc' := 132) rfl ?_
                refine gistore B X121 at_132 (Ls' := #[.val (.int p0), .val (.int p1), .val (.int p2), .val (.int p3), .val (.int p4), .val (.ref a81), .val (.int (0 : Int32)), .val (.int (0 : Int32)), .val (.int (f2 (0 : Int32) (0 : Int32) (0 : Int32) b0)), .val (.int (f2 (1 : Int32) (0 : Int32) (0 : Int32) b1)), .val (.int (f2 (2 : Int32) (0 : Int32) (0 : Int32) b2)), .val (.int (f2 (3 : Int32) (0 : Int32) (0 : Int32) b3)), .val (.int (-1 : Int32))]) rfl (pc' := 134) rfl ?_
                refine ggoto B X121 (pc' := 150) at_134 (by decide) ?_
                have e_J : (oE (f2 (0 : Int32) (0 : Int32) (0 : Int32) b0) (f2 (1 : Int32) (0 : Int32) (0 : Int32) b1) (f2 (2 : Int32) (0 : Int32) (0 : Int32) b2) (f2 (3 : Int32) (0 : Int32) (0 : Int32) b3)) = (-1 : Int32) := by rw [oE, if_neg c113_122, if_neg c118_123, if_neg c123_124, if_pos c128_125]
                rw [e_J] at J
                exact J _ X121
              · refine gifY B X121 (pc' := 137) at_128 ((if0 _ _).trans (flt c128_125).2.1) (by decide) ?_
                refine giload B X121 at_137 rfl (pc' := 139) rfl ?_
                refine giload B X121 at_139 rfl (pc' := 141) rfl ?_
                refine giadd B X121 at_141 rfl (pc' := 142) rfl ?_
                refine giload B X121 at_142 rfl (pc' := 144) rfl ?_
                refine giadd B X121 at_144 rfl (pc' := 145) rfl ?_
                refine giload B X121 at_145 rfl (pc' := 147) rfl ?_
                refine giadd B X121 at_147 rfl (pc' := 148) rfl ?_
                refine gistore B X121 at_148 (Ls' := #[.val (.int p0), .val (.int p1), .val (.int p2), .val (.int p3), .val (.int p4), .val (.ref a81), .val (.int (0 : Int32)), .val (.int (0 : Int32)), .val (.int (f2 (0 : Int32) (0 : Int32) (0 : Int32) b0)), .val (.int (f2 (1 : Int32) (0 : Int32) (0 : Int32) b1)), .val (.int (f2 (2 : Int32) (0 : Int32) (0 : Int32) b2)), .val (.int (f2 (3 : Int32) (0 : Int32) (0 : Int32) b3)), .val (.int ((((f2 (0 : Int32) (0 : Int32) (0 : Int32) b0) + (f2 (1 : Int32) (0 : Int32) (0 : Int32) b1)) + (f2 (2 : Int32) (0 : Int32) (0 : Int32) b2)) + (f2 (3 : Int32) (0 : Int32) (0 : Int32) b3)))]) rfl (pc' := 150) rfl ?_
                have e_J : (oE (f2 (0 : Int32) (0 : Int32) (0 : Int32) b0) (f2 (1 : Int32) (0 : Int32) (0 : Int32) b1) (f2 (2 : Int32) (0 : Int32) (0 : Int32) b2) (f2 (3 : Int32) (0 : Int32) (0 : Int32) b3)) = ((((f2 (0 : Int32) (0 : Int32) (0 : Int32) b0) + (f2 (1 : Int32) (0 : Int32) (0 : Int32) b1)) + (f2 (2 : Int32) (0 : Int32) (0 : Int32) b2)) + (f2 (3 : Int32) (0 : Int32) (0 : Int32) b3)) := by rw [oE, if_neg c113_122, if_neg c118_123, if_neg c123_124, if_neg c128_125]
                rw [e_J] at J
                exact J _ X121
      intro T126 X127
      show Go p e below s _ _ _ _ _ T126 (mkF m 150 #[.val (.int p0), .val (.int p1), .val (.int p2), .val (.int p3), .val (.int p4), .val (.ref a81), .val (.int (0 : Int32)), .val (.int (0 : Int32)), .val (.int (f2 (0 : Int32) (0 : Int32) (0 : Int32) b0)), .val (.int (f2 (1 : Int32) (0 : Int32) (0 : Int32) b1)), .val (.int (f2 (2 : Int32) (0 : Int32) (0 : Int32) b2)), .val (.int (f2 (3 : Int32) (0 : Int32) (0 : Int32) b3)), .val (.int (oE (f2 (0 : Int32) (0 : Int32) (0 : Int32) b0) (f2 (1 : Int32) (0 : Int32) (0 : Int32) b1) (f2 (2 : Int32) (0 : Int32) (0 : Int32) b2) (f2 (3 : Int32) (0 : Int32) (0 : Int32) b3)))] [])
      refine gaload B X127 at_150 rfl rfl (pc' := 152) rfl ?_
      refine giload B X127 at_152 rfl (pc' := 154) rfl ?_
      refine giload B X127 at_154 rfl (pc' := 156) rfl ?_
      refine gcallS B X127 (hw _ (List.mem_of_getElem? (i := 8) rfl)) (hw _ (List.mem_of_getElem? (i := 9) rfl)) (hw _ (List.mem_of_getElem? (i := 10) rfl)) (hw _ (List.mem_of_getElem? (i := 11) rfl)) (by decide) (mt3_0 l Z a0 hw a81 (0 : Int32) b0 b1 b2 b3 h110 A113 (by decide)) pd___BII_I rfl (argsL := [(.ref a81), (.int (0 : Int32)), (.int (0 : Int32))]) (st := []) rfl rfl (W := 0) (Nat.le_of_eq rfl) (by decide) (by decide) (by decide) (by decide) (fun x q => nomatch q) at_156 rfl (pureG rfl rfl fun T128 X129 => ?_)
      refine giload B X129 at_159 rfl (pc' := 161) rfl ?_
      have c161_130 : (f3_0 (0 : Int32) b0 b1 b2 b3) = (oE (f2 (0 : Int32) (0 : Int32) (0 : Int32) b0) (f2 (1 : Int32) (0 : Int32) (0 : Int32) b1) (f2 (2 : Int32) (0 : Int32) (0 : Int32) b2) (f2 (3 : Int32) (0 : Int32) (0 : Int32) b3)) := own_fin00 b0 b1 b2 b3
      refine gicN B X129 at_161 (teq c161_130).2 (pc' := 164) rfl ?_
      refine giconst B X129 at_164 (v := (1 : Int32)) rfl (pc' := 165) rfl ?_
      refine ggoto B X129 (pc' := 169) at_165 (by decide) ?_
      exact gretN B X129 (z' := (1 : Int32)) (by simp) (rfl) at_169 (by decide) (by decide) (rfl)
    · skip
      refine gaload B X111 at_63 rfl rfl (pc' := 65) rfl ?_
      refine giconst B X111 at_65 (v := (0 : Int32)) rfl (pc' := 66) rfl ?_
      refine giload B X111 at_66 rfl (pc' := 68) rfl ?_
      refine giload B X111 at_68 rfl (pc' := 70) rfl ?_
      refine gcallS B X111 (hw _ (List.mem_of_getElem? (i := 5) rfl)) (hw _ (List.mem_of_getElem? (i := 6) rfl)) (hw _ (List.mem_of_getElem? (i := 3) rfl)) (hw _ (List.mem_of_getElem? (i := 7) rfl)) (by decide) (mt2 l Z a0 hw a81 (0 : Int32) (0 : Int32) (1 : Int32) [(.int b0), (.int b1), (.int b2), (.int b3)] b0 h110 A113 rfl (by decide) rfl) pd___BIII_I rfl (argsL := [(.ref a81), (.int (0 : Int32)), (.int (0 : Int32)), (.int (1 : Int32))]) (st := []) rfl rfl (W := 0) (Nat.le_of_eq rfl) (by decide) (by decide) (by decide) (by decide) (fun x q => nomatch q) at_70 rfl (pureG rfl rfl fun T131 X132 => ?_)
      refine gistore B X132 at_73 (Ls' := #[.val (.int p0), .val (.int p1), .val (.int p2), .val (.int p3), .val (.int p4), .val (.ref a81), .val (.int (0 : Int32)), .val (.int (1 : Int32)), .val (.int (f2 (0 : Int32) (0 : Int32) (1 : Int32) b0)), .unset, .unset, .unset, .unset]) rfl (pc' := 75) rfl ?_
      refine gaload B X132 at_75 rfl rfl (pc' := 77) rfl ?_
      refine giconst B X132 at_77 (v := (1 : Int32)) rfl (pc' := 78) rfl ?_
      refine giload B X132 at_78 rfl (pc' := 80) rfl ?_
      refine giload B X132 at_80 rfl (pc' := 82) rfl ?_
      refine gcallS B X132 (hw _ (List.mem_of_getElem? (i := 5) rfl)) (hw _ (List.mem_of_getElem? (i := 6) rfl)) (hw _ (List.mem_of_getElem? (i := 3) rfl)) (hw _ (List.mem_of_getElem? (i := 7) rfl)) (by decide) (mt2 l Z a0 hw a81 (1 : Int32) (0 : Int32) (1 : Int32) [(.int b0), (.int b1), (.int b2), (.int b3)] b1 h110 A113 rfl (by decide) rfl) pd___BIII_I rfl (argsL := [(.ref a81), (.int (1 : Int32)), (.int (0 : Int32)), (.int (1 : Int32))]) (st := []) rfl rfl (W := 0) (Nat.le_of_eq rfl) (by decide) (by decide) (by decide) (by decide) (fun x q => nomatch q) at_82 rfl (pureG rfl rfl fun T133 X134 => ?_)
      refine gistore B X134 at_85 (Ls' := #[.val (.int p0), .val (.int p1), .val (.int p2), .val (.int p3), .val (.int p4), .val (.ref a81), .val (.int (0 : Int32)), .val (.int (1 : Int32)), .val (.int (f2 (0 : Int32) (0 : Int32) (1 : Int32) b0)), .val (.int (f2 (1 : Int32) (0 : Int32) (1 : Int32) b1)), .unset, .unset, .unset]) rfl (pc' := 87) rfl ?_
      refine gaload B X134 at_87 rfl rfl (pc' := 89) rfl ?_
      refine giconst B X134 at_89 (v := (2 : Int32)) rfl (pc' := 90) rfl ?_
      refine giload B X134 at_90 rfl (pc' := 92) rfl ?_
      refine giload B X134 at_92 rfl (pc' := 94) rfl ?_
      refine gcallS B X134 (hw _ (List.mem_of_getElem? (i := 5) rfl)) (hw _ (List.mem_of_getElem? (i := 6) rfl)) (hw _ (List.mem_of_getElem? (i := 3) rfl)) (hw _ (List.mem_of_getElem? (i := 7) rfl)) (by decide) (mt2 l Z a0 hw a81 (2 : Int32) (0 : Int32) (1 : Int32) [(.int b0), (.int b1), (.int b2), (.int b3)] b2 h110 A113 rfl (by decide) rfl) pd___BIII_I rfl (argsL := [(.ref a81), (.int (2 : Int32)), (.int (0 : Int32)), (.int (1 : Int32))]) (st := []) rfl rfl (W := 0) (Nat.le_of_eq rfl) (by decide) (by decide) (by decide) (by decide) (fun x q => nomatch q) at_94 rfl (pureG rfl rfl fun T135 X136 => ?_)
      refine gistore B X136 at_97 (Ls' := #[.val (.int p0), .val (.int p1), .val (.int p2), .val (.int p3), .val (.int p4), .val (.ref a81), .val (.int (0 : Int32)), .val (.int (1 : Int32)), .val (.int (f2 (0 : Int32) (0 : Int32) (1 : Int32) b0)), .val (.int (f2 (1 : Int32) (0 : Int32) (1 : Int32) b1)), .val (.int (f2 (2 : Int32) (0 : Int32) (1 : Int32) b2)), .unset, .unset]) rfl (pc' := 99) rfl ?_
      refine gaload B X136 at_99 rfl rfl (pc' := 101) rfl ?_
      refine giconst B X136 at_101 (v := (3 : Int32)) rfl (pc' := 102) rfl ?_
      refine giload B X136 at_102 rfl (pc' := 104) rfl ?_
      refine giload B X136 at_104 rfl (pc' := 106) rfl ?_
      refine gcallS B X136 (hw _ (List.mem_of_getElem? (i := 5) rfl)) (hw _ (List.mem_of_getElem? (i := 6) rfl)) (hw _ (List.mem_of_getElem? (i := 3) rfl)) (hw _ (List.mem_of_getElem? (i := 7) rfl)) (by decide) (mt2 l Z a0 hw a81 (3 : Int32) (0 : Int32) (1 : Int32) [(.int b0), (.int b1), (.int b2), (.int b3)] b3 h110 A113 rfl (by decide) rfl) pd___BIII_I rfl (argsL := [(.ref a81), (.int (3 : Int32)), (.int (0 : Int32)), (.int (1 : Int32))]) (st := []) rfl rfl (W := 0) (Nat.le_of_eq rfl) (by decide) (by decide) (by decide) (by decide) (fun x q => nomatch q) at_106 rfl (pureG rfl rfl fun T137 X138 => ?_)
      refine gistore B X138 at_109 (Ls' := #[.val (.int p0), .val (.int p1), .val (.int p2), .val (.int p3), .val (.int p4), .val (.ref a81), .val (.int (0 : Int32)), .val (.int (1 : Int32)), .val (.int (f2 (0 : Int32) (0 : Int32) (1 : Int32) b0)), .val (.int (f2 (1 : Int32) (0 : Int32) (1 : Int32) b1)), .val (.int (f2 (2 : Int32) (0 : Int32) (1 : Int32) b2)), .val (.int (f2 (3 : Int32) (0 : Int32) (1 : Int32) b3)), .unset]) rfl (pc' := 111) rfl ?_
      refine joinG B X138 (F := fun z => (mkF m 150 #[.val (.int p0), .val (.int p1), .val (.int p2), .val (.int p3), .val (.int p4), .val (.ref a81), .val (.int (0 : Int32)), .val (.int (1 : Int32)), .val (.int (f2 (0 : Int32) (0 : Int32) (1 : Int32) b0)), .val (.int (f2 (1 : Int32) (0 : Int32) (1 : Int32) b1)), .val (.int (f2 (2 : Int32) (0 : Int32) (1 : Int32) b2)), .val (.int (f2 (3 : Int32) (0 : Int32) (1 : Int32) b3)), .val (.int z)] [])) (r := (oE (f2 (0 : Int32) (0 : Int32) (1 : Int32) b0) (f2 (1 : Int32) (0 : Int32) (1 : Int32) b1) (f2 (2 : Int32) (0 : Int32) (1 : Int32) b2) (f2 (3 : Int32) (0 : Int32) (1 : Int32) b3))) (fun J => ?_) ?_
      · refine giload B X138 at_111 rfl (pc' := 113) rfl ?_
        by_cases c113_139 : (f2 (0 : Int32) (0 : Int32) (1 : Int32) b0) < (0 : Int32)
        · refine gifY B X138 (pc' := 131) at_113 ((if0 _ _).trans (tlt c113_139).1) (by decide) ?_
          refine giconst B X138 at_131 (v := (-1 : Int32)) rfl (pc' := 132) rfl ?_
          refine gistore B X138 at_132 (Ls' := #[.val (.int p0), .val (.int p1), .val (.int p2), .val (.int p3), .val (.int p4), .val (.ref a81), .val (.int (0 : Int32)), .val (.int (1 : Int32)), .val (.int (f2 (0 : Int32) (0 : Int32) (1 : Int32) b0)), .val (.int (f2 (1 : Int32) (0 : Int32) (1 : Int32) b1)), .val (.int (f2 (2 : Int32) (0 : Int32) (1 : Int32) b2)), .val (.int (f2 (3 : Int32) (0 : Int32) (1 : Int32) b3)), .val (.int (-1 : Int32))]) rfl (pc' := 134) rfl ?_
          refine ggoto B X138 (pc' := 150) at_134 (by decide) ?_
          have e_J : (oE (f2 (0 : Int32) (0 : Int32) (1 : Int32) b0) (f2 (1 : Int32) (0 : Int32) (1 : Int32) b1) (f2 (2 : Int32) (0 : Int32) (1 : Int32) b2) (f2 (3 : Int32) (0 : Int32) (1 : Int32) b3)) = (-1 : Int32) := by rw [oE, if_pos c113_139]
          rw [e_J] at J
          exact J _ X138
        · refine gifN B X138 at_113 ((if0 _ _).trans (flt c113_139).1) (pc' := 116) rfl ?_
          refine giload B X138 at_116 rfl (pc' := 118) rfl ?_
          by_cases c118_140 : (f2 (1 : Int32) (0 : Int32) (1 : Int32) b1) < (0 : Int32)
          · refine gifY B X138 (pc' := 131) at_118 ((if0 _ _).trans (tlt c118_140).1) (by decide) ?_
            refine giconst B X138 at_131 (v := (-1 : Int32)) rfl (pc' := 132) rfl ?_
            refine gistore B X138 at_132 (Ls' := #[.val (.int p0), .val (.int p1), .val (.int p2), .val (.int p3), .val (.int p4), .val (.ref a81), .val (.int (0 : Int32)), .val (.int (1 : Int32)), .val (.int (f2 (0 : Int32) (0 : Int32) (1 : Int32) b0)), .val (.int (f2 (1 : Int32) (0 : Int32) (1 : Int32) b1)), .val (.int (f2 (2 : Int32) (0 : Int32) (1 : Int32) b2)), .val (.int (f2 (3 : Int32) (0 : Int32) (1 : Int32) b3)), .val (.int (-1 : Int32))]) rfl (pc' := 134) rfl ?_
            refine ggoto B X138 (pc' := 150) at_134 (by decide) ?_
            have e_J : (oE (f2 (0 : Int32) (0 : Int32) (1 : Int32) b0) (f2 (1 : Int32) (0 : Int32) (1 : Int32) b1) (f2 (2 : Int32) (0 : Int32) (1 : Int32) b2) (f2 (3 : Int32) (0 : Int32) (1 : Int32) b3)) = (-1 : Int32) := by rw [oE, if_neg c113_139, if_pos c118_140]
            rw [e_J] at J
            exact J _ X138
          · refine gifN B X138 at_118 ((if0 _ _).trans (flt c118_140).1) (pc' := 121) rfl ?_
            refine giload B X138 at_121 rfl (pc' := 123) rfl ?_
            by_cases c123_141 : (f2 (2 : Int32) (0 : Int32) (1 : Int32) b2) < (0 : Int32)
            · refine gifY B X138 (pc' := 131) at_123 ((if0 _ _).trans (tlt c123_141).1) (by decide) ?_
              refine giconst B X138 at_131 (v := (-1 : Int32)) rfl (pc' := 132) rfl ?_
              refine gistore B X138 at_132 (Ls' := #[.val (.int p0), .val (.int p1), .val (.int p2), .val (.int p3), .val (.int p4), .val (.ref a81), .val (.int (0 : Int32)), .val (.int (1 : Int32)), .val (.int (f2 (0 : Int32) (0 : Int32) (1 : Int32) b0)), .val (.int (f2 (1 : Int32) (0 : Int32) (1 : Int32) b1)), .val (.int (f2 (2 : Int32) (0 : Int32) (1 : Int32) b2)), .val (.int (f2 (3 : Int32) (0 : Int32) (1 : Int32) b3)), .val (.int (-1 : Int32))]) rfl (pc' := 134) rfl ?_
              refine ggoto B X138 (pc' := 150) at_134 (by decide) ?_
              have e_J : (oE (f2 (0 : Int32) (0 : Int32) (1 : Int32) b0) (f2 (1 : Int32) (0 : Int32) (1 : Int32) b1) (f2 (2 : Int32) (0 : Int32) (1 : Int32) b2) (f2 (3 : Int32) (0 : Int32) (1 : Int32) b3)) = (-1 : Int32) := by rw [oE, if_neg c113_139, if_neg c118_140, if_pos c123_141]
              rw [e_J] at J
              exact J _ X138
            · refine gifN B X138 at_123 ((if0 _ _).trans (flt c123_141).1) (pc' := 126) rfl ?_
              refine giload B X138 at_126 rfl (pc' := 128) rfl ?_
              by_cases c128_142 : (f2 (3 : Int32) (0 : Int32) (1 : Int32) b3) < (0 : Int32)
              · refine gifN B X138 at_128 ((if0 _ _).trans (tlt c128_142).2.1) (pc' := 131) rfl ?_
                refine giconst B X138 at_131 (v := (-1 : Int32)) rfl (pc' := 132) rfl ?_
                refine gistore B X138 at_132 (Ls' := #[.val (.int p0), .val (.int p1), .val (.int p2), .val (.int p3), .val (.int p4), .val (.ref a81), .val (.int (0 : Int32)), .val (.int (1 : Int32)), .val (.int (f2 (0 : Int32) (0 : Int32) (1 : Int32) b0)), .val (.int (f2 (1 : Int32) (0 : Int32) (1 : Int32) b1)), .val (.int (f2 (2 : Int32) (0 : Int32) (1 : Int32) b2)), .val (.int (f2 (3 : Int32) (0 : Int32) (1 : Int32) b3)), .val (.int (-1 : Int32))]) rfl (pc' := 134) rfl ?_
                refine ggoto B X138 (pc' := 150) at_134 (by decide) ?_
                have e_J : (oE (f2 (0 : Int32) (0 : Int32) (1 : Int32) b0) (f2 (1 : Int32) (0 : Int32) (1 : Int32) b1) (f2 (2 : Int32) (0 : Int32) (1 : Int32) b2) (f2 (3 : Int32) (0 : Int32) (1 : Int32) b3)) = (-1 : Int32) := by rw [oE, if_neg c113_139, if_neg c118_140, if_neg c123_141, if_pos c128_142]
                rw [e_J] at J
                exact J _ X138
              · refine gifY B X138 (pc' := 137) at_128 ((if0 _ _).trans (flt c128_142).2.1) (by decide) ?_
                refine giload B X138 at_137 rfl (pc' := 139) rfl ?_
                refine giload B X138 at_139 rfl (pc' := 141) rfl ?_
                refine giadd B X138 at_141 rfl (pc' := 142) rfl ?_
                refine giload B X138 at_142 rfl (pc' := 144) rfl ?_
                refine giadd B X138 at_144 rfl (pc' := 145) rfl ?_
                refine giload B X138 at_145 rfl (pc' := 147) rfl ?_
                refine giadd B X138 at_147 rfl (pc' := 148) rfl ?_
                refine gistore B X138 at_148 (Ls' := #[.val (.int p0), .val (.int p1), .val (.int p2), .val (.int p3), .val (.int p4), .val (.ref a81), .val (.int (0 : Int32)), .val (.int (1 : Int32)), .val (.int (f2 (0 : Int32) (0 : Int32) (1 : Int32) b0)), .val (.int (f2 (1 : Int32) (0 : Int32) (1 : Int32) b1)), .val (.int (f2 (2 : Int32) (0 : Int32) (1 : Int32) b2)), .val (.int (f2 (3 : Int32) (0 : Int32) (1 : Int32) b3)), .val (.int ((((f2 (0 : Int32) (0 : Int32) (1 : Int32) b0) + (f2 (1 : Int32) (0 : Int32) (1 : Int32) b1)) + (f2 (2 : Int32) (0 : Int32) (1 : Int32) b2)) + (f2 (3 : Int32) (0 : Int32) (1 : Int32) b3)))]) rfl (pc' := 150) rfl ?_
                have e_J : (oE (f2 (0 : Int32) (0 : Int32) (1 : Int32) b0) (f2 (1 : Int32) (0 : Int32) (1 : Int32) b1) (f2 (2 : Int32) (0 : Int32) (1 : Int32) b2) (f2 (3 : Int32) (0 : Int32) (1 : Int32) b3)) = ((((f2 (0 : Int32) (0 : Int32) (1 : Int32) b0) + (f2 (1 : Int32) (0 : Int32) (1 : Int32) b1)) + (f2 (2 : Int32) (0 : Int32) (1 : Int32) b2)) + (f2 (3 : Int32) (0 : Int32) (1 : Int32) b3)) := by rw [oE, if_neg c113_139, if_neg c118_140, if_neg c123_141, if_neg c128_142]
                rw [e_J] at J
                exact J _ X138
      intro T143 X144
      show Go p e below s _ _ _ _ _ T143 (mkF m 150 #[.val (.int p0), .val (.int p1), .val (.int p2), .val (.int p3), .val (.int p4), .val (.ref a81), .val (.int (0 : Int32)), .val (.int (1 : Int32)), .val (.int (f2 (0 : Int32) (0 : Int32) (1 : Int32) b0)), .val (.int (f2 (1 : Int32) (0 : Int32) (1 : Int32) b1)), .val (.int (f2 (2 : Int32) (0 : Int32) (1 : Int32) b2)), .val (.int (f2 (3 : Int32) (0 : Int32) (1 : Int32) b3)), .val (.int (oE (f2 (0 : Int32) (0 : Int32) (1 : Int32) b0) (f2 (1 : Int32) (0 : Int32) (1 : Int32) b1) (f2 (2 : Int32) (0 : Int32) (1 : Int32) b2) (f2 (3 : Int32) (0 : Int32) (1 : Int32) b3)))] [])
      refine gaload B X144 at_150 rfl rfl (pc' := 152) rfl ?_
      refine giload B X144 at_152 rfl (pc' := 154) rfl ?_
      refine giload B X144 at_154 rfl (pc' := 156) rfl ?_
      refine gcallS B X144 (hw _ (List.mem_of_getElem? (i := 8) rfl)) (hw _ (List.mem_of_getElem? (i := 9) rfl)) (hw _ (List.mem_of_getElem? (i := 10) rfl)) (hw _ (List.mem_of_getElem? (i := 11) rfl)) (by decide) (mt3_0 l Z a0 hw a81 (1 : Int32) b0 b1 b2 b3 h110 A113 (by decide)) pd___BII_I rfl (argsL := [(.ref a81), (.int (0 : Int32)), (.int (1 : Int32))]) (st := []) rfl rfl (W := 0) (Nat.le_of_eq rfl) (by decide) (by decide) (by decide) (by decide) (fun x q => nomatch q) at_156 rfl (pureG rfl rfl fun T145 X146 => ?_)
      refine giload B X146 at_159 rfl (pc' := 161) rfl ?_
      have c161_147 : (f3_0 (1 : Int32) b0 b1 b2 b3) = (oE (f2 (0 : Int32) (0 : Int32) (1 : Int32) b0) (f2 (1 : Int32) (0 : Int32) (1 : Int32) b1) (f2 (2 : Int32) (0 : Int32) (1 : Int32) b2) (f2 (3 : Int32) (0 : Int32) (1 : Int32) b3)) := own_fin01 b0 b1 b2 b3
      refine gicN B X146 at_161 (teq c161_147).2 (pc' := 164) rfl ?_
      refine giconst B X146 at_164 (v := (1 : Int32)) rfl (pc' := 165) rfl ?_
      refine ggoto B X146 (pc' := 169) at_165 (by decide) ?_
      exact gretN B X146 (z' := (1 : Int32)) (by simp) (rfl) at_169 (by decide) (by decide) (rfl)
    · skip
      refine gaload B X111 at_63 rfl rfl (pc' := 65) rfl ?_
      refine giconst B X111 at_65 (v := (0 : Int32)) rfl (pc' := 66) rfl ?_
      refine giload B X111 at_66 rfl (pc' := 68) rfl ?_
      refine giload B X111 at_68 rfl (pc' := 70) rfl ?_
      refine gcallS B X111 (hw _ (List.mem_of_getElem? (i := 5) rfl)) (hw _ (List.mem_of_getElem? (i := 6) rfl)) (hw _ (List.mem_of_getElem? (i := 3) rfl)) (hw _ (List.mem_of_getElem? (i := 7) rfl)) (by decide) (mt2 l Z a0 hw a81 (0 : Int32) (0 : Int32) (2 : Int32) [(.int b0), (.int b1), (.int b2), (.int b3)] b0 h110 A113 rfl (by decide) rfl) pd___BIII_I rfl (argsL := [(.ref a81), (.int (0 : Int32)), (.int (0 : Int32)), (.int (2 : Int32))]) (st := []) rfl rfl (W := 0) (Nat.le_of_eq rfl) (by decide) (by decide) (by decide) (by decide) (fun x q => nomatch q) at_70 rfl (pureG rfl rfl fun T148 X149 => ?_)
      refine gistore B X149 at_73 (Ls' := #[.val (.int p0), .val (.int p1), .val (.int p2), .val (.int p3), .val (.int p4), .val (.ref a81), .val (.int (0 : Int32)), .val (.int (2 : Int32)), .val (.int (f2 (0 : Int32) (0 : Int32) (2 : Int32) b0)), .unset, .unset, .unset, .unset]) rfl (pc' := 75) rfl ?_
      refine gaload B X149 at_75 rfl rfl (pc' := 77) rfl ?_
      refine giconst B X149 at_77 (v := (1 : Int32)) rfl (pc' := 78) rfl ?_
      refine giload B X149 at_78 rfl (pc' := 80) rfl ?_
      refine giload B X149 at_80 rfl (pc' := 82) rfl ?_
      refine gcallS B X149 (hw _ (List.mem_of_getElem? (i := 5) rfl)) (hw _ (List.mem_of_getElem? (i := 6) rfl)) (hw _ (List.mem_of_getElem? (i := 3) rfl)) (hw _ (List.mem_of_getElem? (i := 7) rfl)) (by decide) (mt2 l Z a0 hw a81 (1 : Int32) (0 : Int32) (2 : Int32) [(.int b0), (.int b1), (.int b2), (.int b3)] b1 h110 A113 rfl (by decide) rfl) pd___BIII_I rfl (argsL := [(.ref a81), (.int (1 : Int32)), (.int (0 : Int32)), (.int (2 : Int32))]) (st := []) rfl rfl (W := 0) (Nat.le_of_eq rfl) (by decide) (by decide) (by decide) (by decide) (fun x q => nomatch q) at_82 rfl (pureG rfl rfl fun T150 X151 => ?_)
      refine gistore B X151 at_85 (Ls' := #[.val (.int p0), .val (.int p1), .val (.int p2), .val (.int p3), .val (.int p4), .val (.ref a81), .val (.int (0 : Int32)), .val (.int (2 : Int32)), .val (.int (f2 (0 : Int32) (0 : Int32) (2 : Int32) b0)), .val (.int (f2 (1 : Int32) (0 : Int32) (2 : Int32) b1)), .unset, .unset, .unset]) rfl (pc' := 87) rfl ?_
      refine gaload B X151 at_87 rfl rfl (pc' := 89) rfl ?_
      refine giconst B X151 at_89 (v := (2 : Int32)) rfl (pc' := 90) rfl ?_
      refine giload B X151 at_90 rfl (pc' := 92) rfl ?_
      refine giload B X151 at_92 rfl (pc' := 94) rfl ?_
      refine gcallS B X151 (hw _ (List.mem_of_getElem? (i := 5) rfl)) (hw _ (List.mem_of_getElem? (i := 6) rfl)) (hw _ (List.mem_of_getElem? (i := 3) rfl)) (hw _ (List.mem_of_getElem? (i := 7) rfl)) (by decide) (mt2 l Z a0 hw a81 (2 : Int32) (0 : Int32) (2 : Int32) [(.int b0), (.int b1), (.int b2), (.int b3)] b2 h110 A113 rfl (by decide) rfl) pd___BIII_I rfl (argsL := [(.ref a81), (.int (2 : Int32)), (.int (0 : Int32)), (.int (2 : Int32))]) (st := []) rfl rfl (W := 0) (Nat.le_of_eq rfl) (by decide) (by decide) (by decide) (by decide) (fun x q => nomatch q) at_94 rfl (pureG rfl rfl fun T152 X153 => ?_)
      refine gistore B X153 at_97 (Ls' := #[.val (.int p0), .val (.int p1), .val (.int p2), .val (.int p3), .val (.int p4), .val (.ref a81), .val (.int (0 : Int32)), .val (.int (2 : Int32)), .val (.int (f2 (0 : Int32) (0 : Int32) (2 : Int32) b0)), .val (.int (f2 (1 : Int32) (0 : Int32) (2 : Int32) b1)), .val (.int (f2 (2 : Int32) (0 : Int32) (2 : Int32) b2)), .unset, .unset]) rfl (pc' := 99) rfl ?_
      refine gaload B X153 at_99 rfl rfl (pc' := 101) rfl ?_
      refine giconst B X153 at_101 (v := (3 : Int32)) rfl (pc' := 102) rfl ?_
      refine giload B X153 at_102 rfl (pc' := 104) rfl ?_
      refine giload B X153 at_104 rfl (pc' := 106) rfl ?_
      refine gcallS B X153 (hw _ (List.mem_of_getElem? (i := 5) rfl)) (hw _ (List.mem_of_getElem? (i := 6) rfl)) (hw _ (List.mem_of_getElem? (i := 3) rfl)) (hw _ (List.mem_of_getElem? (i := 7) rfl)) (by decide) (mt2 l Z a0 hw a81 (3 : Int32) (0 : Int32) (2 : Int32) [(.int b0), (.int b1), (.int b2), (.int b3)] b3 h110 A113 rfl (by decide) rfl) pd___BIII_I rfl (argsL := [(.ref a81), (.int (3 : Int32)), (.int (0 : Int32)), (.int (2 : Int32))]) (st := []) rfl rfl (W := 0) (Nat.le_of_eq rfl) (by decide) (by decide) (by decide) (by decide) (fun x q => nomatch q) at_106 rfl (pureG rfl rfl fun T154 X155 => ?_)
      refine gistore B X155 at_109 (Ls' := #[.val (.int p0), .val (.int p1), .val (.int p2), .val (.int p3), .val (.int p4), .val (.ref a81), .val (.int (0 : Int32)), .val (.int (2 : Int32)), .val (.int (f2 (0 : Int32) (0 : Int32) (2 : Int32) b0)), .val (.int (f2 (1 : Int32) (0 : Int32) (2 : Int32) b1)), .val (.int (f2 (2 : Int32) (0 : Int32) (2 : Int32) b2)), .val (.int (f2 (3 : Int32) (0 : Int32) (2 : Int32) b3)), .unset]) rfl (pc' := 111) rfl ?_
      refine joinG B X155 (F := fun z => (mkF m 150 #[.val (.int p0), .val (.int p1), .val (.int p2), .val (.int p3), .val (.int p4), .val (.ref a81), .val (.int (0 : Int32)), .val (.int (2 : Int32)), .val (.int (f2 (0 : Int32) (0 : Int32) (2 : Int32) b0)), .val (.int (f2 (1 : Int32) (0 : Int32) (2 : Int32) b1)), .val (.int (f2 (2 : Int32) (0 : Int32) (2 : Int32) b2)), .val (.int (f2 (3 : Int32) (0 : Int32) (2 : Int32) b3)), .val (.int z)] [])) (r := (oE (f2 (0 : Int32) (0 : Int32) (2 : Int32) b0) (f2 (1 : Int32) (0 : Int32) (2 : Int32) b1) (f2 (2 : Int32) (0 : Int32) (2 : Int32) b2) (f2 (3 : Int32) (0 : Int32) (2 : Int32) b3))) (fun J => ?_) ?_
      · refine giload B X155 at_111 rfl (pc' := 113) rfl ?_
        by_cases c113_156 : (f2 (0 : Int32) (0 : Int32) (2 : Int32) b0) < (0 : Int32)
        · refine gifY B X155 (pc' := 131) at_113 ((if0 _ _).trans (tlt c113_156).1) (by decide) ?_
          refine giconst B X155 at_131 (v := (-1 : Int32)) rfl (pc' := 132) rfl ?_
          refine gistore B X155 at_132 (Ls' := #[.val (.int p0), .val (.int p1), .val (.int p2), .val (.int p3), .val (.int p4), .val (.ref a81), .val (.int (0 : Int32)), .val (.int (2 : Int32)), .val (.int (f2 (0 : Int32) (0 : Int32) (2 : Int32) b0)), .val (.int (f2 (1 : Int32) (0 : Int32) (2 : Int32) b1)), .val (.int (f2 (2 : Int32) (0 : Int32) (2 : Int32) b2)), .val (.int (f2 (3 : Int32) (0 : Int32) (2 : Int32) b3)), .val (.int (-1 : Int32))]) rfl (pc' := 134) rfl ?_
          refine ggoto B X155 (pc' := 150) at_134 (by decide) ?_
          have e_J : (oE (f2 (0 : Int32) (0 : Int32) (2 : Int32) b0) (f2 (1 : Int32) (0 : Int32) (2 : Int32) b1) (f2 (2 : Int32) (0 : Int32) (2 : Int32) b2) (f2 (3 : Int32) (0 : Int32) (2 : Int32) b3)) = (-1 : Int32) := by rw [oE, if_pos c113_156]
          rw [e_J] at J
          exact J _ X155
        · refine gifN B X155 at_113 ((if0 _ _).trans (flt c113_156).1) (pc' := 116) rfl ?_
          refine giload B X155 at_116 rfl (pc' := 118) rfl ?_
          by_cases c118_157 : (f2 (1 : Int32) (0 : Int32) (2 : Int32) b1) < (0 : Int32)
          · refine gifY B X155 (pc' := 131) at_118 ((if0 _ _).trans (tlt c118_157).1) (by decide) ?_
            refine giconst B X155 at_131 (v := (-1 : Int32)) rfl (pc' := 132) rfl ?_
            refine gistore B X155 at_132 (Ls' := #[.val (.int p0), .val (.int p1), .val (.int p2), .val (.int p3), .val (.int p4), .val (.ref a81), .val (.int (0 : Int32)), .val (.int (2 : Int32)), .val (.int (f2 (0 : Int32) (0 : Int32) (2 : Int32) b0)), .val (.int (f2 (1 : Int32) (0 : Int32) (2 : Int32) b1)), .val (.int (f2 (2 : Int32) (0 : Int32) (2 : Int32) b2)), .val (.int (f2 (3 : Int32) (0 : Int32) (2 : Int32) b3)), .val (.int (-1 : Int32))]) rfl (pc' := 134) rfl ?_
            refine ggoto B X155 (pc' := 150) at_134 (by decide) ?_
            have e_J : (oE (f2 (0 : Int32) (0 : Int32) (2 : Int32) b0) (f2 (1 : Int32) (0 : Int32) (2 : Int32) b1) (f2 (2 : Int32) (0 : Int32) (2 : Int32) b2) (f2 (3 : Int32) (0 : Int32) (2 : Int32) b3)) = (-1 : Int32) := by rw [oE, if_neg c113_156, if_pos c118_157]
            rw [e_J] at J
            exact J _ X155
          · refine gifN B X155 at_118 ((if0 _ _).trans (flt c118_157).1) (pc' := 121) rfl ?_
            refine giload B X155 at_121 rfl (pc' := 123) rfl ?_
            by_cases c123_158 : (f2 (2 : Int32) (0 : Int32) (2 : Int32) b2) < (0 : Int32)
            · refine gifY B X155 (pc' := 131) at_123 ((if0 _ _).trans (tlt c123_158).1) (by decide) ?_
              refine giconst B X155 at_131 (v := (-1 : Int32)) rfl (pc' := 132) rfl ?_
              refine gistore B X155 at_132 (Ls' := #[.val (.int p0), .val (.int p1), .val (.int p2), .val (.int p3), .val (.int p4), .val (.ref a81), .val (.int (0 : Int32)), .val (.int (2 : Int32)), .val (.int (f2 (0 : Int32) (0 : Int32) (2 : Int32) b0)), .val (.int (f2 (1 : Int32) (0 : Int32) (2 : Int32) b1)), .val (.int (f2 (2 : Int32) (0 : Int32) (2 : Int32) b2)), .val (.int (f2 (3 : Int32) (0 : Int32) (2 : Int32) b3)), .val (.int (-1 : Int32))]) rfl (pc' := 134) rfl ?_
              refine ggoto B X155 (pc' := 150) at_134 (by decide) ?_
              have e_J : (oE (f2 (0 : Int32) (0 : Int32) (2 : Int32) b0) (f2 (1 : Int32) (0 : Int32) (2 : Int32) b1) (f2 (2 : Int32) (0 : Int32) (2 : Int32) b2) (f2 (3 : Int32) (0 : Int32) (2 : Int32) b3)) = (-1 : Int32) := by rw [oE, if_neg c113_156, if_neg c118_157, if_pos c123_158]
              rw [e_J] at J
              exact J _ X155
            · refine gifN B X155 at_123 ((if0 _ _).trans (flt c123_158).1) (pc' := 126) rfl ?_
              refine giload B X155 at_126 rfl (pc' := 128) rfl ?_
              by_cases c128_159 : (f2 (3 : Int32) (0 : Int32) (2 : Int32) b3) < (0 : Int32)
              · refine gifN B X155 at_128 ((if0 _ _).trans (tlt c128_159).2.1) (pc' := 131) rfl ?_
                refine giconst B X155 at_131 (v := (-1 : Int32)) rfl (pc' := 132) rfl ?_
                refine gistore B X155 at_132 (Ls' := #[.val (.int p0), .val (.int p1), .val (.int p2), .val (.int p3), .val (.int p4), .val (.ref a81), .val (.int (0 : Int32)), .val (.int (2 : Int32)), .val (.int (f2 (0 : Int32) (0 : Int32) (2 : Int32) b0)), .val (.int (f2 (1 : Int32) (0 : Int32) (2 : Int32) b1)), .val (.int (f2 (2 : Int32) (0 : Int32) (2 : Int32) b2)), .val (.int (f2 (3 : Int32) (0 : Int32) (2 : Int32) b3)), .val (.int (-1 : Int32))]) rfl (pc' := 134) rfl ?_
                refine ggoto B X155 (pc' := 150) at_134 (by decide) ?_
                have e_J : (oE (f2 (0 : Int32) (0 : Int32) (2 : Int32) b0) (f2 (1 : Int32) (0 : Int32) (2 : Int32) b1) (f2 (2 : Int32) (0 : Int32) (2 : Int32) b2) (f2 (3 : Int32) (0 : Int32) (2 : Int32) b3)) = (-1 : Int32) := by rw [oE, if_neg c113_156, if_neg c118_157, if_neg c123_158, if_pos c128_159]
                rw [e_J] at J
                exact J _ X155
              · refine gifY B X155 (pc' := 137) at_128 ((if0 _ _).trans (flt c128_159).2.1) (by decide) ?_
                refine giload B X155 at_137 rfl (pc' := 139) rfl ?_
                refine giload B X155 at_139 rfl (pc' := 141) rfl ?_
                refine giadd B X155 at_141 rfl (pc' := 142) rfl ?_
                refine giload B X155 at_142 rfl (pc' := 144) rfl ?_
                refine giadd B X155 at_144 rfl (pc' := 145) rfl ?_
                refine giload B X155 at_145 rfl (pc' := 147) rfl ?_
                refine giadd B X155 at_147 rfl (pc' := 148) rfl ?_
                refine gistore B X155 at_148 (Ls' := #[.val (.int p0), .val (.int p1), .val (.int p2), .val (.int p3), .val (.int p4), .val (.ref a81), .val (.int (0 : Int32)), .val (.int (2 : Int32)), .val (.int (f2 (0 : Int32) (0 : Int32) (2 : Int32) b0)), .val (.int (f2 (1 : Int32) (0 : Int32) (2 : Int32) b1)), .val (.int (f2 (2 : Int32) (0 : Int32) (2 : Int32) b2)), .val (.int (f2 (3 : Int32) (0 : Int32) (2 : Int32) b3)), .val (.int ((((f2 (0 : Int32) (0 : Int32) (2 : Int32) b0) + (f2 (1 : Int32) (0 : Int32) (2 : Int32) b1)) + (f2 (2 : Int32) (0 : Int32) (2 : Int32) b2)) + (f2 (3 : Int32) (0 : Int32) (2 : Int32) b3)))]) rfl (pc' := 150) rfl ?_
                have e_J : (oE (f2 (0 : Int32) (0 : Int32) (2 : Int32) b0) (f2 (1 : Int32) (0 : Int32) (2 : Int32) b1) (f2 (2 : Int32) (0 : Int32) (2 : Int32) b2) (f2 (3 : Int32) (0 : Int32) (2 : Int32) b3)) = ((((f2 (0 : Int32) (0 : Int32) (2 : Int32) b0) + (f2 (1 : Int32) (0 : Int32) (2 : Int32) b1)) + (f2 (2 : Int32) (0 : Int32) (2 : Int32) b2)) + (f2 (3 : Int32) (0 : Int32) (2 : Int32) b3)) := by rw [oE, if_neg c113_156, if_neg c118_157, if_neg c123_158, if_neg c128_159]
                rw [e_J] at J
                exact J _ X155
      intro T160 X161
      show Go p e below s _ _ _ _ _ T160 (mkF m 150 #[.val (.int p0), .val (.int p1), .val (.int p2), .val (.int p3), .val (.int p4), .val (.ref a81), .val (.int (0 : Int32)), .val (.int (2 : Int32)), .val (.int (f2 (0 : Int32) (0 : Int32) (2 : Int32) b0)), .val (.int (f2 (1 : Int32) (0 : Int32) (2 : Int32) b1)), .val (.int (f2 (2 : Int32) (0 : Int32) (2 : Int32) b2)), .val (.int (f2 (3 : Int32) (0 : Int32) (2 : Int32) b3)), .val (.int (oE (f2 (0 : Int32) (0 : Int32) (2 : Int32) b0) (f2 (1 : Int32) (0 : Int32) (2 : Int32) b1) (f2 (2 : Int32) (0 : Int32) (2 : Int32) b2) (f2 (3 : Int32) (0 : Int32) (2 : Int32) b3)))] [])
      refine gaload B X161 at_150 rfl rfl (pc' := 152) rfl ?_
      refine giload B X161 at_152 rfl (pc' := 154) rfl ?_
      refine giload B X161 at_154 rfl (pc' := 156) rfl ?_
      refine gcallS B X161 (hw _ (List.mem_of_getElem? (i := 8) rfl)) (hw _ (List.mem_of_getElem? (i := 9) rfl)) (hw _ (List.mem_of_getElem? (i := 10) rfl)) (hw _ (List.mem_of_getElem? (i := 11) rfl)) (by decide) (mt3_0 l Z a0 hw a81 (2 : Int32) b0 b1 b2 b3 h110 A113 (by decide)) pd___BII_I rfl (argsL := [(.ref a81), (.int (0 : Int32)), (.int (2 : Int32))]) (st := []) rfl rfl (W := 0) (Nat.le_of_eq rfl) (by decide) (by decide) (by decide) (by decide) (fun x q => nomatch q) at_156 rfl (pureG rfl rfl fun T162 X163 => ?_)
      refine giload B X163 at_159 rfl (pc' := 161) rfl ?_
      have c161_164 : (f3_0 (2 : Int32) b0 b1 b2 b3) = (oE (f2 (0 : Int32) (0 : Int32) (2 : Int32) b0) (f2 (1 : Int32) (0 : Int32) (2 : Int32) b1) (f2 (2 : Int32) (0 : Int32) (2 : Int32) b2) (f2 (3 : Int32) (0 : Int32) (2 : Int32) b3)) := own_fin02 b0 b1 b2 b3
      refine gicN B X163 at_161 (teq c161_164).2 (pc' := 164) rfl ?_
      refine giconst B X163 at_164 (v := (1 : Int32)) rfl (pc' := 165) rfl ?_
      refine ggoto B X163 (pc' := 169) at_165 (by decide) ?_
      exact gretN B X163 (z' := (1 : Int32)) (by simp) (rfl) at_169 (by decide) (by decide) (rfl)
    · skip
      refine gaload B X111 at_63 rfl rfl (pc' := 65) rfl ?_
      refine giconst B X111 at_65 (v := (0 : Int32)) rfl (pc' := 66) rfl ?_
      refine giload B X111 at_66 rfl (pc' := 68) rfl ?_
      refine giload B X111 at_68 rfl (pc' := 70) rfl ?_
      refine gcallS B X111 (hw _ (List.mem_of_getElem? (i := 5) rfl)) (hw _ (List.mem_of_getElem? (i := 6) rfl)) (hw _ (List.mem_of_getElem? (i := 3) rfl)) (hw _ (List.mem_of_getElem? (i := 7) rfl)) (by decide) (mt2 l Z a0 hw a81 (0 : Int32) (0 : Int32) (3 : Int32) [(.int b0), (.int b1), (.int b2), (.int b3)] b0 h110 A113 rfl (by decide) rfl) pd___BIII_I rfl (argsL := [(.ref a81), (.int (0 : Int32)), (.int (0 : Int32)), (.int (3 : Int32))]) (st := []) rfl rfl (W := 0) (Nat.le_of_eq rfl) (by decide) (by decide) (by decide) (by decide) (fun x q => nomatch q) at_70 rfl (pureG rfl rfl fun T165 X166 => ?_)
      refine gistore B X166 at_73 (Ls' := #[.val (.int p0), .val (.int p1), .val (.int p2), .val (.int p3), .val (.int p4), .val (.ref a81), .val (.int (0 : Int32)), .val (.int (3 : Int32)), .val (.int (f2 (0 : Int32) (0 : Int32) (3 : Int32) b0)), .unset, .unset, .unset, .unset]) rfl (pc' := 75) rfl ?_
      refine gaload B X166 at_75 rfl rfl (pc' := 77) rfl ?_
      refine giconst B X166 at_77 (v := (1 : Int32)) rfl (pc' := 78) rfl ?_
      refine giload B X166 at_78 rfl (pc' := 80) rfl ?_
      refine giload B X166 at_80 rfl (pc' := 82) rfl ?_
      refine gcallS B X166 (hw _ (List.mem_of_getElem? (i := 5) rfl)) (hw _ (List.mem_of_getElem? (i := 6) rfl)) (hw _ (List.mem_of_getElem? (i := 3) rfl)) (hw _ (List.mem_of_getElem? (i := 7) rfl)) (by decide) (mt2 l Z a0 hw a81 (1 : Int32) (0 : Int32) (3 : Int32) [(.int b0), (.int b1), (.int b2), (.int b3)] b1 h110 A113 rfl (by decide) rfl) pd___BIII_I rfl (argsL := [(.ref a81), (.int (1 : Int32)), (.int (0 : Int32)), (.int (3 : Int32))]) (st := []) rfl rfl (W := 0) (Nat.le_of_eq rfl) (by decide) (by decide) (by decide) (by decide) (fun x q => nomatch q) at_82 rfl (pureG rfl rfl fun T167 X168 => ?_)
      refine gistore B X168 at_85 (Ls' := #[.val (.int p0), .val (.int p1), .val (.int p2), .val (.int p3), .val (.int p4), .val (.ref a81), .val (.int (0 : Int32)), .val (.int (3 : Int32)), .val (.int (f2 (0 : Int32) (0 : Int32) (3 : Int32) b0)), .val (.int (f2 (1 : Int32) (0 : Int32) (3 : Int32) b1)), .unset, .unset, .unset]) rfl (pc' := 87) rfl ?_
      refine gaload B X168 at_87 rfl rfl (pc' := 89) rfl ?_
      refine giconst B X168 at_89 (v := (2 : Int32)) rfl (pc' := 90) rfl ?_
      refine giload B X168 at_90 rfl (pc' := 92) rfl ?_
      refine giload B X168 at_92 rfl (pc' := 94) rfl ?_
      refine gcallS B X168 (hw _ (List.mem_of_getElem? (i := 5) rfl)) (hw _ (List.mem_of_getElem? (i := 6) rfl)) (hw _ (List.mem_of_getElem? (i := 3) rfl)) (hw _ (List.mem_of_getElem? (i := 7) rfl)) (by decide) (mt2 l Z a0 hw a81 (2 : Int32) (0 : Int32) (3 : Int32) [(.int b0), (.int b1), (.int b2), (.int b3)] b2 h110 A113 rfl (by decide) rfl) pd___BIII_I rfl (argsL := [(.ref a81), (.int (2 : Int32)), (.int (0 : Int32)), (.int (3 : Int32))]) (st := []) rfl rfl (W := 0) (Nat.le_of_eq rfl) (by decide) (by decide) (by decide) (by decide) (fun x q => nomatch q) at_94 rfl (pureG rfl rfl fun T169 X170 => ?_)
      refine gistore B X170 at_97 (Ls' := #[.val (.int p0), .val (.int p1), .val (.int p2), .val (.int p3), .val (.int p4), .val (.ref a81), .val (.int (0 : Int32)), .val (.int (3 : Int32)), .val (.int (f2 (0 : Int32) (0 : Int32) (3 : Int32) b0)), .val (.int (f2 (1 : Int32) (0 : Int32) (3 : Int32) b1)), .val (.int (f2 (2 : Int32) (0 : Int32) (3 : Int32) b2)), .unset, .unset]) rfl (pc' := 99) rfl ?_
      refine gaload B X170 at_99 rfl rfl (pc' := 101) rfl ?_
      refine giconst B X170 at_101 (v := (3 : Int32)) rfl (pc' := 102) rfl ?_
      refine giload B X170 at_102 rfl (pc' := 104) rfl ?_
      refine giload B X170 at_104 rfl (pc' := 106) rfl ?_
      refine gcallS B X170 (hw _ (List.mem_of_getElem? (i := 5) rfl)) (hw _ (List.mem_of_getElem? (i := 6) rfl)) (hw _ (List.mem_of_getElem? (i := 3) rfl)) (hw _ (List.mem_of_getElem? (i := 7) rfl)) (by decide) (mt2 l Z a0 hw a81 (3 : Int32) (0 : Int32) (3 : Int32) [(.int b0), (.int b1), (.int b2), (.int b3)] b3 h110 A113 rfl (by decide) rfl) pd___BIII_I rfl (argsL := [(.ref a81), (.int (3 : Int32)), (.int (0 : Int32)), (.int (3 : Int32))]) (st := []) rfl rfl (W := 0) (Nat.le_of_eq rfl) (by decide) (by decide) (by decide) (by decide) (fun x q => nomatch q) at_106 rfl (pureG rfl rfl fun T171 X172 => ?_)
      refine gistore B X172 at_109 (Ls' := #[.val (.int p0), .val (.int p1), .val (.int p2), .val (.int p3), .val (.int p4), .val (.ref a81), .val (.int (0 : Int32)), .val (.int (3 : Int32)), .val (.int (f2 (0 : Int32) (0 : Int32) (3 : Int32) b0)), .val (.int (f2 (1 : Int32) (0 : Int32) (3 : Int32) b1)), .val (.int (f2 (2 : Int32) (0 : Int32) (3 : Int32) b2)), .val (.int (f2 (3 : Int32) (0 : Int32) (3 : Int32) b3)), .unset]) rfl (pc' := 111) rfl ?_
      refine joinG B X172 (F := fun z => (mkF m 150 #[.val (.int p0), .val (.int p1), .val (.int p2), .val (.int p3), .val (.int p4), .val (.ref a81), .val (.int (0 : Int32)), .val (.int (3 : Int32)), .val (.int (f2 (0 : Int32) (0 : Int32) (3 : Int32) b0)), .val (.int (f2 (1 : Int32) (0 : Int32) (3 : Int32) b1)), .val (.int (f2 (2 : Int32) (0 : Int32) (3 : Int32) b2)), .val (.int (f2 (3 : Int32) (0 : Int32) (3 : Int32) b3)), .val (.int z)] [])) (r := (oE (f2 (0 : Int32) (0 : Int32) (3 : Int32) b0) (f2 (1 : Int32) (0 : Int32) (3 : Int32) b1) (f2 (2 : Int32) (0 : Int32) (3 : Int32) b2) (f2 (3 : Int32) (0 : Int32) (3 : Int32) b3))) (fun J => ?_) ?_
      · refine giload B X172 at_111 rfl (pc' := 113) rfl ?_
        by_cases c113_173 : (f2 (0 : Int32) (0 : Int32) (3 : Int32) b0) < (0 : Int32)
        · refine gifY B X172 (pc' := 131) at_113 ((if0 _ _).trans (tlt c113_173).1) (by decide) ?_
          refine giconst B X172 at_131 (v := (-1 : Int32)) rfl (pc' := 132) rfl ?_
          refine gistore B X172 at_132 (Ls' := #[.val (.int p0), .val (.int p1), .val (.int p2), .val (.int p3), .val (.int p4), .val (.ref a81), .val (.int (0 : Int32)), .val (.int (3 : Int32)), .val (.int (f2 (0 : Int32) (0 : Int32) (3 : Int32) b0)), .val (.int (f2 (1 : Int32) (0 : Int32) (3 : Int32) b1)), .val (.int (f2 (2 : Int32) (0 : Int32) (3 : Int32) b2)), .val (.int (f2 (3 : Int32) (0 : Int32) (3 : Int32) b3)), .val (.int (-1 : Int32))]) rfl (pc' := 134) rfl ?_
          refine ggoto B X172 (pc' := 150) at_134 (by decide) ?_
          have e_J : (oE (f2 (0 : Int32) (0 : Int32) (3 : Int32) b0) (f2 (1 : Int32) (0 : Int32) (3 : Int32) b1) (f2 (2 : Int32) (0 : Int32) (3 : Int32) b2) (f2 (3 : Int32) (0 : Int32) (3 : Int32) b3)) = (-1 : Int32) := by rw [oE, if_pos c113_173]
          rw [e_J] at J
          exact J _ X172
        · refine gifN B X172 at_113 ((if0 _ _).trans (flt c113_173).1) (pc' := 116) rfl ?_
          refine giload B X172 at_116 rfl (pc' := 118) rfl ?_
          by_cases c118_174 : (f2 (1 : Int32) (0 : Int32) (3 : Int32) b1) < (0 : Int32)
          · refine gifY B X172 (pc' := 131) at_118 ((if0 _ _).trans (tlt c118_174).1) (by decide) ?_
            refine giconst B X172 at_131 (v := (-1 : Int32)) rfl (pc' := 132) rfl ?_
            refine gistore B X172 at_132 (Ls' := #[.val (.int p0), .val (.int p1), .val (.int p2), .val (.int p3), .val (.int p4), .val (.ref a81), .val (.int (0 : Int32)), .val (.int (3 : Int32)), .val (.int (f2 (0 : Int32) (0 : Int32) (3 : Int32) b0)), .val (.int (f2 (1 : Int32) (0 : Int32) (3 : Int32) b1)), .val (.int (f2 (2 : Int32) (0 : Int32) (3 : Int32) b2)), .val (.int (f2 (3 : Int32) (0 : Int32) (3 : Int32) b3)), .val (.int (-1 : Int32))]) rfl (pc' := 134) rfl ?_
            refine ggoto B X172 (pc' := 150) at_134 (by decide) ?_
            have e_J : (oE (f2 (0 : Int32) (0 : Int32) (3 : Int32) b0) (f2 (1 : Int32) (0 : Int32) (3 : Int32) b1) (f2 (2 : Int32) (0 : Int32) (3 : Int32) b2) (f2 (3 : Int32) (0 : Int32) (3 : Int32) b3)) = (-1 : Int32) := by rw [oE, if_neg c113_173, if_pos c118_174]
            rw [e_J] at J
            exact J _ X172
          · refine gifN B X172 at_118 ((if0 _ _).trans (flt c118_174).1) (pc' := 121) rfl ?_
            refine giload B X172 at_121 rfl (pc' := 123) rfl ?_
            by_cases c123_175 : (f2 (2 : Int32) (0 : Int32) (3 : Int32) b2) < (0 : Int32)
            · refine gifY B X172 (pc' := 131) at_123 ((if0 _ _).trans (tlt c123_175).1) (by decide) ?_
              refine giconst B X172 at_131 (v := (-1 : Int32)) rfl (pc' := 132) rfl ?_
              refine gistore B X172 at_132 (Ls' := #[.val (.int p0), .val (.int p1), .val (.int p2), .val (.int p3), .val (.int p4), .val (.ref a81), .val (.int (0 : Int32)), .val (.int (3 : Int32)), .val (.int (f2 (0 : Int32) (0 : Int32) (3 : Int32) b0)), .val (.int (f2 (1 : Int32) (0 : Int32) (3 : Int32) b1)), .val (.int (f2 (2 : Int32) (0 : Int32) (3 : Int32) b2)), .val (.int (f2 (3 : Int32) (0 : Int32) (3 : Int32) b3)), .val (.int (-1 : Int32))]) rfl (pc' := 134) rfl ?_
              refine ggoto B X172 (pc' := 150) at_134 (by decide) ?_
              have e_J : (oE (f2 (0 : Int32) (0 : Int32) (3 : Int32) b0) (f2 (1 : Int32) (0 : Int32) (3 : Int32) b1) (f2 (2 : Int32) (0 : Int32) (3 : Int32) b2) (f2 (3 : Int32) (0 : Int32) (3 : Int32) b3)) = (-1 : Int32) := by rw [oE, if_neg c113_173, if_neg c118_174, if_pos c123_175]
              rw [e_J] at J
              exact J _ X172
            · refine gifN B X172 at_123 ((if0 _ _).trans (flt c123_175).1) (pc' := 126) rfl ?_
              refine giload B X172 at_126 rfl (pc' := 128) rfl ?_
              by_cases c128_176 : (f2 (3 : Int32) (0 : Int32) (3 : Int32) b3) < (0 : Int32)
              · refine gifN B X172 at_128 ((if0 _ _).trans (tlt c128_176).2.1) (pc' := 131) rfl ?_
                refine giconst B X172 at_131 (v := (-1 : Int32)) rfl (pc' := 132) rfl ?_
                refine gistore B X172 at_132 (Ls' := #[.val (.int p0), .val (.int p1), .val (.int p2), .val (.int p3), .val (.int p4), .val (.ref a81), .val (.int (0 : Int32)), .val (.int (3 : Int32)), .val (.int (f2 (0 : Int32) (0 : Int32) (3 : Int32) b0)), .val (.int (f2 (1 : Int32) (0 : Int32) (3 : Int32) b1)), .val (.int (f2 (2 : Int32) (0 : Int32) (3 : Int32) b2)), .val (.int (f2 (3 : Int32) (0 : Int32) (3 : Int32) b3)), .val (.int (-1 : Int32))]) rfl (pc' := 134) rfl ?_
                refine ggoto B X172 (pc' := 150) at_134 (by decide) ?_
                have e_J : (oE (f2 (0 : Int32) (0 : Int32) (3 : Int32) b0) (f2 (1 : Int32) (0 : Int32) (3 : Int32) b1) (f2 (2 : Int32) (0 : Int32) (3 : Int32) b2) (f2 (3 : Int32) (0 : Int32) (3 : Int32) b3)) = (-1 : Int32) := by rw [oE, if_neg c113_173, if_neg c118_174, if_neg c123_175, if_pos c128_176]
                rw [e_J] at J
                exact J _ X172
              · refine gifY B X172 (pc' := 137) at_128 ((if0 _ _).trans (flt c128_176).2.1) (by decide) ?_
                refine giload B X172 at_137 rfl (pc' := 139) rfl ?_
                refine giload B X172 at_139 rfl (pc' := 141) rfl ?_
                refine giadd B X172 at_141 rfl (pc' := 142) rfl ?_
                refine giload B X172 at_142 rfl (pc' := 144) rfl ?_
                refine giadd B X172 at_144 rfl (pc' := 145) rfl ?_
                refine giload B X172 at_145 rfl (pc' := 147) rfl ?_
                refine giadd B X172 at_147 rfl (pc' := 148) rfl ?_
                refine gistore B X172 at_148 (Ls' := #[.val (.int p0), .val (.int p1), .val (.int p2), .val (.int p3), .val (.int p4), .val (.ref a81), .val (.int (0 : Int32)), .val (.int (3 : Int32)), .val (.int (f2 (0 : Int32) (0 : Int32) (3 : Int32) b0)), .val (.int (f2 (1 : Int32) (0 : Int32) (3 : Int32) b1)), .val (.int (f2 (2 : Int32) (0 : Int32) (3 : Int32) b2)), .val (.int (f2 (3 : Int32) (0 : Int32) (3 : Int32) b3)), .val (.int ((((f2 (0 : Int32) (0 : Int32) (3 : Int32) b0) + (f2 (1 : Int32) (0 : Int32) (3 : Int32) b1)) + (f2 (2 : Int32) (0 : Int32) (3 : Int32) b2)) + (f2 (3 : Int32) (0 : Int32) (3 : Int32) b3)))]) rfl (pc' := 150) rfl ?_
                have e_J : (oE (f2 (0 : Int32) (0 : Int32) (3 : Int32) b0) (f2 (1 : Int32) (0 : Int32) (3 : Int32) b1) (f2 (2 : Int32) (0 : Int32) (3 : Int32) b2) (f2 (3 : Int32) (0 : Int32) (3 : Int32) b3)) = ((((f2 (0 : Int32) (0 : Int32) (3 : Int32) b0) + (f2 (1 : Int32) (0 : Int32) (3 : Int32) b1)) + (f2 (2 : Int32) (0 : Int32) (3 : Int32) b2)) + (f2 (3 : Int32) (0 : Int32) (3 : Int32) b3)) := by rw [oE, if_neg c113_173, if_neg c118_174, if_neg c123_175, if_neg c128_176]
                rw [e_J] at J
                exact J _ X172
      intro T177 X178
      show Go p e below s _ _ _ _ _ T177 (mkF m 150 #[.val (.int p0), .val (.int p1), .val (.int p2), .val (.int p3), .val (.int p4), .val (.ref a81), .val (.int (0 : Int32)), .val (.int (3 : Int32)), .val (.int (f2 (0 : Int32) (0 : Int32) (3 : Int32) b0)), .val (.int (f2 (1 : Int32) (0 : Int32) (3 : Int32) b1)), .val (.int (f2 (2 : Int32) (0 : Int32) (3 : Int32) b2)), .val (.int (f2 (3 : Int32) (0 : Int32) (3 : Int32) b3)), .val (.int (oE (f2 (0 : Int32) (0 : Int32) (3 : Int32) b0) (f2 (1 : Int32) (0 : Int32) (3 : Int32) b1) (f2 (2 : Int32) (0 : Int32) (3 : Int32) b2) (f2 (3 : Int32) (0 : Int32) (3 : Int32) b3)))] [])
      refine gaload B X178 at_150 rfl rfl (pc' := 152) rfl ?_
      refine giload B X178 at_152 rfl (pc' := 154) rfl ?_
      refine giload B X178 at_154 rfl (pc' := 156) rfl ?_
      refine gcallS B X178 (hw _ (List.mem_of_getElem? (i := 8) rfl)) (hw _ (List.mem_of_getElem? (i := 9) rfl)) (hw _ (List.mem_of_getElem? (i := 10) rfl)) (hw _ (List.mem_of_getElem? (i := 11) rfl)) (by decide) (mt3_0 l Z a0 hw a81 (3 : Int32) b0 b1 b2 b3 h110 A113 (by decide)) pd___BII_I rfl (argsL := [(.ref a81), (.int (0 : Int32)), (.int (3 : Int32))]) (st := []) rfl rfl (W := 0) (Nat.le_of_eq rfl) (by decide) (by decide) (by decide) (by decide) (fun x q => nomatch q) at_156 rfl (pureG rfl rfl fun T179 X180 => ?_)
      refine giload B X180 at_159 rfl (pc' := 161) rfl ?_
      have c161_181 : (f3_0 (3 : Int32) b0 b1 b2 b3) = (oE (f2 (0 : Int32) (0 : Int32) (3 : Int32) b0) (f2 (1 : Int32) (0 : Int32) (3 : Int32) b1) (f2 (2 : Int32) (0 : Int32) (3 : Int32) b2) (f2 (3 : Int32) (0 : Int32) (3 : Int32) b3)) := own_fin03 b0 b1 b2 b3
      refine gicN B X180 at_161 (teq c161_181).2 (pc' := 164) rfl ?_
      refine giconst B X180 at_164 (v := (1 : Int32)) rfl (pc' := 165) rfl ?_
      refine ggoto B X180 (pc' := 169) at_165 (by decide) ?_
      exact gretN B X180 (z' := (1 : Int32)) (by simp) (rfl) at_169 (by decide) (by decide) (rfl)
    · skip
      refine gaload B X111 at_63 rfl rfl (pc' := 65) rfl ?_
      refine giconst B X111 at_65 (v := (0 : Int32)) rfl (pc' := 66) rfl ?_
      refine giload B X111 at_66 rfl (pc' := 68) rfl ?_
      refine giload B X111 at_68 rfl (pc' := 70) rfl ?_
      refine gcallS B X111 (hw _ (List.mem_of_getElem? (i := 5) rfl)) (hw _ (List.mem_of_getElem? (i := 6) rfl)) (hw _ (List.mem_of_getElem? (i := 3) rfl)) (hw _ (List.mem_of_getElem? (i := 7) rfl)) (by decide) (mt2 l Z a0 hw a81 (0 : Int32) (0 : Int32) (4 : Int32) [(.int b0), (.int b1), (.int b2), (.int b3)] b0 h110 A113 rfl (by decide) rfl) pd___BIII_I rfl (argsL := [(.ref a81), (.int (0 : Int32)), (.int (0 : Int32)), (.int (4 : Int32))]) (st := []) rfl rfl (W := 0) (Nat.le_of_eq rfl) (by decide) (by decide) (by decide) (by decide) (fun x q => nomatch q) at_70 rfl (pureG rfl rfl fun T182 X183 => ?_)
      refine gistore B X183 at_73 (Ls' := #[.val (.int p0), .val (.int p1), .val (.int p2), .val (.int p3), .val (.int p4), .val (.ref a81), .val (.int (0 : Int32)), .val (.int (4 : Int32)), .val (.int (f2 (0 : Int32) (0 : Int32) (4 : Int32) b0)), .unset, .unset, .unset, .unset]) rfl (pc' := 75) rfl ?_
      refine gaload B X183 at_75 rfl rfl (pc' := 77) rfl ?_
      refine giconst B X183 at_77 (v := (1 : Int32)) rfl (pc' := 78) rfl ?_
      refine giload B X183 at_78 rfl (pc' := 80) rfl ?_
      refine giload B X183 at_80 rfl (pc' := 82) rfl ?_
      refine gcallS B X183 (hw _ (List.mem_of_getElem? (i := 5) rfl)) (hw _ (List.mem_of_getElem? (i := 6) rfl)) (hw _ (List.mem_of_getElem? (i := 3) rfl)) (hw _ (List.mem_of_getElem? (i := 7) rfl)) (by decide) (mt2 l Z a0 hw a81 (1 : Int32) (0 : Int32) (4 : Int32) [(.int b0), (.int b1), (.int b2), (.int b3)] b1 h110 A113 rfl (by decide) rfl) pd___BIII_I rfl (argsL := [(.ref a81), (.int (1 : Int32)), (.int (0 : Int32)), (.int (4 : Int32))]) (st := []) rfl rfl (W := 0) (Nat.le_of_eq rfl) (by decide) (by decide) (by decide) (by decide) (fun x q => nomatch q) at_82 rfl (pureG rfl rfl fun T184 X185 => ?_)
      refine gistore B X185 at_85 (Ls' := #[.val (.int p0), .val (.int p1), .val (.int p2), .val (.int p3), .val (.int p4), .val (.ref a81), .val (.int (0 : Int32)), .val (.int (4 : Int32)), .val (.int (f2 (0 : Int32) (0 : Int32) (4 : Int32) b0)), .val (.int (f2 (1 : Int32) (0 : Int32) (4 : Int32) b1)), .unset, .unset, .unset]) rfl (pc' := 87) rfl ?_
      refine gaload B X185 at_87 rfl rfl (pc' := 89) rfl ?_
      refine giconst B X185 at_89 (v := (2 : Int32)) rfl (pc' := 90) rfl ?_
      refine giload B X185 at_90 rfl (pc' := 92) rfl ?_
      refine giload B X185 at_92 rfl (pc' := 94) rfl ?_
      refine gcallS B X185 (hw _ (List.mem_of_getElem? (i := 5) rfl)) (hw _ (List.mem_of_getElem? (i := 6) rfl)) (hw _ (List.mem_of_getElem? (i := 3) rfl)) (hw _ (List.mem_of_getElem? (i := 7) rfl)) (by decide) (mt2 l Z a0 hw a81 (2 : Int32) (0 : Int32) (4 : Int32) [(.int b0), (.int b1), (.int b2), (.int b3)] b2 h110 A113 rfl (by decide) rfl) pd___BIII_I rfl (argsL := [(.ref a81), (.int (2 : Int32)), (.int (0 : Int32)), (.int (4 : Int32))]) (st := []) rfl rfl (W := 0) (Nat.le_of_eq rfl) (by decide) (by decide) (by decide) (by decide) (fun x q => nomatch q) at_94 rfl (pureG rfl rfl fun T186 X187 => ?_)
      refine gistore B X187 at_97 (Ls' := #[.val (.int p0), .val (.int p1), .val (.int p2), .val (.int p3), .val (.int p4), .val (.ref a81), .val (.int (0 : Int32)), .val (.int (4 : Int32)), .val (.int (f2 (0 : Int32) (0 : Int32) (4 : Int32) b0)), .val (.int (f2 (1 : Int32) (0 : Int32) (4 : Int32) b1)), .val (.int (f2 (2 : Int32) (0 : Int32) (4 : Int32) b2)), .unset, .unset]) rfl (pc' := 99) rfl ?_
      refine gaload B X187 at_99 rfl rfl (pc' := 101) rfl ?_
      refine giconst B X187 at_101 (v := (3 : Int32)) rfl (pc' := 102) rfl ?_
      refine giload B X187 at_102 rfl (pc' := 104) rfl ?_
      refine giload B X187 at_104 rfl (pc' := 106) rfl ?_
      refine gcallS B X187 (hw _ (List.mem_of_getElem? (i := 5) rfl)) (hw _ (List.mem_of_getElem? (i := 6) rfl)) (hw _ (List.mem_of_getElem? (i := 3) rfl)) (hw _ (List.mem_of_getElem? (i := 7) rfl)) (by decide) (mt2 l Z a0 hw a81 (3 : Int32) (0 : Int32) (4 : Int32) [(.int b0), (.int b1), (.int b2), (.int b3)] b3 h110 A113 rfl (by decide) rfl) pd___BIII_I rfl (argsL := [(.ref a81), (.int (3 : Int32)), (.int (0 : Int32)), (.int (4 : Int32))]) (st := []) rfl rfl (W := 0) (Nat.le_of_eq rfl) (by decide) (by decide) (by decide) (by decide) (fun x q => nomatch q) at_106 rfl (pureG rfl rfl fun T188 X189 => ?_)
      refine gistore B X189 at_109 (Ls' := #[.val (.int p0), .val (.int p1), .val (.int p2), .val (.int p3), .val (.int p4), .val (.ref a81), .val (.int (0 : Int32)), .val (.int (4 : Int32)), .val (.int (f2 (0 : Int32) (0 : Int32) (4 : Int32) b0)), .val (.int (f2 (1 : Int32) (0 : Int32) (4 : Int32) b1)), .val (.int (f2 (2 : Int32) (0 : Int32) (4 : Int32) b2)), .val (.int (f2 (3 : Int32) (0 : Int32) (4 : Int32) b3)), .unset]) rfl (pc' := 111) rfl ?_
      refine joinG B X189 (F := fun z => (mkF m 150 #[.val (.int p0), .val (.int p1), .val (.int p2), .val (.int p3), .val (.int p4), .val (.ref a81), .val (.int (0 : Int32)), .val (.int (4 : Int32)), .val (.int (f2 (0 : Int32) (0 : Int32) (4 : Int32) b0)), .val (.int (f2 (1 : Int32) (0 : Int32) (4 : Int32) b1)), .val (.int (f2 (2 : Int32) (0 : Int32) (4 : Int32) b2)), .val (.int (f2 (3 : Int32) (0 : Int32) (4 : Int32) b3)), .val (.int z)] [])) (r := (oE (f2 (0 : Int32) (0 : Int32) (4 : Int32) b0) (f2 (1 : Int32) (0 : Int32) (4 : Int32) b1) (f2 (2 : Int32) (0 : Int32) (4 : Int32) b2) (f2 (3 : Int32) (0 : Int32) (4 : Int32) b3))) (fun J => ?_) ?_
      · refine giload B X189 at_111 rfl (pc' := 113) rfl ?_
        by_cases c113_190 : (f2 (0 : Int32) (0 : Int32) (4 : Int32) b0) < (0 : Int32)
        · refine gifY B X189 (pc' := 131) at_113 ((if0 _ _).trans (tlt c113_190).1) (by decide) ?_
          refine giconst B X189 at_131 (v := (-1 : Int32)) rfl (pc' := 132) rfl ?_
          refine gistore B X189 at_132 (Ls' := #[.val (.int p0), .val (.int p1), .val (.int p2), .val (.int p3), .val (.int p4), .val (.ref a81), .val (.int (0 : Int32)), .val (.int (4 : Int32)), .val (.int (f2 (0 : Int32) (0 : Int32) (4 : Int32) b0)), .val (.int (f2 (1 : Int32) (0 : Int32) (4 : Int32) b1)), .val (.int (f2 (2 : Int32) (0 : Int32) (4 : Int32) b2)), .val (.int (f2 (3 : Int32) (0 : Int32) (4 : Int32) b3)), .val (.int (-1 : Int32))]) rfl (pc' := 134) rfl ?_
          refine ggoto B X189 (pc' := 150) at_134 (by decide) ?_
          have e_J : (oE (f2 (0 : Int32) (0 : Int32) (4 : Int32) b0) (f2 (1 : Int32) (0 : Int32) (4 : Int32) b1) (f2 (2 : Int32) (0 : Int32) (4 : Int32) b2) (f2 (3 : Int32) (0 : Int32) (4 : Int32) b3)) = (-1 : Int32) := by rw [oE, if_pos c113_190]
          rw [e_J] at J
          exact J _ X189
        · refine gifN B X189 at_113 ((if0 _ _).trans (flt c113_190).1) (pc' := 116) rfl ?_
          refine giload B X189 at_116 rfl (pc' := 118) rfl ?_
          by_cases c118_191 : (f2 (1 : Int32) (0 : Int32) (4 : Int32) b1) < (0 : Int32)
          · refine gifY B X189 (pc' := 131) at_118 ((if0 _ _).trans (tlt c118_191).1) (by decide) ?_
            refine giconst B X189 at_131 (v := (-1 : Int32)) rfl (pc' := 132) rfl ?_
            refine gistore B X189 at_132 (Ls' := #[.val (.int p0), .val (.int p1), .val (.int p2), .val (.int p3), .val (.int p4), .val (.ref a81), .val (.int (0 : Int32)), .val (.int (4 : Int32)), .val (.int (f2 (0 : Int32) (0 : Int32) (4 : Int32) b0)), .val (.int (f2 (1 : Int32) (0 : Int32) (4 : Int32) b1)), .val (.int (f2 (2 : Int32) (0 : Int32) (4 : Int32) b2)), .val (.int (f2 (3 : Int32) (0 : Int32) (4 : Int32) b3)), .val (.int (-1 : Int32))]) rfl (pc' := 134) rfl ?_
            refine ggoto B X189 (pc' := 150) at_134 (by decide) ?_
            have e_J : (oE (f2 (0 : Int32) (0 : Int32) (4 : Int32) b0) (f2 (1 : Int32) (0 : Int32) (4 : Int32) b1) (f2 (2 : Int32) (0 : Int32) (4 : Int32) b2) (f2 (3 : Int32) (0 : Int32) (4 : Int32) b3)) = (-1 : Int32) := by rw [oE, if_neg c113_190, if_pos c118_191]
            rw [e_J] at J
            exact J _ X189
          · refine gifN B X189 at_118 ((if0 _ _).trans (flt c118_191).1) (pc' := 121) rfl ?_
            refine giload B X189 at_121 rfl (pc' := 123) rfl ?_
            by_cases c123_192 : (f2 (2 : Int32) (0 : Int32) (4 : Int32) b2) < (0 : Int32)
            · refine gifY B X189 (pc' := 131) at_123 ((if0 _ _).trans (tlt c123_192).1) (by decide) ?_
              refine giconst B X189 at_131 (v := (-1 : Int32)) rfl (pc' := 132) rfl ?_
              refine gistore B X189 at_132 (Ls' := #[.val (.int p0), .val (.int p1), .val (.int p2), .val (.int p3), .val (.int p4), .val (.ref a81), .val (.int (0 : Int32)), .val (.int (4 : Int32)), .val (.int (f2 (0 : Int32) (0 : Int32) (4 : Int32) b0)), .val (.int (f2 (1 : Int32) (0 : Int32) (4 : Int32) b1)), .val (.int (f2 (2 : Int32) (0 : Int32) (4 : Int32) b2)), .val (.int (f2 (3 : Int32) (0 : Int32) (4 : Int32) b3)), .val (.int (-1 : Int32))]) rfl (pc' := 134) rfl ?_
              refine ggoto B X189 (pc' := 150) at_134 (by decide) ?_
              have e_J : (oE (f2 (0 : Int32) (0 : Int32) (4 : Int32) b0) (f2 (1 : Int32) (0 : Int32) (4 : Int32) b1) (f2 (2 : Int32) (0 : Int32) (4 : Int32) b2) (f2 (3 : Int32) (0 : Int32) (4 : Int32) b3)) = (-1 : Int32) := by rw [oE, if_neg c113_190, if_neg c118_191, if_pos c123_192]
              rw [e_J] at J
              exact J _ X189
            · refine gifN B X189 at_123 ((if0 _ _).trans (flt c123_192).1) (pc' := 126) rfl ?_
              refine giload B X189 at_126 rfl (pc' := 128) rfl ?_
              by_cases c128_193 : (f2 (3 : Int32) (0 : Int32) (4 : Int32) b3) < (0 : Int32)
              · refine gifN B X189 at_128 ((if0 _ _).trans (tlt c128_193).2.1) (pc' := 131) rfl ?_
                refine giconst B X189 at_131 (v := (-1 : Int32)) rfl (pc' := 132) rfl ?_
                refine gistore B X189 at_132 (Ls' := #[.val (.int p0), .val (.int p1), .val (.int p2), .val (.int p3), .val (.int p4), .val (.ref a81), .val (.int (0 : Int32)), .val (.int (4 : Int32)), .val (.int (f2 (0 : Int32) (0 : Int32) (4 : Int32) b0)), .val (.int (f2 (1 : Int32) (0 : Int32) (4 : Int32) b1)), .val (.int (f2 (2 : Int32) (0 : Int32) (4 : Int32) b2)), .val (.int (f2 (3 : Int32) (0 : Int32) (4 : Int32) b3)), .val (.int (-1 : Int32))]) rfl (pc' := 134) rfl ?_
                refine ggoto B X189 (pc' := 150) at_134 (by decide) ?_
                have e_J : (oE (f2 (0 : Int32) (0 : Int32) (4 : Int32) b0) (f2 (1 : Int32) (0 : Int32) (4 : Int32) b1) (f2 (2 : Int32) (0 : Int32) (4 : Int32) b2) (f2 (3 : Int32) (0 : Int32) (4 : Int32) b3)) = (-1 : Int32) := by rw [oE, if_neg c113_190, if_neg c118_191, if_neg c123_192, if_pos c128_193]
                rw [e_J] at J
                exact J _ X189
              · refine gifY B X189 (pc' := 137) at_128 ((if0 _ _).trans (flt c128_193).2.1) (by decide) ?_
                refine giload B X189 at_137 rfl (pc' := 139) rfl ?_
                refine giload B X189 at_139 rfl (pc' := 141) rfl ?_
                refine giadd B X189 at_141 rfl (pc' := 142) rfl ?_
                refine giload B X189 at_142 rfl (pc' := 144) rfl ?_
                refine giadd B X189 at_144 rfl (pc' := 145) rfl ?_
                refine giload B X189 at_145 rfl (pc' := 147) rfl ?_
                refine giadd B X189 at_147 rfl (pc' := 148) rfl ?_
                refine gistore B X189 at_148 (Ls' := #[.val (.int p0), .val (.int p1), .val (.int p2), .val (.int p3), .val (.int p4), .val (.ref a81), .val (.int (0 : Int32)), .val (.int (4 : Int32)), .val (.int (f2 (0 : Int32) (0 : Int32) (4 : Int32) b0)), .val (.int (f2 (1 : Int32) (0 : Int32) (4 : Int32) b1)), .val (.int (f2 (2 : Int32) (0 : Int32) (4 : Int32) b2)), .val (.int (f2 (3 : Int32) (0 : Int32) (4 : Int32) b3)), .val (.int ((((f2 (0 : Int32) (0 : Int32) (4 : Int32) b0) + (f2 (1 : Int32) (0 : Int32) (4 : Int32) b1)) + (f2 (2 : Int32) (0 : Int32) (4 : Int32) b2)) + (f2 (3 : Int32) (0 : Int32) (4 : Int32) b3)))]) rfl (pc' := 150) rfl ?_
                have e_J : (oE (f2 (0 : Int32) (0 : Int32) (4 : Int32) b0) (f2 (1 : Int32) (0 : Int32) (4 : Int32) b1) (f2 (2 : Int32) (0 : Int32) (4 : Int32) b2) (f2 (3 : Int32) (0 : Int32) (4 : Int32) b3)) = ((((f2 (0 : Int32) (0 : Int32) (4 : Int32) b0) + (f2 (1 : Int32) (0 : Int32) (4 : Int32) b1)) + (f2 (2 : Int32) (0 : Int32) (4 : Int32) b2)) + (f2 (3 : Int32) (0 : Int32) (4 : Int32) b3)) := by rw [oE, if_neg c113_190, if_neg c118_191, if_neg c123_192, if_neg c128_193]
                rw [e_J] at J
                exact J _ X189
      intro T194 X195
      show Go p e below s _ _ _ _ _ T194 (mkF m 150 #[.val (.int p0), .val (.int p1), .val (.int p2), .val (.int p3), .val (.int p4), .val (.ref a81), .val (.int (0 : Int32)), .val (.int (4 : Int32)), .val (.int (f2 (0 : Int32) (0 : Int32) (4 : Int32) b0)), .val (.int (f2 (1 : Int32) (0 : Int32) (4 : Int32) b1)), .val (.int (f2 (2 : Int32) (0 : Int32) (4 : Int32) b2)), .val (.int (f2 (3 : Int32) (0 : Int32) (4 : Int32) b3)), .val (.int (oE (f2 (0 : Int32) (0 : Int32) (4 : Int32) b0) (f2 (1 : Int32) (0 : Int32) (4 : Int32) b1) (f2 (2 : Int32) (0 : Int32) (4 : Int32) b2) (f2 (3 : Int32) (0 : Int32) (4 : Int32) b3)))] [])
      refine gaload B X195 at_150 rfl rfl (pc' := 152) rfl ?_
      refine giload B X195 at_152 rfl (pc' := 154) rfl ?_
      refine giload B X195 at_154 rfl (pc' := 156) rfl ?_
      refine gcallS B X195 (hw _ (List.mem_of_getElem? (i := 8) rfl)) (hw _ (List.mem_of_getElem? (i := 9) rfl)) (hw _ (List.mem_of_getElem? (i := 10) rfl)) (hw _ (List.mem_of_getElem? (i := 11) rfl)) (by decide) (mt3_0 l Z a0 hw a81 (4 : Int32) b0 b1 b2 b3 h110 A113 (by decide)) pd___BII_I rfl (argsL := [(.ref a81), (.int (0 : Int32)), (.int (4 : Int32))]) (st := []) rfl rfl (W := 0) (Nat.le_of_eq rfl) (by decide) (by decide) (by decide) (by decide) (fun x q => nomatch q) at_156 rfl (pureG rfl rfl fun T196 X197 => ?_)
      refine giload B X197 at_159 rfl (pc' := 161) rfl ?_
      have c161_198 : (f3_0 (4 : Int32) b0 b1 b2 b3) = (oE (f2 (0 : Int32) (0 : Int32) (4 : Int32) b0) (f2 (1 : Int32) (0 : Int32) (4 : Int32) b1) (f2 (2 : Int32) (0 : Int32) (4 : Int32) b2) (f2 (3 : Int32) (0 : Int32) (4 : Int32) b3)) := own_fin04 b0 b1 b2 b3
      refine gicN B X197 at_161 (teq c161_198).2 (pc' := 164) rfl ?_
      refine giconst B X197 at_164 (v := (1 : Int32)) rfl (pc' := 165) rfl ?_
      refine ggoto B X197 (pc' := 169) at_165 (by decide) ?_
      exact gretN B X197 (z' := (1 : Int32)) (by simp) (rfl) at_169 (by decide) (by decide) (rfl)
  · skip
    refine giload B X111 at_46 rfl (pc' := 48) rfl ?_
    refine giload B X111 at_48 rfl (pc' := 50) rfl ?_
    refine giconst B X111 at_50 (v := (3 : Int32)) rfl (pc' := 51) rfl ?_
    refine giushr B X111 at_51 rfl (pc' := 52) rfl ?_
    refine gbipush B X111 at_52 (v := (7 : Int32)) rfl (pc' := 54) rfl ?_
    refine giand B X111 at_54 rfl (pc' := 55) rfl ?_
    refine giconst B X111 at_55 (v := (5 : Int32)) rfl (pc' := 56) rfl ?_
    refine giload B X111 at_56 rfl (pc' := 58) rfl ?_
    refine gisub B X111 at_58 (v := (4 : Int32)) (by decide) (pc' := 59) rfl ?_
    refine girem B X111 at_59 (by decide) rfl (pc' := 60) rfl ?_
    refine giadd B X111 at_60 rfl (pc' := 61) rfl ?_
    generalize e_qto : ((1 : Int32) + ((((p4.toUInt32 >>> ((3 : Int32) &&& 31).toUInt32).toInt32) &&& (7 : Int32)) % (4 : Int32))) = qto
    refine gistore B X111 at_61 (Ls' := #[.val (.int p0), .val (.int p1), .val (.int p2), .val (.int p3), .val (.int p4), .val (.ref a81), .val (.int (1 : Int32)), .val (.int qto), .unset, .unset, .unset, .unset, .unset]) rfl (pc' := 63) rfl ?_
    have h5 := own_to1 ((p4.toUInt32 >>> ((3 : Int32) &&& 31).toUInt32).toInt32); rw [e_qto] at h5; clear e_qto
    rcases h5 with rfl | rfl | rfl | rfl
    · skip
      refine gaload B X111 at_63 rfl rfl (pc' := 65) rfl ?_
      refine giconst B X111 at_65 (v := (0 : Int32)) rfl (pc' := 66) rfl ?_
      refine giload B X111 at_66 rfl (pc' := 68) rfl ?_
      refine giload B X111 at_68 rfl (pc' := 70) rfl ?_
      refine gcallS B X111 (hw _ (List.mem_of_getElem? (i := 5) rfl)) (hw _ (List.mem_of_getElem? (i := 6) rfl)) (hw _ (List.mem_of_getElem? (i := 3) rfl)) (hw _ (List.mem_of_getElem? (i := 7) rfl)) (by decide) (mt2 l Z a0 hw a81 (0 : Int32) (1 : Int32) (1 : Int32) [(.int b0), (.int b1), (.int b2), (.int b3)] b0 h110 A113 rfl (by decide) rfl) pd___BIII_I rfl (argsL := [(.ref a81), (.int (0 : Int32)), (.int (1 : Int32)), (.int (1 : Int32))]) (st := []) rfl rfl (W := 0) (Nat.le_of_eq rfl) (by decide) (by decide) (by decide) (by decide) (fun x q => nomatch q) at_70 rfl (pureG rfl rfl fun T199 X200 => ?_)
      refine gistore B X200 at_73 (Ls' := #[.val (.int p0), .val (.int p1), .val (.int p2), .val (.int p3), .val (.int p4), .val (.ref a81), .val (.int (1 : Int32)), .val (.int (1 : Int32)), .val (.int (f2 (0 : Int32) (1 : Int32) (1 : Int32) b0)), .unset, .unset, .unset, .unset]) rfl (pc' := 75) rfl ?_
      refine gaload B X200 at_75 rfl rfl (pc' := 77) rfl ?_
      refine giconst B X200 at_77 (v := (1 : Int32)) rfl (pc' := 78) rfl ?_
      refine giload B X200 at_78 rfl (pc' := 80) rfl ?_
      refine giload B X200 at_80 rfl (pc' := 82) rfl ?_
      refine gcallS B X200 (hw _ (List.mem_of_getElem? (i := 5) rfl)) (hw _ (List.mem_of_getElem? (i := 6) rfl)) (hw _ (List.mem_of_getElem? (i := 3) rfl)) (hw _ (List.mem_of_getElem? (i := 7) rfl)) (by decide) (mt2 l Z a0 hw a81 (1 : Int32) (1 : Int32) (1 : Int32) [(.int b0), (.int b1), (.int b2), (.int b3)] b1 h110 A113 rfl (by decide) rfl) pd___BIII_I rfl (argsL := [(.ref a81), (.int (1 : Int32)), (.int (1 : Int32)), (.int (1 : Int32))]) (st := []) rfl rfl (W := 0) (Nat.le_of_eq rfl) (by decide) (by decide) (by decide) (by decide) (fun x q => nomatch q) at_82 rfl (pureG rfl rfl fun T201 X202 => ?_)
      refine gistore B X202 at_85 (Ls' := #[.val (.int p0), .val (.int p1), .val (.int p2), .val (.int p3), .val (.int p4), .val (.ref a81), .val (.int (1 : Int32)), .val (.int (1 : Int32)), .val (.int (f2 (0 : Int32) (1 : Int32) (1 : Int32) b0)), .val (.int (f2 (1 : Int32) (1 : Int32) (1 : Int32) b1)), .unset, .unset, .unset]) rfl (pc' := 87) rfl ?_
      refine gaload B X202 at_87 rfl rfl (pc' := 89) rfl ?_
      refine giconst B X202 at_89 (v := (2 : Int32)) rfl (pc' := 90) rfl ?_
      refine giload B X202 at_90 rfl (pc' := 92) rfl ?_
      refine giload B X202 at_92 rfl (pc' := 94) rfl ?_
      refine gcallS B X202 (hw _ (List.mem_of_getElem? (i := 5) rfl)) (hw _ (List.mem_of_getElem? (i := 6) rfl)) (hw _ (List.mem_of_getElem? (i := 3) rfl)) (hw _ (List.mem_of_getElem? (i := 7) rfl)) (by decide) (mt2 l Z a0 hw a81 (2 : Int32) (1 : Int32) (1 : Int32) [(.int b0), (.int b1), (.int b2), (.int b3)] b2 h110 A113 rfl (by decide) rfl) pd___BIII_I rfl (argsL := [(.ref a81), (.int (2 : Int32)), (.int (1 : Int32)), (.int (1 : Int32))]) (st := []) rfl rfl (W := 0) (Nat.le_of_eq rfl) (by decide) (by decide) (by decide) (by decide) (fun x q => nomatch q) at_94 rfl (pureG rfl rfl fun T203 X204 => ?_)
      refine gistore B X204 at_97 (Ls' := #[.val (.int p0), .val (.int p1), .val (.int p2), .val (.int p3), .val (.int p4), .val (.ref a81), .val (.int (1 : Int32)), .val (.int (1 : Int32)), .val (.int (f2 (0 : Int32) (1 : Int32) (1 : Int32) b0)), .val (.int (f2 (1 : Int32) (1 : Int32) (1 : Int32) b1)), .val (.int (f2 (2 : Int32) (1 : Int32) (1 : Int32) b2)), .unset, .unset]) rfl (pc' := 99) rfl ?_
      refine gaload B X204 at_99 rfl rfl (pc' := 101) rfl ?_
      refine giconst B X204 at_101 (v := (3 : Int32)) rfl (pc' := 102) rfl ?_
      refine giload B X204 at_102 rfl (pc' := 104) rfl ?_
      refine giload B X204 at_104 rfl (pc' := 106) rfl ?_
      refine gcallS B X204 (hw _ (List.mem_of_getElem? (i := 5) rfl)) (hw _ (List.mem_of_getElem? (i := 6) rfl)) (hw _ (List.mem_of_getElem? (i := 3) rfl)) (hw _ (List.mem_of_getElem? (i := 7) rfl)) (by decide) (mt2 l Z a0 hw a81 (3 : Int32) (1 : Int32) (1 : Int32) [(.int b0), (.int b1), (.int b2), (.int b3)] b3 h110 A113 rfl (by decide) rfl) pd___BIII_I rfl (argsL := [(.ref a81), (.int (3 : Int32)), (.int (1 : Int32)), (.int (1 : Int32))]) (st := []) rfl rfl (W := 0) (Nat.le_of_eq rfl) (by decide) (by decide) (by decide) (by decide) (fun x q => nomatch q) at_106 rfl (pureG rfl rfl fun T205 X206 => ?_)
      refine gistore B X206 at_109 (Ls' := #[.val (.int p0), .val (.int p1), .val (.int p2), .val (.int p3), .val (.int p4), .val (.ref a81), .val (.int (1 : Int32)), .val (.int (1 : Int32)), .val (.int (f2 (0 : Int32) (1 : Int32) (1 : Int32) b0)), .val (.int (f2 (1 : Int32) (1 : Int32) (1 : Int32) b1)), .val (.int (f2 (2 : Int32) (1 : Int32) (1 : Int32) b2)), .val (.int (f2 (3 : Int32) (1 : Int32) (1 : Int32) b3)), .unset]) rfl (pc' := 111) rfl ?_
      refine joinG B X206 (F := fun z => (mkF m 150 #[.val (.int p0), .val (.int p1), .val (.int p2), .val (.int p3), .val (.int p4), .val (.ref a81), .val (.int (1 : Int32)), .val (.int (1 : Int32)), .val (.int (f2 (0 : Int32) (1 : Int32) (1 : Int32) b0)), .val (.int (f2 (1 : Int32) (1 : Int32) (1 : Int32) b1)), .val (.int (f2 (2 : Int32) (1 : Int32) (1 : Int32) b2)), .val (.int (f2 (3 : Int32) (1 : Int32) (1 : Int32) b3)), .val (.int z)] [])) (r := (oE (f2 (0 : Int32) (1 : Int32) (1 : Int32) b0) (f2 (1 : Int32) (1 : Int32) (1 : Int32) b1) (f2 (2 : Int32) (1 : Int32) (1 : Int32) b2) (f2 (3 : Int32) (1 : Int32) (1 : Int32) b3))) (fun J => ?_) ?_
      · refine giload B X206 at_111 rfl (pc' := 113) rfl ?_
        by_cases c113_207 : (f2 (0 : Int32) (1 : Int32) (1 : Int32) b0) < (0 : Int32)
        · refine gifY B X206 (pc' := 131) at_113 ((if0 _ _).trans (tlt c113_207).1) (by decide) ?_
          refine giconst B X206 at_131 (v := (-1 : Int32)) rfl (pc' := 132) rfl ?_
          refine gistore B X206 at_132 (Ls' := #[.val (.int p0), .val (.int p1), .val (.int p2), .val (.int p3), .val (.int p4), .val (.ref a81), .val (.int (1 : Int32)), .val (.int (1 : Int32)), .val (.int (f2 (0 : Int32) (1 : Int32) (1 : Int32) b0)), .val (.int (f2 (1 : Int32) (1 : Int32) (1 : Int32) b1)), .val (.int (f2 (2 : Int32) (1 : Int32) (1 : Int32) b2)), .val (.int (f2 (3 : Int32) (1 : Int32) (1 : Int32) b3)), .val (.int (-1 : Int32))]) rfl (pc' := 134) rfl ?_
          refine ggoto B X206 (pc' := 150) at_134 (by decide) ?_
          have e_J : (oE (f2 (0 : Int32) (1 : Int32) (1 : Int32) b0) (f2 (1 : Int32) (1 : Int32) (1 : Int32) b1) (f2 (2 : Int32) (1 : Int32) (1 : Int32) b2) (f2 (3 : Int32) (1 : Int32) (1 : Int32) b3)) = (-1 : Int32) := by rw [oE, if_pos c113_207]
          rw [e_J] at J
          exact J _ X206
        · refine gifN B X206 at_113 ((if0 _ _).trans (flt c113_207).1) (pc' := 116) rfl ?_
          refine giload B X206 at_116 rfl (pc' := 118) rfl ?_
          by_cases c118_208 : (f2 (1 : Int32) (1 : Int32) (1 : Int32) b1) < (0 : Int32)
          · refine gifY B X206 (pc' := 131) at_118 ((if0 _ _).trans (tlt c118_208).1) (by decide) ?_
            refine giconst B X206 at_131 (v := (-1 : Int32)) rfl (pc' := 132) rfl ?_
            refine gistore B X206 at_132 (Ls' := #[.val (.int p0), .val (.int p1), .val (.int p2), .val (.int p3), .val (.int p4), .val (.ref a81), .val (.int (1 : Int32)), .val (.int (1 : Int32)), .val (.int (f2 (0 : Int32) (1 : Int32) (1 : Int32) b0)), .val (.int (f2 (1 : Int32) (1 : Int32) (1 : Int32) b1)), .val (.int (f2 (2 : Int32) (1 : Int32) (1 : Int32) b2)), .val (.int (f2 (3 : Int32) (1 : Int32) (1 : Int32) b3)), .val (.int (-1 : Int32))]) rfl (pc' := 134) rfl ?_
            refine ggoto B X206 (pc' := 150) at_134 (by decide) ?_
            have e_J : (oE (f2 (0 : Int32) (1 : Int32) (1 : Int32) b0) (f2 (1 : Int32) (1 : Int32) (1 : Int32) b1) (f2 (2 : Int32) (1 : Int32) (1 : Int32) b2) (f2 (3 : Int32) (1 : Int32) (1 : Int32) b3)) = (-1 : Int32) := by rw [oE, if_neg c113_207, if_pos c118_208]
            rw [e_J] at J
            exact J _ X206
          · refine gifN B X206 at_118 ((if0 _ _).trans (flt c118_208).1) (pc' := 121) rfl ?_
            refine giload B X206 at_121 rfl (pc' := 123) rfl ?_
            by_cases c123_209 : (f2 (2 : Int32) (1 : Int32) (1 : Int32) b2) < (0 : Int32)
            · refine gifY B X206 (pc' := 131) at_123 ((if0 _ _).trans (tlt c123_209).1) (by decide) ?_
              refine giconst B X206 at_131 (v := (-1 : Int32)) rfl (pc' := 132) rfl ?_
              refine gistore B X206 at_132 (Ls' := #[.val (.int p0), .val (.int p1), .val (.int p2), .val (.int p3), .val (.int p4), .val (.ref a81), .val (.int (1 : Int32)), .val (.int (1 : Int32)), .val (.int (f2 (0 : Int32) (1 : Int32) (1 : Int32) b0)), .val (.int (f2 (1 : Int32) (1 : Int32) (1 : Int32) b1)), .val (.int (f2 (2 : Int32) (1 : Int32) (1 : Int32) b2)), .val (.int (f2 (3 : Int32) (1 : Int32) (1 : Int32) b3)), .val (.int (-1 : Int32))]) rfl (pc' := 134) rfl ?_
              refine ggoto B X206 (pc' := 150) at_134 (by decide) ?_
              have e_J : (oE (f2 (0 : Int32) (1 : Int32) (1 : Int32) b0) (f2 (1 : Int32) (1 : Int32) (1 : Int32) b1) (f2 (2 : Int32) (1 : Int32) (1 : Int32) b2) (f2 (3 : Int32) (1 : Int32) (1 : Int32) b3)) = (-1 : Int32) := by rw [oE, if_neg c113_207, if_neg c118_208, if_pos c123_209]
              rw [e_J] at J
              exact J _ X206
            · refine gifN B X206 at_123 ((if0 _ _).trans (flt c123_209).1) (pc' := 126) rfl ?_
              refine giload B X206 at_126 rfl (pc' := 128) rfl ?_
              by_cases c128_210 : (f2 (3 : Int32) (1 : Int32) (1 : Int32) b3) < (0 : Int32)
              · refine gifN B X206 at_128 ((if0 _ _).trans (tlt c128_210).2.1) (pc' := 131) rfl ?_
                refine giconst B X206 at_131 (v := (-1 : Int32)) rfl (pc' := 132) rfl ?_
                refine gistore B X206 at_132 (Ls' := #[.val (.int p0), .val (.int p1), .val (.int p2), .val (.int p3), .val (.int p4), .val (.ref a81), .val (.int (1 : Int32)), .val (.int (1 : Int32)), .val (.int (f2 (0 : Int32) (1 : Int32) (1 : Int32) b0)), .val (.int (f2 (1 : Int32) (1 : Int32) (1 : Int32) b1)), .val (.int (f2 (2 : Int32) (1 : Int32) (1 : Int32) b2)), .val (.int (f2 (3 : Int32) (1 : Int32) (1 : Int32) b3)), .val (.int (-1 : Int32))]) rfl (pc' := 134) rfl ?_
                refine ggoto B X206 (pc' := 150) at_134 (by decide) ?_
                have e_J : (oE (f2 (0 : Int32) (1 : Int32) (1 : Int32) b0) (f2 (1 : Int32) (1 : Int32) (1 : Int32) b1) (f2 (2 : Int32) (1 : Int32) (1 : Int32) b2) (f2 (3 : Int32) (1 : Int32) (1 : Int32) b3)) = (-1 : Int32) := by rw [oE, if_neg c113_207, if_neg c118_208, if_neg c123_209, if_pos c128_210]
                rw [e_J] at J
                exact J _ X206
              · refine gifY B X206 (pc' := 137) at_128 ((if0 _ _).trans (flt c128_210).2.1) (by decide) ?_
                refine giload B X206 at_137 rfl (pc' := 139) rfl ?_
                refine giload B X206 at_139 rfl (pc' := 141) rfl ?_
                refine giadd B X206 at_141 rfl (pc' := 142) rfl ?_
                refine giload B X206 at_142 rfl (pc' := 144) rfl ?_
                refine giadd B X206 at_144 rfl (pc' := 145) rfl ?_
                refine giload B X206 at_145 rfl (pc' := 147) rfl ?_
                refine giadd B X206 at_147 rfl (pc' := 148) rfl ?_
                refine gistore B X206 at_148 (Ls' := #[.val (.int p0), .val (.int p1), .val (.int p2), .val (.int p3), .val (.int p4), .val (.ref a81), .val (.int (1 : Int32)), .val (.int (1 : Int32)), .val (.int (f2 (0 : Int32) (1 : Int32) (1 : Int32) b0)), .val (.int (f2 (1 : Int32) (1 : Int32) (1 : Int32) b1)), .val (.int (f2 (2 : Int32) (1 : Int32) (1 : Int32) b2)), .val (.int (f2 (3 : Int32) (1 : Int32) (1 : Int32) b3)), .val (.int ((((f2 (0 : Int32) (1 : Int32) (1 : Int32) b0) + (f2 (1 : Int32) (1 : Int32) (1 : Int32) b1)) + (f2 (2 : Int32) (1 : Int32) (1 : Int32) b2)) + (f2 (3 : Int32) (1 : Int32) (1 : Int32) b3)))]) rfl (pc' := 150) rfl ?_
                have e_J : (oE (f2 (0 : Int32) (1 : Int32) (1 : Int32) b0) (f2 (1 : Int32) (1 : Int32) (1 : Int32) b1) (f2 (2 : Int32) (1 : Int32) (1 : Int32) b2) (f2 (3 : Int32) (1 : Int32) (1 : Int32) b3)) = ((((f2 (0 : Int32) (1 : Int32) (1 : Int32) b0) + (f2 (1 : Int32) (1 : Int32) (1 : Int32) b1)) + (f2 (2 : Int32) (1 : Int32) (1 : Int32) b2)) + (f2 (3 : Int32) (1 : Int32) (1 : Int32) b3)) := by rw [oE, if_neg c113_207, if_neg c118_208, if_neg c123_209, if_neg c128_210]
                rw [e_J] at J
                exact J _ X206
      intro T211 X212
      show Go p e below s _ _ _ _ _ T211 (mkF m 150 #[.val (.int p0), .val (.int p1), .val (.int p2), .val (.int p3), .val (.int p4), .val (.ref a81), .val (.int (1 : Int32)), .val (.int (1 : Int32)), .val (.int (f2 (0 : Int32) (1 : Int32) (1 : Int32) b0)), .val (.int (f2 (1 : Int32) (1 : Int32) (1 : Int32) b1)), .val (.int (f2 (2 : Int32) (1 : Int32) (1 : Int32) b2)), .val (.int (f2 (3 : Int32) (1 : Int32) (1 : Int32) b3)), .val (.int (oE (f2 (0 : Int32) (1 : Int32) (1 : Int32) b0) (f2 (1 : Int32) (1 : Int32) (1 : Int32) b1) (f2 (2 : Int32) (1 : Int32) (1 : Int32) b2) (f2 (3 : Int32) (1 : Int32) (1 : Int32) b3)))] [])
      refine gaload B X212 at_150 rfl rfl (pc' := 152) rfl ?_
      refine giload B X212 at_152 rfl (pc' := 154) rfl ?_
      refine giload B X212 at_154 rfl (pc' := 156) rfl ?_
      refine gcallS B X212 (hw _ (List.mem_of_getElem? (i := 8) rfl)) (hw _ (List.mem_of_getElem? (i := 9) rfl)) (hw _ (List.mem_of_getElem? (i := 10) rfl)) (hw _ (List.mem_of_getElem? (i := 11) rfl)) (by decide) (mt3_1 l Z a0 hw a81 (1 : Int32) b0 b1 b2 b3 h110 A113 (by decide)) pd___BII_I rfl (argsL := [(.ref a81), (.int (1 : Int32)), (.int (1 : Int32))]) (st := []) rfl rfl (W := 0) (Nat.le_of_eq rfl) (by decide) (by decide) (by decide) (by decide) (fun x q => nomatch q) at_156 rfl (pureG rfl rfl fun T213 X214 => ?_)
      refine giload B X214 at_159 rfl (pc' := 161) rfl ?_
      have c161_215 : (f3_1 (1 : Int32) b0 b1 b2 b3) = (oE (f2 (0 : Int32) (1 : Int32) (1 : Int32) b0) (f2 (1 : Int32) (1 : Int32) (1 : Int32) b1) (f2 (2 : Int32) (1 : Int32) (1 : Int32) b2) (f2 (3 : Int32) (1 : Int32) (1 : Int32) b3)) := own_fin11 b0 b1 b2 b3
      refine gicN B X214 at_161 (teq c161_215).2 (pc' := 164) rfl ?_
      refine giconst B X214 at_164 (v := (1 : Int32)) rfl (pc' := 165) rfl ?_
      refine ggoto B X214 (pc' := 169) at_165 (by decide) ?_
      exact gretN B X214 (z' := (1 : Int32)) (by simp) (rfl) at_169 (by decide) (by decide) (rfl)
    · skip
      refine gaload B X111 at_63 rfl rfl (pc' := 65) rfl ?_
      refine giconst B X111 at_65 (v := (0 : Int32)) rfl (pc' := 66) rfl ?_
      refine giload B X111 at_66 rfl (pc' := 68) rfl ?_
      refine giload B X111 at_68 rfl (pc' := 70) rfl ?_
      refine gcallS B X111 (hw _ (List.mem_of_getElem? (i := 5) rfl)) (hw _ (List.mem_of_getElem? (i := 6) rfl)) (hw _ (List.mem_of_getElem? (i := 3) rfl)) (hw _ (List.mem_of_getElem? (i := 7) rfl)) (by decide) (mt2 l Z a0 hw a81 (0 : Int32) (1 : Int32) (2 : Int32) [(.int b0), (.int b1), (.int b2), (.int b3)] b0 h110 A113 rfl (by decide) rfl) pd___BIII_I rfl (argsL := [(.ref a81), (.int (0 : Int32)), (.int (1 : Int32)), (.int (2 : Int32))]) (st := []) rfl rfl (W := 0) (Nat.le_of_eq rfl) (by decide) (by decide) (by decide) (by decide) (fun x q => nomatch q) at_70 rfl (pureG rfl rfl fun T216 X217 => ?_)
      refine gistore B X217 at_73 (Ls' := #[.val (.int p0), .val (.int p1), .val (.int p2), .val (.int p3), .val (.int p4), .val (.ref a81), .val (.int (1 : Int32)), .val (.int (2 : Int32)), .val (.int (f2 (0 : Int32) (1 : Int32) (2 : Int32) b0)), .unset, .unset, .unset, .unset]) rfl (pc' := 75) rfl ?_
      refine gaload B X217 at_75 rfl rfl (pc' := 77) rfl ?_
      refine giconst B X217 at_77 (v := (1 : Int32)) rfl (pc' := 78) rfl ?_
      refine giload B X217 at_78 rfl (pc' := 80) rfl ?_
      refine giload B X217 at_80 rfl (pc' := 82) rfl ?_
      refine gcallS B X217 (hw _ (List.mem_of_getElem? (i := 5) rfl)) (hw _ (List.mem_of_getElem? (i := 6) rfl)) (hw _ (List.mem_of_getElem? (i := 3) rfl)) (hw _ (List.mem_of_getElem? (i := 7) rfl)) (by decide) (mt2 l Z a0 hw a81 (1 : Int32) (1 : Int32) (2 : Int32) [(.int b0), (.int b1), (.int b2), (.int b3)] b1 h110 A113 rfl (by decide) rfl) pd___BIII_I rfl (argsL := [(.ref a81), (.int (1 : Int32)), (.int (1 : Int32)), (.int (2 : Int32))]) (st := []) rfl rfl (W := 0) (Nat.le_of_eq rfl) (by decide) (by decide) (by decide) (by decide) (fun x q => nomatch q) at_82 rfl (pureG rfl rfl fun T218 X219 => ?_)
      refine gistore B X219 at_85 (Ls' := #[.val (.int p0), .val (.int p1), .val (.int p2), .val (.int p3), .val (.int p4), .val (.ref a81), .val (.int (1 : Int32)), .val (.int (2 : Int32)), .val (.int (f2 (0 : Int32) (1 : Int32) (2 : Int32) b0)), .val (.int (f2 (1 : Int32) (1 : Int32) (2 : Int32) b1)), .unset, .unset, .unset]) rfl (pc' := 87) rfl ?_
      refine gaload B X219 at_87 rfl rfl (pc' := 89) rfl ?_
      refine giconst B X219 at_89 (v := (2 : Int32)) rfl (pc' := 90) rfl ?_
      refine giload B X219 at_90 rfl (pc' := 92) rfl ?_
      refine giload B X219 at_92 rfl (pc' := 94) rfl ?_
      refine gcallS B X219 (hw _ (List.mem_of_getElem? (i := 5) rfl)) (hw _ (List.mem_of_getElem? (i := 6) rfl)) (hw _ (List.mem_of_getElem? (i := 3) rfl)) (hw _ (List.mem_of_getElem? (i := 7) rfl)) (by decide) (mt2 l Z a0 hw a81 (2 : Int32) (1 : Int32) (2 : Int32) [(.int b0), (.int b1), (.int b2), (.int b3)] b2 h110 A113 rfl (by decide) rfl) pd___BIII_I rfl (argsL := [(.ref a81), (.int (2 : Int32)), (.int (1 : Int32)), (.int (2 : Int32))]) (st := []) rfl rfl (W := 0) (Nat.le_of_eq rfl) (by decide) (by decide) (by decide) (by decide) (fun x q => nomatch q) at_94 rfl (pureG rfl rfl fun T220 X221 => ?_)
      refine gistore B X221 at_97 (Ls' := #[.val (.int p0), .val (.int p1), .val (.int p2), .val (.int p3), .val (.int p4), .val (.ref a81), .val (.int (1 : Int32)), .val (.int (2 : Int32)), .val (.int (f2 (0 : Int32) (1 : Int32) (2 : Int32) b0)), .val (.int (f2 (1 : Int32) (1 : Int32) (2 : Int32) b1)), .val (.int (f2 (2 : Int32) (1 : Int32) (2 : Int32) b2)), .unset, .unset]) rfl (pc' := 99) rfl ?_
      refine gaload B X221 at_99 rfl rfl (pc' := 101) rfl ?_
      refine giconst B X221 at_101 (v := (3 : Int32)) rfl (pc' := 102) rfl ?_
      refine giload B X221 at_102 rfl (pc' := 104) rfl ?_
      refine giload B X221 at_104 rfl (pc' := 106) rfl ?_
      refine gcallS B X221 (hw _ (List.mem_of_getElem? (i := 5) rfl)) (hw _ (List.mem_of_getElem? (i := 6) rfl)) (hw _ (List.mem_of_getElem? (i := 3) rfl)) (hw _ (List.mem_of_getElem? (i := 7) rfl)) (by decide) (mt2 l Z a0 hw a81 (3 : Int32) (1 : Int32) (2 : Int32) [(.int b0), (.int b1), (.int b2), (.int b3)] b3 h110 A113 rfl (by decide) rfl) pd___BIII_I rfl (argsL := [(.ref a81), (.int (3 : Int32)), (.int (1 : Int32)), (.int (2 : Int32))]) (st := []) rfl rfl (W := 0) (Nat.le_of_eq rfl) (by decide) (by decide) (by decide) (by decide) (fun x q => nomatch q) at_106 rfl (pureG rfl rfl fun T222 X223 => ?_)
      refine gistore B X223 at_109 (Ls' := #[.val (.int p0), .val (.int p1), .val (.int p2), .val (.int p3), .val (.int p4), .val (.ref a81), .val (.int (1 : Int32)), .val (.int (2 : Int32)), .val (.int (f2 (0 : Int32) (1 : Int32) (2 : Int32) b0)), .val (.int (f2 (1 : Int32) (1 : Int32) (2 : Int32) b1)), .val (.int (f2 (2 : Int32) (1 : Int32) (2 : Int32) b2)), .val (.int (f2 (3 : Int32) (1 : Int32) (2 : Int32) b3)), .unset]) rfl (pc' := 111) rfl ?_
      refine joinG B X223 (F := fun z => (mkF m 150 #[.val (.int p0), .val (.int p1), .val (.int p2), .val (.int p3), .val (.int p4), .val (.ref a81), .val (.int (1 : Int32)), .val (.int (2 : Int32)), .val (.int (f2 (0 : Int32) (1 : Int32) (2 : Int32) b0)), .val (.int (f2 (1 : Int32) (1 : Int32) (2 : Int32) b1)), .val (.int (f2 (2 : Int32) (1 : Int32) (2 : Int32) b2)), .val (.int (f2 (3 : Int32) (1 : Int32) (2 : Int32) b3)), .val (.int z)] [])) (r := (oE (f2 (0 : Int32) (1 : Int32) (2 : Int32) b0) (f2 (1 : Int32) (1 : Int32) (2 : Int32) b1) (f2 (2 : Int32) (1 : Int32) (2 : Int32) b2) (f2 (3 : Int32) (1 : Int32) (2 : Int32) b3))) (fun J => ?_) ?_
      · refine giload B X223 at_111 rfl (pc' := 113) rfl ?_
        by_cases c113_224 : (f2 (0 : Int32) (1 : Int32) (2 : Int32) b0) < (0 : Int32)
        · refine gifY B X223 (pc' := 131) at_113 ((if0 _ _).trans (tlt c113_224).1) (by decide) ?_
          refine giconst B X223 at_131 (v := (-1 : Int32)) rfl (pc' := 132) rfl ?_
          refine gistore B X223 at_132 (Ls' := #[.val (.int p0), .val (.int p1), .val (.int p2), .val (.int p3), .val (.int p4), .val (.ref a81), .val (.int (1 : Int32)), .val (.int (2 : Int32)), .val (.int (f2 (0 : Int32) (1 : Int32) (2 : Int32) b0)), .val (.int (f2 (1 : Int32) (1 : Int32) (2 : Int32) b1)), .val (.int (f2 (2 : Int32) (1 : Int32) (2 : Int32) b2)), .val (.int (f2 (3 : Int32) (1 : Int32) (2 : Int32) b3)), .val (.int (-1 : Int32))]) rfl (pc' := 134) rfl ?_
          refine ggoto B X223 (pc' := 150) at_134 (by decide) ?_
          have e_J : (oE (f2 (0 : Int32) (1 : Int32) (2 : Int32) b0) (f2 (1 : Int32) (1 : Int32) (2 : Int32) b1) (f2 (2 : Int32) (1 : Int32) (2 : Int32) b2) (f2 (3 : Int32) (1 : Int32) (2 : Int32) b3)) = (-1 : Int32) := by rw [oE, if_pos c113_224]
          rw [e_J] at J
          exact J _ X223
        · refine gifN B X223 at_113 ((if0 _ _).trans (flt c113_224).1) (pc' := 116) rfl ?_
          refine giload B X223 at_116 rfl (pc' := 118) rfl ?_
          by_cases c118_225 : (f2 (1 : Int32) (1 : Int32) (2 : Int32) b1) < (0 : Int32)
          · refine gifY B X223 (pc' := 131) at_118 ((if0 _ _).trans (tlt c118_225).1) (by decide) ?_
            refine giconst B X223 at_131 (v := (-1 : Int32)) rfl (pc' := 132) rfl ?_
            refine gistore B X223 at_132 (Ls' := #[.val (.int p0), .val (.int p1), .val (.int p2), .val (.int p3), .val (.int p4), .val (.ref a81), .val (.int (1 : Int32)), .val (.int (2 : Int32)), .val (.int (f2 (0 : Int32) (1 : Int32) (2 : Int32) b0)), .val (.int (f2 (1 : Int32) (1 : Int32) (2 : Int32) b1)), .val (.int (f2 (2 : Int32) (1 : Int32) (2 : Int32) b2)), .val (.int (f2 (3 : Int32) (1 : Int32) (2 : Int32) b3)), .val (.int (-1 : Int32))]) rfl (pc' := 134) rfl ?_
            refine ggoto B X223 (pc' := 150) at_134 (by decide) ?_
            have e_J : (oE (f2 (0 : Int32) (1 : Int32) (2 : Int32) b0) (f2 (1 : Int32) (1 : Int32) (2 : Int32) b1) (f2 (2 : Int32) (1 : Int32) (2 : Int32) b2) (f2 (3 : Int32) (1 : Int32) (2 : Int32) b3)) = (-1 : Int32) := by rw [oE, if_neg c113_224, if_pos c118_225]
            rw [e_J] at J
            exact J _ X223
          · refine gifN B X223 at_118 ((if0 _ _).trans (flt c118_225).1) (pc' := 121) rfl ?_
            refine giload B X223 at_121 rfl (pc' := 123) rfl ?_
            by_cases c123_226 : (f2 (2 : Int32) (1 : Int32) (2 : Int32) b2) < (0 : Int32)
            · refine gifY B X223 (pc' := 131) at_123 ((if0 _ _).trans (tlt c123_226).1) (by decide) ?_
              refine giconst B X223 at_131 (v := (-1 : Int32)) rfl (pc' := 132) rfl ?_
              refine gistore B X223 at_132 (Ls' := #[.val (.int p0), .val (.int p1), .val (.int p2), .val (.int p3), .val (.int p4), .val (.ref a81), .val (.int (1 : Int32)), .val (.int (2 : Int32)), .val (.int (f2 (0 : Int32) (1 : Int32) (2 : Int32) b0)), .val (.int (f2 (1 : Int32) (1 : Int32) (2 : Int32) b1)), .val (.int (f2 (2 : Int32) (1 : Int32) (2 : Int32) b2)), .val (.int (f2 (3 : Int32) (1 : Int32) (2 : Int32) b3)), .val (.int (-1 : Int32))]) rfl (pc' := 134) rfl ?_
              refine ggoto B X223 (pc' := 150) at_134 (by decide) ?_
              have e_J : (oE (f2 (0 : Int32) (1 : Int32) (2 : Int32) b0) (f2 (1 : Int32) (1 : Int32) (2 : Int32) b1) (f2 (2 : Int32) (1 : Int32) (2 : Int32) b2) (f2 (3 : Int32) (1 : Int32) (2 : Int32) b3)) = (-1 : Int32) := by rw [oE, if_neg c113_224, if_neg c118_225, if_pos c123_226]
              rw [e_J] at J
              exact J _ X223
            · refine gifN B X223 at_123 ((if0 _ _).trans (flt c123_226).1) (pc' := 126) rfl ?_
              refine giload B X223 at_126 rfl (pc' := 128) rfl ?_
              by_cases c128_227 : (f2 (3 : Int32) (1 : Int32) (2 : Int32) b3) < (0 : Int32)
              · refine gifN B X223 at_128 ((if0 _ _).trans (tlt c128_227).2.1) (pc' := 131) rfl ?_
                refine giconst B X223 at_131 (v := (-1 : Int32)) rfl (pc' := 132) rfl ?_
                refine gistore B X223 at_132 (Ls' := #[.val (.int p0), .val (.int p1), .val (.int p2), .val (.int p3), .val (.int p4), .val (.ref a81), .val (.int (1 : Int32)), .val (.int (2 : Int32)), .val (.int (f2 (0 : Int32) (1 : Int32) (2 : Int32) b0)), .val (.int (f2 (1 : Int32) (1 : Int32) (2 : Int32) b1)), .val (.int (f2 (2 : Int32) (1 : Int32) (2 : Int32) b2)), .val (.int (f2 (3 : Int32) (1 : Int32) (2 : Int32) b3)), .val (.int (-1 : Int32))]) rfl (pc' := 134) rfl ?_
                refine ggoto B X223 (pc' := 150) at_134 (by decide) ?_
                have e_J : (oE (f2 (0 : Int32) (1 : Int32) (2 : Int32) b0) (f2 (1 : Int32) (1 : Int32) (2 : Int32) b1) (f2 (2 : Int32) (1 : Int32) (2 : Int32) b2) (f2 (3 : Int32) (1 : Int32) (2 : Int32) b3)) = (-1 : Int32) := by rw [oE, if_neg c113_224, if_neg c118_225, if_neg c123_226, if_pos c128_227]
                rw [e_J] at J
                exact J _ X223
              · refine gifY B X223 (pc' := 137) at_128 ((if0 _ _).trans (flt c128_227).2.1) (by decide) ?_
                refine giload B X223 at_137 rfl (pc' := 139) rfl ?_
                refine giload B X223 at_139 rfl (pc' := 141) rfl ?_
                refine giadd B X223 at_141 rfl (pc' := 142) rfl ?_
                refine giload B X223 at_142 rfl (pc' := 144) rfl ?_
                refine giadd B X223 at_144 rfl (pc' := 145) rfl ?_
                refine giload B X223 at_145 rfl (pc' := 147) rfl ?_
                refine giadd B X223 at_147 rfl (pc' := 148) rfl ?_
                refine gistore B X223 at_148 (Ls' := #[.val (.int p0), .val (.int p1), .val (.int p2), .val (.int p3), .val (.int p4), .val (.ref a81), .val (.int (1 : Int32)), .val (.int (2 : Int32)), .val (.int (f2 (0 : Int32) (1 : Int32) (2 : Int32) b0)), .val (.int (f2 (1 : Int32) (1 : Int32) (2 : Int32) b1)), .val (.int (f2 (2 : Int32) (1 : Int32) (2 : Int32) b2)), .val (.int (f2 (3 : Int32) (1 : Int32) (2 : Int32) b3)), .val (.int ((((f2 (0 : Int32) (1 : Int32) (2 : Int32) b0) + (f2 (1 : Int32) (1 : Int32) (2 : Int32) b1)) + (f2 (2 : Int32) (1 : Int32) (2 : Int32) b2)) + (f2 (3 : Int32) (1 : Int32) (2 : Int32) b3)))]) rfl (pc' := 150) rfl ?_
                have e_J : (oE (f2 (0 : Int32) (1 : Int32) (2 : Int32) b0) (f2 (1 : Int32) (1 : Int32) (2 : Int32) b1) (f2 (2 : Int32) (1 : Int32) (2 : Int32) b2) (f2 (3 : Int32) (1 : Int32) (2 : Int32) b3)) = ((((f2 (0 : Int32) (1 : Int32) (2 : Int32) b0) + (f2 (1 : Int32) (1 : Int32) (2 : Int32) b1)) + (f2 (2 : Int32) (1 : Int32) (2 : Int32) b2)) + (f2 (3 : Int32) (1 : Int32) (2 : Int32) b3)) := by rw [oE, if_neg c113_224, if_neg c118_225, if_neg c123_226, if_neg c128_227]
                rw [e_J] at J
                exact J _ X223
      intro T228 X229
      show Go p e below s _ _ _ _ _ T228 (mkF m 150 #[.val (.int p0), .val (.int p1), .val (.int p2), .val (.int p3), .val (.int p4), .val (.ref a81), .val (.int (1 : Int32)), .val (.int (2 : Int32)), .val (.int (f2 (0 : Int32) (1 : Int32) (2 : Int32) b0)), .val (.int (f2 (1 : Int32) (1 : Int32) (2 : Int32) b1)), .val (.int (f2 (2 : Int32) (1 : Int32) (2 : Int32) b2)), .val (.int (f2 (3 : Int32) (1 : Int32) (2 : Int32) b3)), .val (.int (oE (f2 (0 : Int32) (1 : Int32) (2 : Int32) b0) (f2 (1 : Int32) (1 : Int32) (2 : Int32) b1) (f2 (2 : Int32) (1 : Int32) (2 : Int32) b2) (f2 (3 : Int32) (1 : Int32) (2 : Int32) b3)))] [])
      refine gaload B X229 at_150 rfl rfl (pc' := 152) rfl ?_
      refine giload B X229 at_152 rfl (pc' := 154) rfl ?_
      refine giload B X229 at_154 rfl (pc' := 156) rfl ?_
      refine gcallS B X229 (hw _ (List.mem_of_getElem? (i := 8) rfl)) (hw _ (List.mem_of_getElem? (i := 9) rfl)) (hw _ (List.mem_of_getElem? (i := 10) rfl)) (hw _ (List.mem_of_getElem? (i := 11) rfl)) (by decide) (mt3_1 l Z a0 hw a81 (2 : Int32) b0 b1 b2 b3 h110 A113 (by decide)) pd___BII_I rfl (argsL := [(.ref a81), (.int (1 : Int32)), (.int (2 : Int32))]) (st := []) rfl rfl (W := 0) (Nat.le_of_eq rfl) (by decide) (by decide) (by decide) (by decide) (fun x q => nomatch q) at_156 rfl (pureG rfl rfl fun T230 X231 => ?_)
      refine giload B X231 at_159 rfl (pc' := 161) rfl ?_
      have c161_232 : (f3_1 (2 : Int32) b0 b1 b2 b3) = (oE (f2 (0 : Int32) (1 : Int32) (2 : Int32) b0) (f2 (1 : Int32) (1 : Int32) (2 : Int32) b1) (f2 (2 : Int32) (1 : Int32) (2 : Int32) b2) (f2 (3 : Int32) (1 : Int32) (2 : Int32) b3)) := own_fin12 b0 b1 b2 b3
      refine gicN B X231 at_161 (teq c161_232).2 (pc' := 164) rfl ?_
      refine giconst B X231 at_164 (v := (1 : Int32)) rfl (pc' := 165) rfl ?_
      refine ggoto B X231 (pc' := 169) at_165 (by decide) ?_
      exact gretN B X231 (z' := (1 : Int32)) (by simp) (rfl) at_169 (by decide) (by decide) (rfl)
    · skip
      refine gaload B X111 at_63 rfl rfl (pc' := 65) rfl ?_
      refine giconst B X111 at_65 (v := (0 : Int32)) rfl (pc' := 66) rfl ?_
      refine giload B X111 at_66 rfl (pc' := 68) rfl ?_
      refine giload B X111 at_68 rfl (pc' := 70) rfl ?_
      refine gcallS B X111 (hw _ (List.mem_of_getElem? (i := 5) rfl)) (hw _ (List.mem_of_getElem? (i := 6) rfl)) (hw _ (List.mem_of_getElem? (i := 3) rfl)) (hw _ (List.mem_of_getElem? (i := 7) rfl)) (by decide) (mt2 l Z a0 hw a81 (0 : Int32) (1 : Int32) (3 : Int32) [(.int b0), (.int b1), (.int b2), (.int b3)] b0 h110 A113 rfl (by decide) rfl) pd___BIII_I rfl (argsL := [(.ref a81), (.int (0 : Int32)), (.int (1 : Int32)), (.int (3 : Int32))]) (st := []) rfl rfl (W := 0) (Nat.le_of_eq rfl) (by decide) (by decide) (by decide) (by decide) (fun x q => nomatch q) at_70 rfl (pureG rfl rfl fun T233 X234 => ?_)
      refine gistore B X234 at_73 (Ls' := #[.val (.int p0), .val (.int p1), .val (.int p2), .val (.int p3), .val (.int p4), .val (.ref a81), .val (.int (1 : Int32)), .val (.int (3 : Int32)), .val (.int (f2 (0 : Int32) (1 : Int32) (3 : Int32) b0)), .unset, .unset, .unset, .unset]) rfl (pc' := 75) rfl ?_
      refine gaload B X234 at_75 rfl rfl (pc' := 77) rfl ?_
      refine giconst B X234 at_77 (v := (1 : Int32)) rfl (pc' := 78) rfl ?_
      refine giload B X234 at_78 rfl (pc' := 80) rfl ?_
      refine giload B X234 at_80 rfl (pc' := 82) rfl ?_
      refine gcallS B X234 (hw _ (List.mem_of_getElem? (i := 5) rfl)) (hw _ (List.mem_of_getElem? (i := 6) rfl)) (hw _ (List.mem_of_getElem? (i := 3) rfl)) (hw _ (List.mem_of_getElem? (i := 7) rfl)) (by decide) (mt2 l Z a0 hw a81 (1 : Int32) (1 : Int32) (3 : Int32) [(.int b0), (.int b1), (.int b2), (.int b3)] b1 h110 A113 rfl (by decide) rfl) pd___BIII_I rfl (argsL := [(.ref a81), (.int (1 : Int32)), (.int (1 : Int32)), (.int (3 : Int32))]) (st := []) rfl rfl (W := 0) (Nat.le_of_eq rfl) (by decide) (by decide) (by decide) (by decide) (fun x q => nomatch q) at_82 rfl (pureG rfl rfl fun T235 X236 => ?_)
      refine gistore B X236 at_85 (Ls' := #[.val (.int p0), .val (.int p1), .val (.int p2), .val (.int p3), .val (.int p4), .val (.ref a81), .val (.int (1 : Int32)), .val (.int (3 : Int32)), .val (.int (f2 (0 : Int32) (1 : Int32) (3 : Int32) b0)), .val (.int (f2 (1 : Int32) (1 : Int32) (3 : Int32) b1)), .unset, .unset, .unset]) rfl (pc' := 87) rfl ?_
      refine gaload B X236 at_87 rfl rfl (pc' := 89) rfl ?_
      refine giconst B X236 at_89 (v := (2 : Int32)) rfl (pc' := 90) rfl ?_
      refine giload B X236 at_90 rfl (pc' := 92) rfl ?_
      refine giload B X236 at_92 rfl (pc' := 94) rfl ?_
      refine gcallS B X236 (hw _ (List.mem_of_getElem? (i := 5) rfl)) (hw _ (List.mem_of_getElem? (i := 6) rfl)) (hw _ (List.mem_of_getElem? (i := 3) rfl)) (hw _ (List.mem_of_getElem? (i := 7) rfl)) (by decide) (mt2 l Z a0 hw a81 (2 : Int32) (1 : Int32) (3 : Int32) [(.int b0), (.int b1), (.int b2), (.int b3)] b2 h110 A113 rfl (by decide) rfl) pd___BIII_I rfl (argsL := [(.ref a81), (.int (2 : Int32)), (.int (1 : Int32)), (.int (3 : Int32))]) (st := []) rfl rfl (W := 0) (Nat.le_of_eq rfl) (by decide) (by decide) (by decide) (by decide) (fun x q => nomatch q) at_94 rfl (pureG rfl rfl fun T237 X238 => ?_)
      refine gistore B X238 at_97 (Ls' := #[.val (.int p0), .val (.int p1), .val (.int p2), .val (.int p3), .val (.int p4), .val (.ref a81), .val (.int (1 : Int32)), .val (.int (3 : Int32)), .val (.int (f2 (0 : Int32) (1 : Int32) (3 : Int32) b0)), .val (.int (f2 (1 : Int32) (1 : Int32) (3 : Int32) b1)), .val (.int (f2 (2 : Int32) (1 : Int32) (3 : Int32) b2)), .unset, .unset]) rfl (pc' := 99) rfl ?_
      refine gaload B X238 at_99 rfl rfl (pc' := 101) rfl ?_
      refine giconst B X238 at_101 (v := (3 : Int32)) rfl (pc' := 102) rfl ?_
      refine giload B X238 at_102 rfl (pc' := 104) rfl ?_
      refine giload B X238 at_104 rfl (pc' := 106) rfl ?_
      refine gcallS B X238 (hw _ (List.mem_of_getElem? (i := 5) rfl)) (hw _ (List.mem_of_getElem? (i := 6) rfl)) (hw _ (List.mem_of_getElem? (i := 3) rfl)) (hw _ (List.mem_of_getElem? (i := 7) rfl)) (by decide) (mt2 l Z a0 hw a81 (3 : Int32) (1 : Int32) (3 : Int32) [(.int b0), (.int b1), (.int b2), (.int b3)] b3 h110 A113 rfl (by decide) rfl) pd___BIII_I rfl (argsL := [(.ref a81), (.int (3 : Int32)), (.int (1 : Int32)), (.int (3 : Int32))]) (st := []) rfl rfl (W := 0) (Nat.le_of_eq rfl) (by decide) (by decide) (by decide) (by decide) (fun x q => nomatch q) at_106 rfl (pureG rfl rfl fun T239 X240 => ?_)
      refine gistore B X240 at_109 (Ls' := #[.val (.int p0), .val (.int p1), .val (.int p2), .val (.int p3), .val (.int p4), .val (.ref a81), .val (.int (1 : Int32)), .val (.int (3 : Int32)), .val (.int (f2 (0 : Int32) (1 : Int32) (3 : Int32) b0)), .val (.int (f2 (1 : Int32) (1 : Int32) (3 : Int32) b1)), .val (.int (f2 (2 : Int32) (1 : Int32) (3 : Int32) b2)), .val (.int (f2 (3 : Int32) (1 : Int32) (3 : Int32) b3)), .unset]) rfl (pc' := 111) rfl ?_
      refine joinG B X240 (F := fun z => (mkF m 150 #[.val (.int p0), .val (.int p1), .val (.int p2), .val (.int p3), .val (.int p4), .val (.ref a81), .val (.int (1 : Int32)), .val (.int (3 : Int32)), .val (.int (f2 (0 : Int32) (1 : Int32) (3 : Int32) b0)), .val (.int (f2 (1 : Int32) (1 : Int32) (3 : Int32) b1)), .val (.int (f2 (2 : Int32) (1 : Int32) (3 : Int32) b2)), .val (.int (f2 (3 : Int32) (1 : Int32) (3 : Int32) b3)), .val (.int z)] [])) (r := (oE (f2 (0 : Int32) (1 : Int32) (3 : Int32) b0) (f2 (1 : Int32) (1 : Int32) (3 : Int32) b1) (f2 (2 : Int32) (1 : Int32) (3 : Int32) b2) (f2 (3 : Int32) (1 : Int32) (3 : Int32) b3))) (fun J => ?_) ?_
      · refine giload B X240 at_111 rfl (pc' := 113) rfl ?_
        by_cases c113_241 : (f2 (0 : Int32) (1 : Int32) (3 : Int32) b0) < (0 : Int32)
        · refine gifY B X240 (pc' := 131) at_113 ((if0 _ _).trans (tlt c113_241).1) (by decide) ?_
          refine giconst B X240 at_131 (v := (-1 : Int32)) rfl (pc' := 132) rfl ?_
          refine gistore B X240 at_132 (Ls' := #[.val (.int p0), .val (.int p1), .val (.int p2), .val (.int p3), .val (.int p4), .val (.ref a81), .val (.int (1 : Int32)), .val (.int (3 : Int32)), .val (.int (f2 (0 : Int32) (1 : Int32) (3 : Int32) b0)), .val (.int (f2 (1 : Int32) (1 : Int32) (3 : Int32) b1)), .val (.int (f2 (2 : Int32) (1 : Int32) (3 : Int32) b2)), .val (.int (f2 (3 : Int32) (1 : Int32) (3 : Int32) b3)), .val (.int (-1 : Int32))]) rfl (pc' := 134) rfl ?_
          refine ggoto B X240 (pc' := 150) at_134 (by decide) ?_
          have e_J : (oE (f2 (0 : Int32) (1 : Int32) (3 : Int32) b0) (f2 (1 : Int32) (1 : Int32) (3 : Int32) b1) (f2 (2 : Int32) (1 : Int32) (3 : Int32) b2) (f2 (3 : Int32) (1 : Int32) (3 : Int32) b3)) = (-1 : Int32) := by rw [oE, if_pos c113_241]
          rw [e_J] at J
          exact J _ X240
        · refine gifN B X240 at_113 ((if0 _ _).trans (flt c113_241).1) (pc' := 116) rfl ?_
          refine giload B X240 at_116 rfl (pc' := 118) rfl ?_
          by_cases c118_242 : (f2 (1 : Int32) (1 : Int32) (3 : Int32) b1) < (0 : Int32)
          · refine gifY B X240 (pc' := 131) at_118 ((if0 _ _).trans (tlt c118_242).1) (by decide) ?_
            refine giconst B X240 at_131 (v := (-1 : Int32)) rfl (pc' := 132) rfl ?_
            refine gistore B X240 at_132 (Ls' := #[.val (.int p0), .val (.int p1), .val (.int p2), .val (.int p3), .val (.int p4), .val (.ref a81), .val (.int (1 : Int32)), .val (.int (3 : Int32)), .val (.int (f2 (0 : Int32) (1 : Int32) (3 : Int32) b0)), .val (.int (f2 (1 : Int32) (1 : Int32) (3 : Int32) b1)), .val (.int (f2 (2 : Int32) (1 : Int32) (3 : Int32) b2)), .val (.int (f2 (3 : Int32) (1 : Int32) (3 : Int32) b3)), .val (.int (-1 : Int32))]) rfl (pc' := 134) rfl ?_
            refine ggoto B X240 (pc' := 150) at_134 (by decide) ?_
            have e_J : (oE (f2 (0 : Int32) (1 : Int32) (3 : Int32) b0) (f2 (1 : Int32) (1 : Int32) (3 : Int32) b1) (f2 (2 : Int32) (1 : Int32) (3 : Int32) b2) (f2 (3 : Int32) (1 : Int32) (3 : Int32) b3)) = (-1 : Int32) := by rw [oE, if_neg c113_241, if_pos c118_242]
            rw [e_J] at J
            exact J _ X240
          · refine gifN B X240 at_118 ((if0 _ _).trans (flt c118_242).1) (pc' := 121) rfl ?_
            refine giload B X240 at_121 rfl (pc' := 123) rfl ?_
            by_cases c123_243 : (f2 (2 : Int32) (1 : Int32) (3 : Int32) b2) < (0 : Int32)
            · refine gifY B X240 (pc' := 131) at_123 ((if0 _ _).trans (tlt c123_243).1) (by decide) ?_
              refine giconst B X240 at_131 (v := (-1 : Int32)) rfl (pc' := 132) rfl ?_
              refine gistore B X240 at_132 (Ls' := #[.val (.int p0), .val (.int p1), .val (.int p2), .val (.int p3), .val (.int p4), .val (.ref a81), .val (.int (1 : Int32)), .val (.int (3 : Int32)), .val (.int (f2 (0 : Int32) (1 : Int32) (3 : Int32) b0)), .val (.int (f2 (1 : Int32) (1 : Int32) (3 : Int32) b1)), .val (.int (f2 (2 : Int32) (1 : Int32) (3 : Int32) b2)), .val (.int (f2 (3 : Int32) (1 : Int32) (3 : Int32) b3)), .val (.int (-1 : Int32))]) rfl (pc' := 134) rfl ?_
              refine ggoto B X240 (pc' := 150) at_134 (by decide) ?_
              have e_J : (oE (f2 (0 : Int32) (1 : Int32) (3 : Int32) b0) (f2 (1 : Int32) (1 : Int32) (3 : Int32) b1) (f2 (2 : Int32) (1 : Int32) (3 : Int32) b2) (f2 (3 : Int32) (1 : Int32) (3 : Int32) b3)) = (-1 : Int32) := by rw [oE, if_neg c113_241, if_neg c118_242, if_pos c123_243]
              rw [e_J] at J
              exact J _ X240
            · refine gifN B X240 at_123 ((if0 _ _).trans (flt c123_243).1) (pc' := 126) rfl ?_
              refine giload B X240 at_126 rfl (pc' := 128) rfl ?_
              by_cases c128_244 : (f2 (3 : Int32) (1 : Int32) (3 : Int32) b3) < (0 : Int32)
              · refine gifN B X240 at_128 ((if0 _ _).trans (tlt c128_244).2.1) (pc' := 131) rfl ?_
                refine giconst B X240 at_131 (v := (-1 : Int32)) rfl (pc' := 132) rfl ?_
                refine gistore B X240 at_132 (Ls' := #[.val (.int p0), .val (.int p1), .val (.int p2), .val (.int p3), .val (.int p4), .val (.ref a81), .val (.int (1 : Int32)), .val (.int (3 : Int32)), .val (.int (f2 (0 : Int32) (1 : Int32) (3 : Int32) b0)), .val (.int (f2 (1 : Int32) (1 : Int32) (3 : Int32) b1)), .val (.int (f2 (2 : Int32) (1 : Int32) (3 : Int32) b2)), .val (.int (f2 (3 : Int32) (1 : Int32) (3 : Int32) b3)), .val (.int (-1 : Int32))]) rfl (pc' := 134) rfl ?_
                refine ggoto B X240 (pc' := 150) at_134 (by decide) ?_
                have e_J : (oE (f2 (0 : Int32) (1 : Int32) (3 : Int32) b0) (f2 (1 : Int32) (1 : Int32) (3 : Int32) b1) (f2 (2 : Int32) (1 : Int32) (3 : Int32) b2) (f2 (3 : Int32) (1 : Int32) (3 : Int32) b3)) = (-1 : Int32) := by rw [oE, if_neg c113_241, if_neg c118_242, if_neg c123_243, if_pos c128_244]
                rw [e_J] at J
                exact J _ X240
              · refine gifY B X240 (pc' := 137) at_128 ((if0 _ _).trans (flt c128_244).2.1) (by decide) ?_
                refine giload B X240 at_137 rfl (pc' := 139) rfl ?_
                refine giload B X240 at_139 rfl (pc' := 141) rfl ?_
                refine giadd B X240 at_141 rfl (pc' := 142) rfl ?_
                refine giload B X240 at_142 rfl (pc' := 144) rfl ?_
                refine giadd B X240 at_144 rfl (pc' := 145) rfl ?_
                refine giload B X240 at_145 rfl (pc' := 147) rfl ?_
                refine giadd B X240 at_147 rfl (pc' := 148) rfl ?_
                refine gistore B X240 at_148 (Ls' := #[.val (.int p0), .val (.int p1), .val (.int p2), .val (.int p3), .val (.int p4), .val (.ref a81), .val (.int (1 : Int32)), .val (.int (3 : Int32)), .val (.int (f2 (0 : Int32) (1 : Int32) (3 : Int32) b0)), .val (.int (f2 (1 : Int32) (1 : Int32) (3 : Int32) b1)), .val (.int (f2 (2 : Int32) (1 : Int32) (3 : Int32) b2)), .val (.int (f2 (3 : Int32) (1 : Int32) (3 : Int32) b3)), .val (.int ((((f2 (0 : Int32) (1 : Int32) (3 : Int32) b0) + (f2 (1 : Int32) (1 : Int32) (3 : Int32) b1)) + (f2 (2 : Int32) (1 : Int32) (3 : Int32) b2)) + (f2 (3 : Int32) (1 : Int32) (3 : Int32) b3)))]) rfl (pc' := 150) rfl ?_
                have e_J : (oE (f2 (0 : Int32) (1 : Int32) (3 : Int32) b0) (f2 (1 : Int32) (1 : Int32) (3 : Int32) b1) (f2 (2 : Int32) (1 : Int32) (3 : Int32) b2) (f2 (3 : Int32) (1 : Int32) (3 : Int32) b3)) = ((((f2 (0 : Int32) (1 : Int32) (3 : Int32) b0) + (f2 (1 : Int32) (1 : Int32) (3 : Int32) b1)) + (f2 (2 : Int32) (1 : Int32) (3 : Int32) b2)) + (f2 (3 : Int32) (1 : Int32) (3 : Int32) b3)) := by rw [oE, if_neg c113_241, if_neg c118_242, if_neg c123_243, if_neg c128_244]
                rw [e_J] at J
                exact J _ X240
      intro T245 X246
      show Go p e below s _ _ _ _ _ T245 (mkF m 150 #[.val (.int p0), .val (.int p1), .val (.int p2), .val (.int p3), .val (.int p4), .val (.ref a81), .val (.int (1 : Int32)), .val (.int (3 : Int32)), .val (.int (f2 (0 : Int32) (1 : Int32) (3 : Int32) b0)), .val (.int (f2 (1 : Int32) (1 : Int32) (3 : Int32) b1)), .val (.int (f2 (2 : Int32) (1 : Int32) (3 : Int32) b2)), .val (.int (f2 (3 : Int32) (1 : Int32) (3 : Int32) b3)), .val (.int (oE (f2 (0 : Int32) (1 : Int32) (3 : Int32) b0) (f2 (1 : Int32) (1 : Int32) (3 : Int32) b1) (f2 (2 : Int32) (1 : Int32) (3 : Int32) b2) (f2 (3 : Int32) (1 : Int32) (3 : Int32) b3)))] [])
      refine gaload B X246 at_150 rfl rfl (pc' := 152) rfl ?_
      refine giload B X246 at_152 rfl (pc' := 154) rfl ?_
      refine giload B X246 at_154 rfl (pc' := 156) rfl ?_
      refine gcallS B X246 (hw _ (List.mem_of_getElem? (i := 8) rfl)) (hw _ (List.mem_of_getElem? (i := 9) rfl)) (hw _ (List.mem_of_getElem? (i := 10) rfl)) (hw _ (List.mem_of_getElem? (i := 11) rfl)) (by decide) (mt3_1 l Z a0 hw a81 (3 : Int32) b0 b1 b2 b3 h110 A113 (by decide)) pd___BII_I rfl (argsL := [(.ref a81), (.int (1 : Int32)), (.int (3 : Int32))]) (st := []) rfl rfl (W := 0) (Nat.le_of_eq rfl) (by decide) (by decide) (by decide) (by decide) (fun x q => nomatch q) at_156 rfl (pureG rfl rfl fun T247 X248 => ?_)
      refine giload B X248 at_159 rfl (pc' := 161) rfl ?_
      have c161_249 : (f3_1 (3 : Int32) b0 b1 b2 b3) = (oE (f2 (0 : Int32) (1 : Int32) (3 : Int32) b0) (f2 (1 : Int32) (1 : Int32) (3 : Int32) b1) (f2 (2 : Int32) (1 : Int32) (3 : Int32) b2) (f2 (3 : Int32) (1 : Int32) (3 : Int32) b3)) := own_fin13 b0 b1 b2 b3
      refine gicN B X248 at_161 (teq c161_249).2 (pc' := 164) rfl ?_
      refine giconst B X248 at_164 (v := (1 : Int32)) rfl (pc' := 165) rfl ?_
      refine ggoto B X248 (pc' := 169) at_165 (by decide) ?_
      exact gretN B X248 (z' := (1 : Int32)) (by simp) (rfl) at_169 (by decide) (by decide) (rfl)
    · skip
      refine gaload B X111 at_63 rfl rfl (pc' := 65) rfl ?_
      refine giconst B X111 at_65 (v := (0 : Int32)) rfl (pc' := 66) rfl ?_
      refine giload B X111 at_66 rfl (pc' := 68) rfl ?_
      refine giload B X111 at_68 rfl (pc' := 70) rfl ?_
      refine gcallS B X111 (hw _ (List.mem_of_getElem? (i := 5) rfl)) (hw _ (List.mem_of_getElem? (i := 6) rfl)) (hw _ (List.mem_of_getElem? (i := 3) rfl)) (hw _ (List.mem_of_getElem? (i := 7) rfl)) (by decide) (mt2 l Z a0 hw a81 (0 : Int32) (1 : Int32) (4 : Int32) [(.int b0), (.int b1), (.int b2), (.int b3)] b0 h110 A113 rfl (by decide) rfl) pd___BIII_I rfl (argsL := [(.ref a81), (.int (0 : Int32)), (.int (1 : Int32)), (.int (4 : Int32))]) (st := []) rfl rfl (W := 0) (Nat.le_of_eq rfl) (by decide) (by decide) (by decide) (by decide) (fun x q => nomatch q) at_70 rfl (pureG rfl rfl fun T250 X251 => ?_)
      refine gistore B X251 at_73 (Ls' := #[.val (.int p0), .val (.int p1), .val (.int p2), .val (.int p3), .val (.int p4), .val (.ref a81), .val (.int (1 : Int32)), .val (.int (4 : Int32)), .val (.int (f2 (0 : Int32) (1 : Int32) (4 : Int32) b0)), .unset, .unset, .unset, .unset]) rfl (pc' := 75) rfl ?_
      refine gaload B X251 at_75 rfl rfl (pc' := 77) rfl ?_
      refine giconst B X251 at_77 (v := (1 : Int32)) rfl (pc' := 78) rfl ?_
      refine giload B X251 at_78 rfl (pc' := 80) rfl ?_
      refine giload B X251 at_80 rfl (pc' := 82) rfl ?_
      refine gcallS B X251 (hw _ (List.mem_of_getElem? (i := 5) rfl)) (hw _ (List.mem_of_getElem? (i := 6) rfl)) (hw _ (List.mem_of_getElem? (i := 3) rfl)) (hw _ (List.mem_of_getElem? (i := 7) rfl)) (by decide) (mt2 l Z a0 hw a81 (1 : Int32) (1 : Int32) (4 : Int32) [(.int b0), (.int b1), (.int b2), (.int b3)] b1 h110 A113 rfl (by decide) rfl) pd___BIII_I rfl (argsL := [(.ref a81), (.int (1 : Int32)), (.int (1 : Int32)), (.int (4 : Int32))]) (st := []) rfl rfl (W := 0) (Nat.le_of_eq rfl) (by decide) (by decide) (by decide) (by decide) (fun x q => nomatch q) at_82 rfl (pureG rfl rfl fun T252 X253 => ?_)
      refine gistore B X253 at_85 (Ls' := #[.val (.int p0), .val (.int p1), .val (.int p2), .val (.int p3), .val (.int p4), .val (.ref a81), .val (.int (1 : Int32)), .val (.int (4 : Int32)), .val (.int (f2 (0 : Int32) (1 : Int32) (4 : Int32) b0)), .val (.int (f2 (1 : Int32) (1 : Int32) (4 : Int32) b1)), .unset, .unset, .unset]) rfl (pc' := 87) rfl ?_
      refine gaload B X253 at_87 rfl rfl (pc' := 89) rfl ?_
      refine giconst B X253 at_89 (v := (2 : Int32)) rfl (pc' := 90) rfl ?_
      refine giload B X253 at_90 rfl (pc' := 92) rfl ?_
      refine giload B X253 at_92 rfl (pc' := 94) rfl ?_
      refine gcallS B X253 (hw _ (List.mem_of_getElem? (i := 5) rfl)) (hw _ (List.mem_of_getElem? (i := 6) rfl)) (hw _ (List.mem_of_getElem? (i := 3) rfl)) (hw _ (List.mem_of_getElem? (i := 7) rfl)) (by decide) (mt2 l Z a0 hw a81 (2 : Int32) (1 : Int32) (4 : Int32) [(.int b0), (.int b1), (.int b2), (.int b3)] b2 h110 A113 rfl (by decide) rfl) pd___BIII_I rfl (argsL := [(.ref a81), (.int (2 : Int32)), (.int (1 : Int32)), (.int (4 : Int32))]) (st := []) rfl rfl (W := 0) (Nat.le_of_eq rfl) (by decide) (by decide) (by decide) (by decide) (fun x q => nomatch q) at_94 rfl (pureG rfl rfl fun T254 X255 => ?_)
      refine gistore B X255 at_97 (Ls' := #[.val (.int p0), .val (.int p1), .val (.int p2), .val (.int p3), .val (.int p4), .val (.ref a81), .val (.int (1 : Int32)), .val (.int (4 : Int32)), .val (.int (f2 (0 : Int32) (1 : Int32) (4 : Int32) b0)), .val (.int (f2 (1 : Int32) (1 : Int32) (4 : Int32) b1)), .val (.int (f2 (2 : Int32) (1 : Int32) (4 : Int32) b2)), .unset, .unset]) rfl (pc' := 99) rfl ?_
      refine gaload B X255 at_99 rfl rfl (pc' := 101) rfl ?_
      refine giconst B X255 at_101 (v := (3 : Int32)) rfl (pc' := 102) rfl ?_
      refine giload B X255 at_102 rfl (pc' := 104) rfl ?_
      refine giload B X255 at_104 rfl (pc' := 106) rfl ?_
      refine gcallS B X255 (hw _ (List.mem_of_getElem? (i := 5) rfl)) (hw _ (List.mem_of_getElem? (i := 6) rfl)) (hw _ (List.mem_of_getElem? (i := 3) rfl)) (hw _ (List.mem_of_getElem? (i := 7) rfl)) (by decide) (mt2 l Z a0 hw a81 (3 : Int32) (1 : Int32) (4 : Int32) [(.int b0), (.int b1), (.int b2), (.int b3)] b3 h110 A113 rfl (by decide) rfl) pd___BIII_I rfl (argsL := [(.ref a81), (.int (3 : Int32)), (.int (1 : Int32)), (.int (4 : Int32))]) (st := []) rfl rfl (W := 0) (Nat.le_of_eq rfl) (by decide) (by decide) (by decide) (by decide) (fun x q => nomatch q) at_106 rfl (pureG rfl rfl fun T256 X257 => ?_)
      refine gistore B X257 at_109 (Ls' := #[.val (.int p0), .val (.int p1), .val (.int p2), .val (.int p3), .val (.int p4), .val (.ref a81), .val (.int (1 : Int32)), .val (.int (4 : Int32)), .val (.int (f2 (0 : Int32) (1 : Int32) (4 : Int32) b0)), .val (.int (f2 (1 : Int32) (1 : Int32) (4 : Int32) b1)), .val (.int (f2 (2 : Int32) (1 : Int32) (4 : Int32) b2)), .val (.int (f2 (3 : Int32) (1 : Int32) (4 : Int32) b3)), .unset]) rfl (pc' := 111) rfl ?_
      refine joinG B X257 (F := fun z => (mkF m 150 #[.val (.int p0), .val (.int p1), .val (.int p2), .val (.int p3), .val (.int p4), .val (.ref a81), .val (.int (1 : Int32)), .val (.int (4 : Int32)), .val (.int (f2 (0 : Int32) (1 : Int32) (4 : Int32) b0)), .val (.int (f2 (1 : Int32) (1 : Int32) (4 : Int32) b1)), .val (.int (f2 (2 : Int32) (1 : Int32) (4 : Int32) b2)), .val (.int (f2 (3 : Int32) (1 : Int32) (4 : Int32) b3)), .val (.int z)] [])) (r := (oE (f2 (0 : Int32) (1 : Int32) (4 : Int32) b0) (f2 (1 : Int32) (1 : Int32) (4 : Int32) b1) (f2 (2 : Int32) (1 : Int32) (4 : Int32) b2) (f2 (3 : Int32) (1 : Int32) (4 : Int32) b3))) (fun J => ?_) ?_
      · refine giload B X257 at_111 rfl (pc' := 113) rfl ?_
        by_cases c113_258 : (f2 (0 : Int32) (1 : Int32) (4 : Int32) b0) < (0 : Int32)
        · refine gifY B X257 (pc' := 131) at_113 ((if0 _ _).trans (tlt c113_258).1) (by decide) ?_
          refine giconst B X257 at_131 (v := (-1 : Int32)) rfl (pc' := 132) rfl ?_
          refine gistore B X257 at_132 (Ls' := #[.val (.int p0), .val (.int p1), .val (.int p2), .val (.int p3), .val (.int p4), .val (.ref a81), .val (.int (1 : Int32)), .val (.int (4 : Int32)), .val (.int (f2 (0 : Int32) (1 : Int32) (4 : Int32) b0)), .val (.int (f2 (1 : Int32) (1 : Int32) (4 : Int32) b1)), .val (.int (f2 (2 : Int32) (1 : Int32) (4 : Int32) b2)), .val (.int (f2 (3 : Int32) (1 : Int32) (4 : Int32) b3)), .val (.int (-1 : Int32))]) rfl (pc' := 134) rfl ?_
          refine ggoto B X257 (pc' := 150) at_134 (by decide) ?_
          have e_J : (oE (f2 (0 : Int32) (1 : Int32) (4 : Int32) b0) (f2 (1 : Int32) (1 : Int32) (4 : Int32) b1) (f2 (2 : Int32) (1 : Int32) (4 : Int32) b2) (f2 (3 : Int32) (1 : Int32) (4 : Int32) b3)) = (-1 : Int32) := by rw [oE, if_pos c113_258]
          rw [e_J] at J
          exact J _ X257
        · refine gifN B X257 at_113 ((if0 _ _).trans (flt c113_258).1) (pc' := 116) rfl ?_
          refine giload B X257 at_116 rfl (pc' := 118) rfl ?_
          by_cases c118_259 : (f2 (1 : Int32) (1 : Int32) (4 : Int32) b1) < (0 : Int32)
          · refine gifY B X257 (pc' := 131) at_118 ((if0 _ _).trans (tlt c118_259).1) (by decide) ?_
            refine giconst B X257 at_131 (v := (-1 : Int32)) rfl (pc' := 132) rfl ?_
            refine gistore B X257 at_132 (Ls' := #[.val (.int p0), .val (.int p1), .val (.int p2), .val (.int p3), .val (.int p4), .val (.ref a81), .val (.int (1 : Int32)), .val (.int (4 : Int32)), .val (.int (f2 (0 : Int32) (1 : Int32) (4 : Int32) b0)), .val (.int (f2 (1 : Int32) (1 : Int32) (4 : Int32) b1)), .val (.int (f2 (2 : Int32) (1 : Int32) (4 : Int32) b2)), .val (.int (f2 (3 : Int32) (1 : Int32) (4 : Int32) b3)), .val (.int (-1 : Int32))]) rfl (pc' := 134) rfl ?_
            refine ggoto B X257 (pc' := 150) at_134 (by decide) ?_
            have e_J : (oE (f2 (0 : Int32) (1 : Int32) (4 : Int32) b0) (f2 (1 : Int32) (1 : Int32) (4 : Int32) b1) (f2 (2 : Int32) (1 : Int32) (4 : Int32) b2) (f2 (3 : Int32) (1 : Int32) (4 : Int32) b3)) = (-1 : Int32) := by rw [oE, if_neg c113_258, if_pos c118_259]
            rw [e_J] at J
            exact J _ X257
          · refine gifN B X257 at_118 ((if0 _ _).trans (flt c118_259).1) (pc' := 121) rfl ?_
            refine giload B X257 at_121 rfl (pc' := 123) rfl ?_
            by_cases c123_260 : (f2 (2 : Int32) (1 : Int32) (4 : Int32) b2) < (0 : Int32)
            · refine gifY B X257 (pc' := 131) at_123 ((if0 _ _).trans (tlt c123_260).1) (by decide) ?_
              refine giconst B X257 at_131 (v := (-1 : Int32)) rfl (pc' := 132) rfl ?_
              refine gistore B X257 at_132 (Ls' := #[.val (.int p0), .val (.int p1), .val (.int p2), .val (.int p3), .val (.int p4), .val (.ref a81), .val (.int (1 : Int32)), .val (.int (4 : Int32)), .val (.int (f2 (0 : Int32) (1 : Int32) (4 : Int32) b0)), .val (.int (f2 (1 : Int32) (1 : Int32) (4 : Int32) b1)), .val (.int (f2 (2 : Int32) (1 : Int32) (4 : Int32) b2)), .val (.int (f2 (3 : Int32) (1 : Int32) (4 : Int32) b3)), .val (.int (-1 : Int32))]) rfl (pc' := 134) rfl ?_
              refine ggoto B X257 (pc' := 150) at_134 (by decide) ?_
              have e_J : (oE (f2 (0 : Int32) (1 : Int32) (4 : Int32) b0) (f2 (1 : Int32) (1 : Int32) (4 : Int32) b1) (f2 (2 : Int32) (1 : Int32) (4 : Int32) b2) (f2 (3 : Int32) (1 : Int32) (4 : Int32) b3)) = (-1 : Int32) := by rw [oE, if_neg c113_258, if_neg c118_259, if_pos c123_260]
              rw [e_J] at J
              exact J _ X257
            · refine gifN B X257 at_123 ((if0 _ _).trans (flt c123_260).1) (pc' := 126) rfl ?_
              refine giload B X257 at_126 rfl (pc' := 128) rfl ?_
              by_cases c128_261 : (f2 (3 : Int32) (1 : Int32) (4 : Int32) b3) < (0 : Int32)
              · refine gifN B X257 at_128 ((if0 _ _).trans (tlt c128_261).2.1) (pc' := 131) rfl ?_
                refine giconst B X257 at_131 (v := (-1 : Int32)) rfl (pc' := 132) rfl ?_
                refine gistore B X257 at_132 (Ls' := #[.val (.int p0), .val (.int p1), .val (.int p2), .val (.int p3), .val (.int p4), .val (.ref a81), .val (.int (1 : Int32)), .val (.int (4 : Int32)), .val (.int (f2 (0 : Int32) (1 : Int32) (4 : Int32) b0)), .val (.int (f2 (1 : Int32) (1 : Int32) (4 : Int32) b1)), .val (.int (f2 (2 : Int32) (1 : Int32) (4 : Int32) b2)), .val (.int (f2 (3 : Int32) (1 : Int32) (4 : Int32) b3)), .val (.int (-1 : Int32))]) rfl (pc' := 134) rfl ?_
                refine ggoto B X257 (pc' := 150) at_134 (by decide) ?_
                have e_J : (oE (f2 (0 : Int32) (1 : Int32) (4 : Int32) b0) (f2 (1 : Int32) (1 : Int32) (4 : Int32) b1) (f2 (2 : Int32) (1 : Int32) (4 : Int32) b2) (f2 (3 : Int32) (1 : Int32) (4 : Int32) b3)) = (-1 : Int32) := by rw [oE, if_neg c113_258, if_neg c118_259, if_neg c123_260, if_pos c128_261]
                rw [e_J] at J
                exact J _ X257
              · refine gifY B X257 (pc' := 137) at_128 ((if0 _ _).trans (flt c128_261).2.1) (by decide) ?_
                refine giload B X257 at_137 rfl (pc' := 139) rfl ?_
                refine giload B X257 at_139 rfl (pc' := 141) rfl ?_
                refine giadd B X257 at_141 rfl (pc' := 142) rfl ?_
                refine giload B X257 at_142 rfl (pc' := 144) rfl ?_
                refine giadd B X257 at_144 rfl (pc' := 145) rfl ?_
                refine giload B X257 at_145 rfl (pc' := 147) rfl ?_
                refine giadd B X257 at_147 rfl (pc' := 148) rfl ?_
                refine gistore B X257 at_148 (Ls' := #[.val (.int p0), .val (.int p1), .val (.int p2), .val (.int p3), .val (.int p4), .val (.ref a81), .val (.int (1 : Int32)), .val (.int (4 : Int32)), .val (.int (f2 (0 : Int32) (1 : Int32) (4 : Int32) b0)), .val (.int (f2 (1 : Int32) (1 : Int32) (4 : Int32) b1)), .val (.int (f2 (2 : Int32) (1 : Int32) (4 : Int32) b2)), .val (.int (f2 (3 : Int32) (1 : Int32) (4 : Int32) b3)), .val (.int ((((f2 (0 : Int32) (1 : Int32) (4 : Int32) b0) + (f2 (1 : Int32) (1 : Int32) (4 : Int32) b1)) + (f2 (2 : Int32) (1 : Int32) (4 : Int32) b2)) + (f2 (3 : Int32) (1 : Int32) (4 : Int32) b3)))]) rfl (pc' := 150) rfl ?_
                have e_J : (oE (f2 (0 : Int32) (1 : Int32) (4 : Int32) b0) (f2 (1 : Int32) (1 : Int32) (4 : Int32) b1) (f2 (2 : Int32) (1 : Int32) (4 : Int32) b2) (f2 (3 : Int32) (1 : Int32) (4 : Int32) b3)) = ((((f2 (0 : Int32) (1 : Int32) (4 : Int32) b0) + (f2 (1 : Int32) (1 : Int32) (4 : Int32) b1)) + (f2 (2 : Int32) (1 : Int32) (4 : Int32) b2)) + (f2 (3 : Int32) (1 : Int32) (4 : Int32) b3)) := by rw [oE, if_neg c113_258, if_neg c118_259, if_neg c123_260, if_neg c128_261]
                rw [e_J] at J
                exact J _ X257
      intro T262 X263
      show Go p e below s _ _ _ _ _ T262 (mkF m 150 #[.val (.int p0), .val (.int p1), .val (.int p2), .val (.int p3), .val (.int p4), .val (.ref a81), .val (.int (1 : Int32)), .val (.int (4 : Int32)), .val (.int (f2 (0 : Int32) (1 : Int32) (4 : Int32) b0)), .val (.int (f2 (1 : Int32) (1 : Int32) (4 : Int32) b1)), .val (.int (f2 (2 : Int32) (1 : Int32) (4 : Int32) b2)), .val (.int (f2 (3 : Int32) (1 : Int32) (4 : Int32) b3)), .val (.int (oE (f2 (0 : Int32) (1 : Int32) (4 : Int32) b0) (f2 (1 : Int32) (1 : Int32) (4 : Int32) b1) (f2 (2 : Int32) (1 : Int32) (4 : Int32) b2) (f2 (3 : Int32) (1 : Int32) (4 : Int32) b3)))] [])
      refine gaload B X263 at_150 rfl rfl (pc' := 152) rfl ?_
      refine giload B X263 at_152 rfl (pc' := 154) rfl ?_
      refine giload B X263 at_154 rfl (pc' := 156) rfl ?_
      refine gcallS B X263 (hw _ (List.mem_of_getElem? (i := 8) rfl)) (hw _ (List.mem_of_getElem? (i := 9) rfl)) (hw _ (List.mem_of_getElem? (i := 10) rfl)) (hw _ (List.mem_of_getElem? (i := 11) rfl)) (by decide) (mt3_1 l Z a0 hw a81 (4 : Int32) b0 b1 b2 b3 h110 A113 (by decide)) pd___BII_I rfl (argsL := [(.ref a81), (.int (1 : Int32)), (.int (4 : Int32))]) (st := []) rfl rfl (W := 0) (Nat.le_of_eq rfl) (by decide) (by decide) (by decide) (by decide) (fun x q => nomatch q) at_156 rfl (pureG rfl rfl fun T264 X265 => ?_)
      refine giload B X265 at_159 rfl (pc' := 161) rfl ?_
      have c161_266 : (f3_1 (4 : Int32) b0 b1 b2 b3) = (oE (f2 (0 : Int32) (1 : Int32) (4 : Int32) b0) (f2 (1 : Int32) (1 : Int32) (4 : Int32) b1) (f2 (2 : Int32) (1 : Int32) (4 : Int32) b2) (f2 (3 : Int32) (1 : Int32) (4 : Int32) b3)) := own_fin14 b0 b1 b2 b3
      refine gicN B X265 at_161 (teq c161_266).2 (pc' := 164) rfl ?_
      refine giconst B X265 at_164 (v := (1 : Int32)) rfl (pc' := 165) rfl ?_
      refine ggoto B X265 (pc' := 169) at_165 (by decide) ?_
      exact gretN B X265 (z' := (1 : Int32)) (by simp) (rfl) at_169 (by decide) (by decide) (rfl)
  · skip
    refine giload B X111 at_46 rfl (pc' := 48) rfl ?_
    refine giload B X111 at_48 rfl (pc' := 50) rfl ?_
    refine giconst B X111 at_50 (v := (3 : Int32)) rfl (pc' := 51) rfl ?_
    refine giushr B X111 at_51 rfl (pc' := 52) rfl ?_
    refine gbipush B X111 at_52 (v := (7 : Int32)) rfl (pc' := 54) rfl ?_
    refine giand B X111 at_54 rfl (pc' := 55) rfl ?_
    refine giconst B X111 at_55 (v := (5 : Int32)) rfl (pc' := 56) rfl ?_
    refine giload B X111 at_56 rfl (pc' := 58) rfl ?_
    refine gisub B X111 at_58 (v := (3 : Int32)) (by decide) (pc' := 59) rfl ?_
    refine girem B X111 at_59 (by decide) rfl (pc' := 60) rfl ?_
    refine giadd B X111 at_60 rfl (pc' := 61) rfl ?_
    generalize e_qto : ((2 : Int32) + ((((p4.toUInt32 >>> ((3 : Int32) &&& 31).toUInt32).toInt32) &&& (7 : Int32)) % (3 : Int32))) = qto
    refine gistore B X111 at_61 (Ls' := #[.val (.int p0), .val (.int p1), .val (.int p2), .val (.int p3), .val (.int p4), .val (.ref a81), .val (.int (2 : Int32)), .val (.int qto), .unset, .unset, .unset, .unset, .unset]) rfl (pc' := 63) rfl ?_
    have h5 := own_to2 ((p4.toUInt32 >>> ((3 : Int32) &&& 31).toUInt32).toInt32); rw [e_qto] at h5; clear e_qto
    rcases h5 with rfl | rfl | rfl
    · skip
      refine gaload B X111 at_63 rfl rfl (pc' := 65) rfl ?_
      refine giconst B X111 at_65 (v := (0 : Int32)) rfl (pc' := 66) rfl ?_
      refine giload B X111 at_66 rfl (pc' := 68) rfl ?_
      refine giload B X111 at_68 rfl (pc' := 70) rfl ?_
      refine gcallS B X111 (hw _ (List.mem_of_getElem? (i := 5) rfl)) (hw _ (List.mem_of_getElem? (i := 6) rfl)) (hw _ (List.mem_of_getElem? (i := 3) rfl)) (hw _ (List.mem_of_getElem? (i := 7) rfl)) (by decide) (mt2 l Z a0 hw a81 (0 : Int32) (2 : Int32) (2 : Int32) [(.int b0), (.int b1), (.int b2), (.int b3)] b0 h110 A113 rfl (by decide) rfl) pd___BIII_I rfl (argsL := [(.ref a81), (.int (0 : Int32)), (.int (2 : Int32)), (.int (2 : Int32))]) (st := []) rfl rfl (W := 0) (Nat.le_of_eq rfl) (by decide) (by decide) (by decide) (by decide) (fun x q => nomatch q) at_70 rfl (pureG rfl rfl fun T267 X268 => ?_)
      refine gistore B X268 at_73 (Ls' := #[.val (.int p0), .val (.int p1), .val (.int p2), .val (.int p3), .val (.int p4), .val (.ref a81), .val (.int (2 : Int32)), .val (.int (2 : Int32)), .val (.int (f2 (0 : Int32) (2 : Int32) (2 : Int32) b0)), .unset, .unset, .unset, .unset]) rfl (pc' := 75) rfl ?_
      refine gaload B X268 at_75 rfl rfl (pc' := 77) rfl ?_
      refine giconst B X268 at_77 (v := (1 : Int32)) rfl (pc' := 78) rfl ?_
      refine giload B X268 at_78 rfl (pc' := 80) rfl ?_
      refine giload B X268 at_80 rfl (pc' := 82) rfl ?_
      refine gcallS B X268 (hw _ (List.mem_of_getElem? (i := 5) rfl)) (hw _ (List.mem_of_getElem? (i := 6) rfl)) (hw _ (List.mem_of_getElem? (i := 3) rfl)) (hw _ (List.mem_of_getElem? (i := 7) rfl)) (by decide) (mt2 l Z a0 hw a81 (1 : Int32) (2 : Int32) (2 : Int32) [(.int b0), (.int b1), (.int b2), (.int b3)] b1 h110 A113 rfl (by decide) rfl) pd___BIII_I rfl (argsL := [(.ref a81), (.int (1 : Int32)), (.int (2 : Int32)), (.int (2 : Int32))]) (st := []) rfl rfl (W := 0) (Nat.le_of_eq rfl) (by decide) (by decide) (by decide) (by decide) (fun x q => nomatch q) at_82 rfl (pureG rfl rfl fun T269 X270 => ?_)
      refine gistore B X270 at_85 (Ls' := #[.val (.int p0), .val (.int p1), .val (.int p2), .val (.int p3), .val (.int p4), .val (.ref a81), .val (.int (2 : Int32)), .val (.int (2 : Int32)), .val (.int (f2 (0 : Int32) (2 : Int32) (2 : Int32) b0)), .val (.int (f2 (1 : Int32) (2 : Int32) (2 : Int32) b1)), .unset, .unset, .unset]) rfl (pc' := 87) rfl ?_
      refine gaload B X270 at_87 rfl rfl (pc' := 89) rfl ?_
      refine giconst B X270 at_89 (v := (2 : Int32)) rfl (pc' := 90) rfl ?_
      refine giload B X270 at_90 rfl (pc' := 92) rfl ?_
      refine giload B X270 at_92 rfl (pc' := 94) rfl ?_
      refine gcallS B X270 (hw _ (List.mem_of_getElem? (i := 5) rfl)) (hw _ (List.mem_of_getElem? (i := 6) rfl)) (hw _ (List.mem_of_getElem? (i := 3) rfl)) (hw _ (List.mem_of_getElem? (i := 7) rfl)) (by decide) (mt2 l Z a0 hw a81 (2 : Int32) (2 : Int32) (2 : Int32) [(.int b0), (.int b1), (.int b2), (.int b3)] b2 h110 A113 rfl (by decide) rfl) pd___BIII_I rfl (argsL := [(.ref a81), (.int (2 : Int32)), (.int (2 : Int32)), (.int (2 : Int32))]) (st := []) rfl rfl (W := 0) (Nat.le_of_eq rfl) (by decide) (by decide) (by decide) (by decide) (fun x q => nomatch q) at_94 rfl (pureG rfl rfl fun T271 X272 => ?_)
      refine gistore B X272 at_97 (Ls' := #[.val (.int p0), .val (.int p1), .val (.int p2), .val (.int p3), .val (.int p4), .val (.ref a81), .val (.int (2 : Int32)), .val (.int (2 : Int32)), .val (.int (f2 (0 : Int32) (2 : Int32) (2 : Int32) b0)), .val (.int (f2 (1 : Int32) (2 : Int32) (2 : Int32) b1)), .val (.int (f2 (2 : Int32) (2 : Int32) (2 : Int32) b2)), .unset, .unset]) rfl (pc' := 99) rfl ?_
      refine gaload B X272 at_99 rfl rfl (pc' := 101) rfl ?_
      refine giconst B X272 at_101 (v := (3 : Int32)) rfl (pc' := 102) rfl ?_
      refine giload B X272 at_102 rfl (pc' := 104) rfl ?_
      refine giload B X272 at_104 rfl (pc' := 106) rfl ?_
      refine gcallS B X272 (hw _ (List.mem_of_getElem? (i := 5) rfl)) (hw _ (List.mem_of_getElem? (i := 6) rfl)) (hw _ (List.mem_of_getElem? (i := 3) rfl)) (hw _ (List.mem_of_getElem? (i := 7) rfl)) (by decide) (mt2 l Z a0 hw a81 (3 : Int32) (2 : Int32) (2 : Int32) [(.int b0), (.int b1), (.int b2), (.int b3)] b3 h110 A113 rfl (by decide) rfl) pd___BIII_I rfl (argsL := [(.ref a81), (.int (3 : Int32)), (.int (2 : Int32)), (.int (2 : Int32))]) (st := []) rfl rfl (W := 0) (Nat.le_of_eq rfl) (by decide) (by decide) (by decide) (by decide) (fun x q => nomatch q) at_106 rfl (pureG rfl rfl fun T273 X274 => ?_)
      refine gistore B X274 at_109 (Ls' := #[.val (.int p0), .val (.int p1), .val (.int p2), .val (.int p3), .val (.int p4), .val (.ref a81), .val (.int (2 : Int32)), .val (.int (2 : Int32)), .val (.int (f2 (0 : Int32) (2 : Int32) (2 : Int32) b0)), .val (.int (f2 (1 : Int32) (2 : Int32) (2 : Int32) b1)), .val (.int (f2 (2 : Int32) (2 : Int32) (2 : Int32) b2)), .val (.int (f2 (3 : Int32) (2 : Int32) (2 : Int32) b3)), .unset]) rfl (pc' := 111) rfl ?_
      refine joinG B X274 (F := fun z => (mkF m 150 #[.val (.int p0), .val (.int p1), .val (.int p2), .val (.int p3), .val (.int p4), .val (.ref a81), .val (.int (2 : Int32)), .val (.int (2 : Int32)), .val (.int (f2 (0 : Int32) (2 : Int32) (2 : Int32) b0)), .val (.int (f2 (1 : Int32) (2 : Int32) (2 : Int32) b1)), .val (.int (f2 (2 : Int32) (2 : Int32) (2 : Int32) b2)), .val (.int (f2 (3 : Int32) (2 : Int32) (2 : Int32) b3)), .val (.int z)] [])) (r := (oE (f2 (0 : Int32) (2 : Int32) (2 : Int32) b0) (f2 (1 : Int32) (2 : Int32) (2 : Int32) b1) (f2 (2 : Int32) (2 : Int32) (2 : Int32) b2) (f2 (3 : Int32) (2 : Int32) (2 : Int32) b3))) (fun J => ?_) ?_
      · refine giload B X274 at_111 rfl (pc' := 113) rfl ?_
        by_cases c113_275 : (f2 (0 : Int32) (2 : Int32) (2 : Int32) b0) < (0 : Int32)
        · refine gifY B X274 (pc' := 131) at_113 ((if0 _ _).trans (tlt c113_275).1) (by decide) ?_
          refine giconst B X274 at_131 (v := (-1 : Int32)) rfl (pc' := 132) rfl ?_
          refine gistore B X274 at_132 (Ls' := #[.val (.int p0), .val (.int p1), .val (.int p2), .val (.int p3), .val (.int p4), .val (.ref a81), .val (.int (2 : Int32)), .val (.int (2 : Int32)), .val (.int (f2 (0 : Int32) (2 : Int32) (2 : Int32) b0)), .val (.int (f2 (1 : Int32) (2 : Int32) (2 : Int32) b1)), .val (.int (f2 (2 : Int32) (2 : Int32) (2 : Int32) b2)), .val (.int (f2 (3 : Int32) (2 : Int32) (2 : Int32) b3)), .val (.int (-1 : Int32))]) rfl (pc' := 134) rfl ?_
          refine ggoto B X274 (pc' := 150) at_134 (by decide) ?_
          have e_J : (oE (f2 (0 : Int32) (2 : Int32) (2 : Int32) b0) (f2 (1 : Int32) (2 : Int32) (2 : Int32) b1) (f2 (2 : Int32) (2 : Int32) (2 : Int32) b2) (f2 (3 : Int32) (2 : Int32) (2 : Int32) b3)) = (-1 : Int32) := by rw [oE, if_pos c113_275]
          rw [e_J] at J
          exact J _ X274
        · refine gifN B X274 at_113 ((if0 _ _).trans (flt c113_275).1) (pc' := 116) rfl ?_
          refine giload B X274 at_116 rfl (pc' := 118) rfl ?_
          by_cases c118_276 : (f2 (1 : Int32) (2 : Int32) (2 : Int32) b1) < (0 : Int32)
          · refine gifY B X274 (pc' := 131) at_118 ((if0 _ _).trans (tlt c118_276).1) (by decide) ?_
            refine giconst B X274 at_131 (v := (-1 : Int32)) rfl (pc' := 132) rfl ?_
            refine gistore B X274 at_132 (Ls' := #[.val (.int p0), .val (.int p1), .val (.int p2), .val (.int p3), .val (.int p4), .val (.ref a81), .val (.int (2 : Int32)), .val (.int (2 : Int32)), .val (.int (f2 (0 : Int32) (2 : Int32) (2 : Int32) b0)), .val (.int (f2 (1 : Int32) (2 : Int32) (2 : Int32) b1)), .val (.int (f2 (2 : Int32) (2 : Int32) (2 : Int32) b2)), .val (.int (f2 (3 : Int32) (2 : Int32) (2 : Int32) b3)), .val (.int (-1 : Int32))]) rfl (pc' := 134) rfl ?_
            refine ggoto B X274 (pc' := 150) at_134 (by decide) ?_
            have e_J : (oE (f2 (0 : Int32) (2 : Int32) (2 : Int32) b0) (f2 (1 : Int32) (2 : Int32) (2 : Int32) b1) (f2 (2 : Int32) (2 : Int32) (2 : Int32) b2) (f2 (3 : Int32) (2 : Int32) (2 : Int32) b3)) = (-1 : Int32) := by rw [oE, if_neg c113_275, if_pos c118_276]
            rw [e_J] at J
            exact J _ X274
          · refine gifN B X274 at_118 ((if0 _ _).trans (flt c118_276).1) (pc' := 121) rfl ?_
            refine giload B X274 at_121 rfl (pc' := 123) rfl ?_
            by_cases c123_277 : (f2 (2 : Int32) (2 : Int32) (2 : Int32) b2) < (0 : Int32)
            · refine gifY B X274 (pc' := 131) at_123 ((if0 _ _).trans (tlt c123_277).1) (by decide) ?_
              refine giconst B X274 at_131 (v := (-1 : Int32)) rfl (pc' := 132) rfl ?_
              refine gistore B X274 at_132 (Ls' := #[.val (.int p0), .val (.int p1), .val (.int p2), .val (.int p3), .val (.int p4), .val (.ref a81), .val (.int (2 : Int32)), .val (.int (2 : Int32)), .val (.int (f2 (0 : Int32) (2 : Int32) (2 : Int32) b0)), .val (.int (f2 (1 : Int32) (2 : Int32) (2 : Int32) b1)), .val (.int (f2 (2 : Int32) (2 : Int32) (2 : Int32) b2)), .val (.int (f2 (3 : Int32) (2 : Int32) (2 : Int32) b3)), .val (.int (-1 : Int32))]) rfl (pc' := 134) rfl ?_
              refine ggoto B X274 (pc' := 150) at_134 (by decide) ?_
              have e_J : (oE (f2 (0 : Int32) (2 : Int32) (2 : Int32) b0) (f2 (1 : Int32) (2 : Int32) (2 : Int32) b1) (f2 (2 : Int32) (2 : Int32) (2 : Int32) b2) (f2 (3 : Int32) (2 : Int32) (2 : Int32) b3)) = (-1 : Int32) := by rw [oE, if_neg c113_275, if_neg c118_276, if_pos c123_277]
              rw [e_J] at J
              exact J _ X274
            · refine gifN B X274 at_123 ((if0 _ _).trans (flt c123_277).1) (pc' := 126) rfl ?_
              refine giload B X274 at_126 rfl (pc' := 128) rfl ?_
              by_cases c128_278 : (f2 (3 : Int32) (2 : Int32) (2 : Int32) b3) < (0 : Int32)
              · refine gifN B X274 at_128 ((if0 _ _).trans (tlt c128_278).2.1) (pc' := 131) rfl ?_
                refine giconst B X274 at_131 (v := (-1 : Int32)) rfl (pc' := 132) rfl ?_
                refine gistore B X274 at_132 (Ls' := #[.val (.int p0), .val (.int p1), .val (.int p2), .val (.int p3), .val (.int p4), .val (.ref a81), .val (.int (2 : Int32)), .val (.int (2 : Int32)), .val (.int (f2 (0 : Int32) (2 : Int32) (2 : Int32) b0)), .val (.int (f2 (1 : Int32) (2 : Int32) (2 : Int32) b1)), .val (.int (f2 (2 : Int32) (2 : Int32) (2 : Int32) b2)), .val (.int (f2 (3 : Int32) (2 : Int32) (2 : Int32) b3)), .val (.int (-1 : Int32))]) rfl (pc' := 134) rfl ?_
                refine ggoto B X274 (pc' := 150) at_134 (by decide) ?_
                have e_J : (oE (f2 (0 : Int32) (2 : Int32) (2 : Int32) b0) (f2 (1 : Int32) (2 : Int32) (2 : Int32) b1) (f2 (2 : Int32) (2 : Int32) (2 : Int32) b2) (f2 (3 : Int32) (2 : Int32) (2 : Int32) b3)) = (-1 : Int32) := by rw [oE, if_neg c113_275, if_neg c118_276, if_neg c123_277, if_pos c128_278]
                rw [e_J] at J
                exact J _ X274
              · refine gifY B X274 (pc' := 137) at_128 ((if0 _ _).trans (flt c128_278).2.1) (by decide) ?_
                refine giload B X274 at_137 rfl (pc' := 139) rfl ?_
                refine giload B X274 at_139 rfl (pc' := 141) rfl ?_
                refine giadd B X274 at_141 rfl (pc' := 142) rfl ?_
                refine giload B X274 at_142 rfl (pc' := 144) rfl ?_
                refine giadd B X274 at_144 rfl (pc' := 145) rfl ?_
                refine giload B X274 at_145 rfl (pc' := 147) rfl ?_
                refine giadd B X274 at_147 rfl (pc' := 148) rfl ?_
                refine gistore B X274 at_148 (Ls' := #[.val (.int p0), .val (.int p1), .val (.int p2), .val (.int p3), .val (.int p4), .val (.ref a81), .val (.int (2 : Int32)), .val (.int (2 : Int32)), .val (.int (f2 (0 : Int32) (2 : Int32) (2 : Int32) b0)), .val (.int (f2 (1 : Int32) (2 : Int32) (2 : Int32) b1)), .val (.int (f2 (2 : Int32) (2 : Int32) (2 : Int32) b2)), .val (.int (f2 (3 : Int32) (2 : Int32) (2 : Int32) b3)), .val (.int ((((f2 (0 : Int32) (2 : Int32) (2 : Int32) b0) + (f2 (1 : Int32) (2 : Int32) (2 : Int32) b1)) + (f2 (2 : Int32) (2 : Int32) (2 : Int32) b2)) + (f2 (3 : Int32) (2 : Int32) (2 : Int32) b3)))]) rfl (pc' := 150) rfl ?_
                have e_J : (oE (f2 (0 : Int32) (2 : Int32) (2 : Int32) b0) (f2 (1 : Int32) (2 : Int32) (2 : Int32) b1) (f2 (2 : Int32) (2 : Int32) (2 : Int32) b2) (f2 (3 : Int32) (2 : Int32) (2 : Int32) b3)) = ((((f2 (0 : Int32) (2 : Int32) (2 : Int32) b0) + (f2 (1 : Int32) (2 : Int32) (2 : Int32) b1)) + (f2 (2 : Int32) (2 : Int32) (2 : Int32) b2)) + (f2 (3 : Int32) (2 : Int32) (2 : Int32) b3)) := by rw [oE, if_neg c113_275, if_neg c118_276, if_neg c123_277, if_neg c128_278]
                rw [e_J] at J
                exact J _ X274
      intro T279 X280
      show Go p e below s _ _ _ _ _ T279 (mkF m 150 #[.val (.int p0), .val (.int p1), .val (.int p2), .val (.int p3), .val (.int p4), .val (.ref a81), .val (.int (2 : Int32)), .val (.int (2 : Int32)), .val (.int (f2 (0 : Int32) (2 : Int32) (2 : Int32) b0)), .val (.int (f2 (1 : Int32) (2 : Int32) (2 : Int32) b1)), .val (.int (f2 (2 : Int32) (2 : Int32) (2 : Int32) b2)), .val (.int (f2 (3 : Int32) (2 : Int32) (2 : Int32) b3)), .val (.int (oE (f2 (0 : Int32) (2 : Int32) (2 : Int32) b0) (f2 (1 : Int32) (2 : Int32) (2 : Int32) b1) (f2 (2 : Int32) (2 : Int32) (2 : Int32) b2) (f2 (3 : Int32) (2 : Int32) (2 : Int32) b3)))] [])
      refine gaload B X280 at_150 rfl rfl (pc' := 152) rfl ?_
      refine giload B X280 at_152 rfl (pc' := 154) rfl ?_
      refine giload B X280 at_154 rfl (pc' := 156) rfl ?_
      refine gcallS B X280 (hw _ (List.mem_of_getElem? (i := 8) rfl)) (hw _ (List.mem_of_getElem? (i := 9) rfl)) (hw _ (List.mem_of_getElem? (i := 10) rfl)) (hw _ (List.mem_of_getElem? (i := 11) rfl)) (by decide) (mt3_2 l Z a0 hw a81 (2 : Int32) b0 b1 b2 b3 h110 A113 (by decide)) pd___BII_I rfl (argsL := [(.ref a81), (.int (2 : Int32)), (.int (2 : Int32))]) (st := []) rfl rfl (W := 0) (Nat.le_of_eq rfl) (by decide) (by decide) (by decide) (by decide) (fun x q => nomatch q) at_156 rfl (pureG rfl rfl fun T281 X282 => ?_)
      refine giload B X282 at_159 rfl (pc' := 161) rfl ?_
      have c161_283 : (f3_2 (2 : Int32) b0 b1 b2 b3) = (oE (f2 (0 : Int32) (2 : Int32) (2 : Int32) b0) (f2 (1 : Int32) (2 : Int32) (2 : Int32) b1) (f2 (2 : Int32) (2 : Int32) (2 : Int32) b2) (f2 (3 : Int32) (2 : Int32) (2 : Int32) b3)) := own_fin22 b0 b1 b2 b3
      refine gicN B X282 at_161 (teq c161_283).2 (pc' := 164) rfl ?_
      refine giconst B X282 at_164 (v := (1 : Int32)) rfl (pc' := 165) rfl ?_
      refine ggoto B X282 (pc' := 169) at_165 (by decide) ?_
      exact gretN B X282 (z' := (1 : Int32)) (by simp) (rfl) at_169 (by decide) (by decide) (rfl)
    · skip
      refine gaload B X111 at_63 rfl rfl (pc' := 65) rfl ?_
      refine giconst B X111 at_65 (v := (0 : Int32)) rfl (pc' := 66) rfl ?_
      refine giload B X111 at_66 rfl (pc' := 68) rfl ?_
      refine giload B X111 at_68 rfl (pc' := 70) rfl ?_
      refine gcallS B X111 (hw _ (List.mem_of_getElem? (i := 5) rfl)) (hw _ (List.mem_of_getElem? (i := 6) rfl)) (hw _ (List.mem_of_getElem? (i := 3) rfl)) (hw _ (List.mem_of_getElem? (i := 7) rfl)) (by decide) (mt2 l Z a0 hw a81 (0 : Int32) (2 : Int32) (3 : Int32) [(.int b0), (.int b1), (.int b2), (.int b3)] b0 h110 A113 rfl (by decide) rfl) pd___BIII_I rfl (argsL := [(.ref a81), (.int (0 : Int32)), (.int (2 : Int32)), (.int (3 : Int32))]) (st := []) rfl rfl (W := 0) (Nat.le_of_eq rfl) (by decide) (by decide) (by decide) (by decide) (fun x q => nomatch q) at_70 rfl (pureG rfl rfl fun T284 X285 => ?_)
      refine gistore B X285 at_73 (Ls' := #[.val (.int p0), .val (.int p1), .val (.int p2), .val (.int p3), .val (.int p4), .val (.ref a81), .val (.int (2 : Int32)), .val (.int (3 : Int32)), .val (.int (f2 (0 : Int32) (2 : Int32) (3 : Int32) b0)), .unset, .unset, .unset, .unset]) rfl (pc' := 75) rfl ?_
      refine gaload B X285 at_75 rfl rfl (pc' := 77) rfl ?_
      refine giconst B X285 at_77 (v := (1 : Int32)) rfl (pc' := 78) rfl ?_
      refine giload B X285 at_78 rfl (pc' := 80) rfl ?_
      refine giload B X285 at_80 rfl (pc' := 82) rfl ?_
      refine gcallS B X285 (hw _ (List.mem_of_getElem? (i := 5) rfl)) (hw _ (List.mem_of_getElem? (i := 6) rfl)) (hw _ (List.mem_of_getElem? (i := 3) rfl)) (hw _ (List.mem_of_getElem? (i := 7) rfl)) (by decide) (mt2 l Z a0 hw a81 (1 : Int32) (2 : Int32) (3 : Int32) [(.int b0), (.int b1), (.int b2), (.int b3)] b1 h110 A113 rfl (by decide) rfl) pd___BIII_I rfl (argsL := [(.ref a81), (.int (1 : Int32)), (.int (2 : Int32)), (.int (3 : Int32))]) (st := []) rfl rfl (W := 0) (Nat.le_of_eq rfl) (by decide) (by decide) (by decide) (by decide) (fun x q => nomatch q) at_82 rfl (pureG rfl rfl fun T286 X287 => ?_)
      refine gistore B X287 at_85 (Ls' := #[.val (.int p0), .val (.int p1), .val (.int p2), .val (.int p3), .val (.int p4), .val (.ref a81), .val (.int (2 : Int32)), .val (.int (3 : Int32)), .val (.int (f2 (0 : Int32) (2 : Int32) (3 : Int32) b0)), .val (.int (f2 (1 : Int32) (2 : Int32) (3 : Int32) b1)), .unset, .unset, .unset]) rfl (pc' := 87) rfl ?_
      refine gaload B X287 at_87 rfl rfl (pc' := 89) rfl ?_
      refine giconst B X287 at_89 (v := (2 : Int32)) rfl (pc' := 90) rfl ?_
      refine giload B X287 at_90 rfl (pc' := 92) rfl ?_
      refine giload B X287 at_92 rfl (pc' := 94) rfl ?_
      refine gcallS B X287 (hw _ (List.mem_of_getElem? (i := 5) rfl)) (hw _ (List.mem_of_getElem? (i := 6) rfl)) (hw _ (List.mem_of_getElem? (i := 3) rfl)) (hw _ (List.mem_of_getElem? (i := 7) rfl)) (by decide) (mt2 l Z a0 hw a81 (2 : Int32) (2 : Int32) (3 : Int32) [(.int b0), (.int b1), (.int b2), (.int b3)] b2 h110 A113 rfl (by decide) rfl) pd___BIII_I rfl (argsL := [(.ref a81), (.int (2 : Int32)), (.int (2 : Int32)), (.int (3 : Int32))]) (st := []) rfl rfl (W := 0) (Nat.le_of_eq rfl) (by decide) (by decide) (by decide) (by decide) (fun x q => nomatch q) at_94 rfl (pureG rfl rfl fun T288 X289 => ?_)
      refine gistore B X289 at_97 (Ls' := #[.val (.int p0), .val (.int p1), .val (.int p2), .val (.int p3), .val (.int p4), .val (.ref a81), .val (.int (2 : Int32)), .val (.int (3 : Int32)), .val (.int (f2 (0 : Int32) (2 : Int32) (3 : Int32) b0)), .val (.int (f2 (1 : Int32) (2 : Int32) (3 : Int32) b1)), .val (.int (f2 (2 : Int32) (2 : Int32) (3 : Int32) b2)), .unset, .unset]) rfl (pc' := 99) rfl ?_
      refine gaload B X289 at_99 rfl rfl (pc' := 101) rfl ?_
      refine giconst B X289 at_101 (v := (3 : Int32)) rfl (pc' := 102) rfl ?_
      refine giload B X289 at_102 rfl (pc' := 104) rfl ?_
      refine giload B X289 at_104 rfl (pc' := 106) rfl ?_
      refine gcallS B X289 (hw _ (List.mem_of_getElem? (i := 5) rfl)) (hw _ (List.mem_of_getElem? (i := 6) rfl)) (hw _ (List.mem_of_getElem? (i := 3) rfl)) (hw _ (List.mem_of_getElem? (i := 7) rfl)) (by decide) (mt2 l Z a0 hw a81 (3 : Int32) (2 : Int32) (3 : Int32) [(.int b0), (.int b1), (.int b2), (.int b3)] b3 h110 A113 rfl (by decide) rfl) pd___BIII_I rfl (argsL := [(.ref a81), (.int (3 : Int32)), (.int (2 : Int32)), (.int (3 : Int32))]) (st := []) rfl rfl (W := 0) (Nat.le_of_eq rfl) (by decide) (by decide) (by decide) (by decide) (fun x q => nomatch q) at_106 rfl (pureG rfl rfl fun T290 X291 => ?_)
      refine gistore B X291 at_109 (Ls' := #[.val (.int p0), .val (.int p1), .val (.int p2), .val (.int p3), .val (.int p4), .val (.ref a81), .val (.int (2 : Int32)), .val (.int (3 : Int32)), .val (.int (f2 (0 : Int32) (2 : Int32) (3 : Int32) b0)), .val (.int (f2 (1 : Int32) (2 : Int32) (3 : Int32) b1)), .val (.int (f2 (2 : Int32) (2 : Int32) (3 : Int32) b2)), .val (.int (f2 (3 : Int32) (2 : Int32) (3 : Int32) b3)), .unset]) rfl (pc' := 111) rfl ?_
      refine joinG B X291 (F := fun z => (mkF m 150 #[.val (.int p0), .val (.int p1), .val (.int p2), .val (.int p3), .val (.int p4), .val (.ref a81), .val (.int (2 : Int32)), .val (.int (3 : Int32)), .val (.int (f2 (0 : Int32) (2 : Int32) (3 : Int32) b0)), .val (.int (f2 (1 : Int32) (2 : Int32) (3 : Int32) b1)), .val (.int (f2 (2 : Int32) (2 : Int32) (3 : Int32) b2)), .val (.int (f2 (3 : Int32) (2 : Int32) (3 : Int32) b3)), .val (.int z)] [])) (r := (oE (f2 (0 : Int32) (2 : Int32) (3 : Int32) b0) (f2 (1 : Int32) (2 : Int32) (3 : Int32) b1) (f2 (2 : Int32) (2 : Int32) (3 : Int32) b2) (f2 (3 : Int32) (2 : Int32) (3 : Int32) b3))) (fun J => ?_) ?_
      · refine giload B X291 at_111 rfl (pc' := 113) rfl ?_
        by_cases c113_292 : (f2 (0 : Int32) (2 : Int32) (3 : Int32) b0) < (0 : Int32)
        · refine gifY B X291 (pc' := 131) at_113 ((if0 _ _).trans (tlt c113_292).1) (by decide) ?_
          refine giconst B X291 at_131 (v := (-1 : Int32)) rfl (pc' := 132) rfl ?_
          refine gistore B X291 at_132 (Ls' := #[.val (.int p0), .val (.int p1), .val (.int p2), .val (.int p3), .val (.int p4), .val (.ref a81), .val (.int (2 : Int32)), .val (.int (3 : Int32)), .val (.int (f2 (0 : Int32) (2 : Int32) (3 : Int32) b0)), .val (.int (f2 (1 : Int32) (2 : Int32) (3 : Int32) b1)), .val (.int (f2 (2 : Int32) (2 : Int32) (3 : Int32) b2)), .val (.int (f2 (3 : Int32) (2 : Int32) (3 : Int32) b3)), .val (.int (-1 : Int32))]) rfl (pc' := 134) rfl ?_
          refine ggoto B X291 (pc' := 150) at_134 (by decide) ?_
          have e_J : (oE (f2 (0 : Int32) (2 : Int32) (3 : Int32) b0) (f2 (1 : Int32) (2 : Int32) (3 : Int32) b1) (f2 (2 : Int32) (2 : Int32) (3 : Int32) b2) (f2 (3 : Int32) (2 : Int32) (3 : Int32) b3)) = (-1 : Int32) := by rw [oE, if_pos c113_292]
          rw [e_J] at J
          exact J _ X291
        · refine gifN B X291 at_113 ((if0 _ _).trans (flt c113_292).1) (pc' := 116) rfl ?_
          refine giload B X291 at_116 rfl (pc' := 118) rfl ?_
          by_cases c118_293 : (f2 (1 : Int32) (2 : Int32) (3 : Int32) b1) < (0 : Int32)
          · refine gifY B X291 (pc' := 131) at_118 ((if0 _ _).trans (tlt c118_293).1) (by decide) ?_
            refine giconst B X291 at_131 (v := (-1 : Int32)) rfl (pc' := 132) rfl ?_
            refine gistore B X291 at_132 (Ls' := #[.val (.int p0), .val (.int p1), .val (.int p2), .val (.int p3), .val (.int p4), .val (.ref a81), .val (.int (2 : Int32)), .val (.int (3 : Int32)), .val (.int (f2 (0 : Int32) (2 : Int32) (3 : Int32) b0)), .val (.int (f2 (1 : Int32) (2 : Int32) (3 : Int32) b1)), .val (.int (f2 (2 : Int32) (2 : Int32) (3 : Int32) b2)), .val (.int (f2 (3 : Int32) (2 : Int32) (3 : Int32) b3)), .val (.int (-1 : Int32))]) rfl (pc' := 134) rfl ?_
            refine ggoto B X291 (pc' := 150) at_134 (by decide) ?_
            have e_J : (oE (f2 (0 : Int32) (2 : Int32) (3 : Int32) b0) (f2 (1 : Int32) (2 : Int32) (3 : Int32) b1) (f2 (2 : Int32) (2 : Int32) (3 : Int32) b2) (f2 (3 : Int32) (2 : Int32) (3 : Int32) b3)) = (-1 : Int32) := by rw [oE, if_neg c113_292, if_pos c118_293]
            rw [e_J] at J
            exact J _ X291
          · refine gifN B X291 at_118 ((if0 _ _).trans (flt c118_293).1) (pc' := 121) rfl ?_
            refine giload B X291 at_121 rfl (pc' := 123) rfl ?_
            by_cases c123_294 : (f2 (2 : Int32) (2 : Int32) (3 : Int32) b2) < (0 : Int32)
            · refine gifY B X291 (pc' := 131) at_123 ((if0 _ _).trans (tlt c123_294).1) (by decide) ?_
              refine giconst B X291 at_131 (v := (-1 : Int32)) rfl (pc' := 132) rfl ?_
              refine gistore B X291 at_132 (Ls' := #[.val (.int p0), .val (.int p1), .val (.int p2), .val (.int p3), .val (.int p4), .val (.ref a81), .val (.int (2 : Int32)), .val (.int (3 : Int32)), .val (.int (f2 (0 : Int32) (2 : Int32) (3 : Int32) b0)), .val (.int (f2 (1 : Int32) (2 : Int32) (3 : Int32) b1)), .val (.int (f2 (2 : Int32) (2 : Int32) (3 : Int32) b2)), .val (.int (f2 (3 : Int32) (2 : Int32) (3 : Int32) b3)), .val (.int (-1 : Int32))]) rfl (pc' := 134) rfl ?_
              refine ggoto B X291 (pc' := 150) at_134 (by decide) ?_
              have e_J : (oE (f2 (0 : Int32) (2 : Int32) (3 : Int32) b0) (f2 (1 : Int32) (2 : Int32) (3 : Int32) b1) (f2 (2 : Int32) (2 : Int32) (3 : Int32) b2) (f2 (3 : Int32) (2 : Int32) (3 : Int32) b3)) = (-1 : Int32) := by rw [oE, if_neg c113_292, if_neg c118_293, if_pos c123_294]
              rw [e_J] at J
              exact J _ X291
            · refine gifN B X291 at_123 ((if0 _ _).trans (flt c123_294).1) (pc' := 126) rfl ?_
              refine giload B X291 at_126 rfl (pc' := 128) rfl ?_
              by_cases c128_295 : (f2 (3 : Int32) (2 : Int32) (3 : Int32) b3) < (0 : Int32)
              · refine gifN B X291 at_128 ((if0 _ _).trans (tlt c128_295).2.1) (pc' := 131) rfl ?_
                refine giconst B X291 at_131 (v := (-1 : Int32)) rfl (pc' := 132) rfl ?_
                refine gistore B X291 at_132 (Ls' := #[.val (.int p0), .val (.int p1), .val (.int p2), .val (.int p3), .val (.int p4), .val (.ref a81), .val (.int (2 : Int32)), .val (.int (3 : Int32)), .val (.int (f2 (0 : Int32) (2 : Int32) (3 : Int32) b0)), .val (.int (f2 (1 : Int32) (2 : Int32) (3 : Int32) b1)), .val (.int (f2 (2 : Int32) (2 : Int32) (3 : Int32) b2)), .val (.int (f2 (3 : Int32) (2 : Int32) (3 : Int32) b3)), .val (.int (-1 : Int32))]) rfl (pc' := 134) rfl ?_
                refine ggoto B X291 (pc' := 150) at_134 (by decide) ?_
                have e_J : (oE (f2 (0 : Int32) (2 : Int32) (3 : Int32) b0) (f2 (1 : Int32) (2 : Int32) (3 : Int32) b1) (f2 (2 : Int32) (2 : Int32) (3 : Int32) b2) (f2 (3 : Int32) (2 : Int32) (3 : Int32) b3)) = (-1 : Int32) := by rw [oE, if_neg c113_292, if_neg c118_293, if_neg c123_294, if_pos c128_295]
                rw [e_J] at J
                exact J _ X291
              · refine gifY B X291 (pc' := 137) at_128 ((if0 _ _).trans (flt c128_295).2.1) (by decide) ?_
                refine giload B X291 at_137 rfl (pc' := 139) rfl ?_
                refine giload B X291 at_139 rfl (pc' := 141) rfl ?_
                refine giadd B X291 at_141 rfl (pc' := 142) rfl ?_
                refine giload B X291 at_142 rfl (pc' := 144) rfl ?_
                refine giadd B X291 at_144 rfl (pc' := 145) rfl ?_
                refine giload B X291 at_145 rfl (pc' := 147) rfl ?_
                refine giadd B X291 at_147 rfl (pc' := 148) rfl ?_
                refine gistore B X291 at_148 (Ls' := #[.val (.int p0), .val (.int p1), .val (.int p2), .val (.int p3), .val (.int p4), .val (.ref a81), .val (.int (2 : Int32)), .val (.int (3 : Int32)), .val (.int (f2 (0 : Int32) (2 : Int32) (3 : Int32) b0)), .val (.int (f2 (1 : Int32) (2 : Int32) (3 : Int32) b1)), .val (.int (f2 (2 : Int32) (2 : Int32) (3 : Int32) b2)), .val (.int (f2 (3 : Int32) (2 : Int32) (3 : Int32) b3)), .val (.int ((((f2 (0 : Int32) (2 : Int32) (3 : Int32) b0) + (f2 (1 : Int32) (2 : Int32) (3 : Int32) b1)) + (f2 (2 : Int32) (2 : Int32) (3 : Int32) b2)) + (f2 (3 : Int32) (2 : Int32) (3 : Int32) b3)))]) rfl (pc' := 150) rfl ?_
                have e_J : (oE (f2 (0 : Int32) (2 : Int32) (3 : Int32) b0) (f2 (1 : Int32) (2 : Int32) (3 : Int32) b1) (f2 (2 : Int32) (2 : Int32) (3 : Int32) b2) (f2 (3 : Int32) (2 : Int32) (3 : Int32) b3)) = ((((f2 (0 : Int32) (2 : Int32) (3 : Int32) b0) + (f2 (1 : Int32) (2 : Int32) (3 : Int32) b1)) + (f2 (2 : Int32) (2 : Int32) (3 : Int32) b2)) + (f2 (3 : Int32) (2 : Int32) (3 : Int32) b3)) := by rw [oE, if_neg c113_292, if_neg c118_293, if_neg c123_294, if_neg c128_295]
                rw [e_J] at J
                exact J _ X291
      intro T296 X297
      show Go p e below s _ _ _ _ _ T296 (mkF m 150 #[.val (.int p0), .val (.int p1), .val (.int p2), .val (.int p3), .val (.int p4), .val (.ref a81), .val (.int (2 : Int32)), .val (.int (3 : Int32)), .val (.int (f2 (0 : Int32) (2 : Int32) (3 : Int32) b0)), .val (.int (f2 (1 : Int32) (2 : Int32) (3 : Int32) b1)), .val (.int (f2 (2 : Int32) (2 : Int32) (3 : Int32) b2)), .val (.int (f2 (3 : Int32) (2 : Int32) (3 : Int32) b3)), .val (.int (oE (f2 (0 : Int32) (2 : Int32) (3 : Int32) b0) (f2 (1 : Int32) (2 : Int32) (3 : Int32) b1) (f2 (2 : Int32) (2 : Int32) (3 : Int32) b2) (f2 (3 : Int32) (2 : Int32) (3 : Int32) b3)))] [])
      refine gaload B X297 at_150 rfl rfl (pc' := 152) rfl ?_
      refine giload B X297 at_152 rfl (pc' := 154) rfl ?_
      refine giload B X297 at_154 rfl (pc' := 156) rfl ?_
      refine gcallS B X297 (hw _ (List.mem_of_getElem? (i := 8) rfl)) (hw _ (List.mem_of_getElem? (i := 9) rfl)) (hw _ (List.mem_of_getElem? (i := 10) rfl)) (hw _ (List.mem_of_getElem? (i := 11) rfl)) (by decide) (mt3_2 l Z a0 hw a81 (3 : Int32) b0 b1 b2 b3 h110 A113 (by decide)) pd___BII_I rfl (argsL := [(.ref a81), (.int (2 : Int32)), (.int (3 : Int32))]) (st := []) rfl rfl (W := 0) (Nat.le_of_eq rfl) (by decide) (by decide) (by decide) (by decide) (fun x q => nomatch q) at_156 rfl (pureG rfl rfl fun T298 X299 => ?_)
      refine giload B X299 at_159 rfl (pc' := 161) rfl ?_
      have c161_300 : (f3_2 (3 : Int32) b0 b1 b2 b3) = (oE (f2 (0 : Int32) (2 : Int32) (3 : Int32) b0) (f2 (1 : Int32) (2 : Int32) (3 : Int32) b1) (f2 (2 : Int32) (2 : Int32) (3 : Int32) b2) (f2 (3 : Int32) (2 : Int32) (3 : Int32) b3)) := own_fin23 b0 b1 b2 b3
      refine gicN B X299 at_161 (teq c161_300).2 (pc' := 164) rfl ?_
      refine giconst B X299 at_164 (v := (1 : Int32)) rfl (pc' := 165) rfl ?_
      refine ggoto B X299 (pc' := 169) at_165 (by decide) ?_
      exact gretN B X299 (z' := (1 : Int32)) (by simp) (rfl) at_169 (by decide) (by decide) (rfl)
    · skip
      refine gaload B X111 at_63 rfl rfl (pc' := 65) rfl ?_
      refine giconst B X111 at_65 (v := (0 : Int32)) rfl (pc' := 66) rfl ?_
      refine giload B X111 at_66 rfl (pc' := 68) rfl ?_
      refine giload B X111 at_68 rfl (pc' := 70) rfl ?_
      refine gcallS B X111 (hw _ (List.mem_of_getElem? (i := 5) rfl)) (hw _ (List.mem_of_getElem? (i := 6) rfl)) (hw _ (List.mem_of_getElem? (i := 3) rfl)) (hw _ (List.mem_of_getElem? (i := 7) rfl)) (by decide) (mt2 l Z a0 hw a81 (0 : Int32) (2 : Int32) (4 : Int32) [(.int b0), (.int b1), (.int b2), (.int b3)] b0 h110 A113 rfl (by decide) rfl) pd___BIII_I rfl (argsL := [(.ref a81), (.int (0 : Int32)), (.int (2 : Int32)), (.int (4 : Int32))]) (st := []) rfl rfl (W := 0) (Nat.le_of_eq rfl) (by decide) (by decide) (by decide) (by decide) (fun x q => nomatch q) at_70 rfl (pureG rfl rfl fun T301 X302 => ?_)
      refine gistore B X302 at_73 (Ls' := #[.val (.int p0), .val (.int p1), .val (.int p2), .val (.int p3), .val (.int p4), .val (.ref a81), .val (.int (2 : Int32)), .val (.int (4 : Int32)), .val (.int (f2 (0 : Int32) (2 : Int32) (4 : Int32) b0)), .unset, .unset, .unset, .unset]) rfl (pc' := 75) rfl ?_
      refine gaload B X302 at_75 rfl rfl (pc' := 77) rfl ?_
      refine giconst B X302 at_77 (v := (1 : Int32)) rfl (pc' := 78) rfl ?_
      refine giload B X302 at_78 rfl (pc' := 80) rfl ?_
      refine giload B X302 at_80 rfl (pc' := 82) rfl ?_
      refine gcallS B X302 (hw _ (List.mem_of_getElem? (i := 5) rfl)) (hw _ (List.mem_of_getElem? (i := 6) rfl)) (hw _ (List.mem_of_getElem? (i := 3) rfl)) (hw _ (List.mem_of_getElem? (i := 7) rfl)) (by decide) (mt2 l Z a0 hw a81 (1 : Int32) (2 : Int32) (4 : Int32) [(.int b0), (.int b1), (.int b2), (.int b3)] b1 h110 A113 rfl (by decide) rfl) pd___BIII_I rfl (argsL := [(.ref a81), (.int (1 : Int32)), (.int (2 : Int32)), (.int (4 : Int32))]) (st := []) rfl rfl (W := 0) (Nat.le_of_eq rfl) (by decide) (by decide) (by decide) (by decide) (fun x q => nomatch q) at_82 rfl (pureG rfl rfl fun T303 X304 => ?_)
      refine gistore B X304 at_85 (Ls' := #[.val (.int p0), .val (.int p1), .val (.int p2), .val (.int p3), .val (.int p4), .val (.ref a81), .val (.int (2 : Int32)), .val (.int (4 : Int32)), .val (.int (f2 (0 : Int32) (2 : Int32) (4 : Int32) b0)), .val (.int (f2 (1 : Int32) (2 : Int32) (4 : Int32) b1)), .unset, .unset, .unset]) rfl (pc' := 87) rfl ?_
      refine gaload B X304 at_87 rfl rfl (pc' := 89) rfl ?_
      refine giconst B X304 at_89 (v := (2 : Int32)) rfl (pc' := 90) rfl ?_
      refine giload B X304 at_90 rfl (pc' := 92) rfl ?_
      refine giload B X304 at_92 rfl (pc' := 94) rfl ?_
      refine gcallS B X304 (hw _ (List.mem_of_getElem? (i := 5) rfl)) (hw _ (List.mem_of_getElem? (i := 6) rfl)) (hw _ (List.mem_of_getElem? (i := 3) rfl)) (hw _ (List.mem_of_getElem? (i := 7) rfl)) (by decide) (mt2 l Z a0 hw a81 (2 : Int32) (2 : Int32) (4 : Int32) [(.int b0), (.int b1), (.int b2), (.int b3)] b2 h110 A113 rfl (by decide) rfl) pd___BIII_I rfl (argsL := [(.ref a81), (.int (2 : Int32)), (.int (2 : Int32)), (.int (4 : Int32))]) (st := []) rfl rfl (W := 0) (Nat.le_of_eq rfl) (by decide) (by decide) (by decide) (by decide) (fun x q => nomatch q) at_94 rfl (pureG rfl rfl fun T305 X306 => ?_)
      refine gistore B X306 at_97 (Ls' := #[.val (.int p0), .val (.int p1), .val (.int p2), .val (.int p3), .val (.int p4), .val (.ref a81), .val (.int (2 : Int32)), .val (.int (4 : Int32)), .val (.int (f2 (0 : Int32) (2 : Int32) (4 : Int32) b0)), .val (.int (f2 (1 : Int32) (2 : Int32) (4 : Int32) b1)), .val (.int (f2 (2 : Int32) (2 : Int32) (4 : Int32) b2)), .unset, .unset]) rfl (pc' := 99) rfl ?_
      refine gaload B X306 at_99 rfl rfl (pc' := 101) rfl ?_
      refine giconst B X306 at_101 (v := (3 : Int32)) rfl (pc' := 102) rfl ?_
      refine giload B X306 at_102 rfl (pc' := 104) rfl ?_
      refine giload B X306 at_104 rfl (pc' := 106) rfl ?_
      refine gcallS B X306 (hw _ (List.mem_of_getElem? (i := 5) rfl)) (hw _ (List.mem_of_getElem? (i := 6) rfl)) (hw _ (List.mem_of_getElem? (i := 3) rfl)) (hw _ (List.mem_of_getElem? (i := 7) rfl)) (by decide) (mt2 l Z a0 hw a81 (3 : Int32) (2 : Int32) (4 : Int32) [(.int b0), (.int b1), (.int b2), (.int b3)] b3 h110 A113 rfl (by decide) rfl) pd___BIII_I rfl (argsL := [(.ref a81), (.int (3 : Int32)), (.int (2 : Int32)), (.int (4 : Int32))]) (st := []) rfl rfl (W := 0) (Nat.le_of_eq rfl) (by decide) (by decide) (by decide) (by decide) (fun x q => nomatch q) at_106 rfl (pureG rfl rfl fun T307 X308 => ?_)
      refine gistore B X308 at_109 (Ls' := #[.val (.int p0), .val (.int p1), .val (.int p2), .val (.int p3), .val (.int p4), .val (.ref a81), .val (.int (2 : Int32)), .val (.int (4 : Int32)), .val (.int (f2 (0 : Int32) (2 : Int32) (4 : Int32) b0)), .val (.int (f2 (1 : Int32) (2 : Int32) (4 : Int32) b1)), .val (.int (f2 (2 : Int32) (2 : Int32) (4 : Int32) b2)), .val (.int (f2 (3 : Int32) (2 : Int32) (4 : Int32) b3)), .unset]) rfl (pc' := 111) rfl ?_
      refine joinG B X308 (F := fun z => (mkF m 150 #[.val (.int p0), .val (.int p1), .val (.int p2), .val (.int p3), .val (.int p4), .val (.ref a81), .val (.int (2 : Int32)), .val (.int (4 : Int32)), .val (.int (f2 (0 : Int32) (2 : Int32) (4 : Int32) b0)), .val (.int (f2 (1 : Int32) (2 : Int32) (4 : Int32) b1)), .val (.int (f2 (2 : Int32) (2 : Int32) (4 : Int32) b2)), .val (.int (f2 (3 : Int32) (2 : Int32) (4 : Int32) b3)), .val (.int z)] [])) (r := (oE (f2 (0 : Int32) (2 : Int32) (4 : Int32) b0) (f2 (1 : Int32) (2 : Int32) (4 : Int32) b1) (f2 (2 : Int32) (2 : Int32) (4 : Int32) b2) (f2 (3 : Int32) (2 : Int32) (4 : Int32) b3))) (fun J => ?_) ?_
      · refine giload B X308 at_111 rfl (pc' := 113) rfl ?_
        by_cases c113_309 : (f2 (0 : Int32) (2 : Int32) (4 : Int32) b0) < (0 : Int32)
        · refine gifY B X308 (pc' := 131) at_113 ((if0 _ _).trans (tlt c113_309).1) (by decide) ?_
          refine giconst B X308 at_131 (v := (-1 : Int32)) rfl (pc' := 132) rfl ?_
          refine gistore B X308 at_132 (Ls' := #[.val (.int p0), .val (.int p1), .val (.int p2), .val (.int p3), .val (.int p4), .val (.ref a81), .val (.int (2 : Int32)), .val (.int (4 : Int32)), .val (.int (f2 (0 : Int32) (2 : Int32) (4 : Int32) b0)), .val (.int (f2 (1 : Int32) (2 : Int32) (4 : Int32) b1)), .val (.int (f2 (2 : Int32) (2 : Int32) (4 : Int32) b2)), .val (.int (f2 (3 : Int32) (2 : Int32) (4 : Int32) b3)), .val (.int (-1 : Int32))]) rfl (pc' := 134) rfl ?_
          refine ggoto B X308 (pc' := 150) at_134 (by decide) ?_
          have e_J : (oE (f2 (0 : Int32) (2 : Int32) (4 : Int32) b0) (f2 (1 : Int32) (2 : Int32) (4 : Int32) b1) (f2 (2 : Int32) (2 : Int32) (4 : Int32) b2) (f2 (3 : Int32) (2 : Int32) (4 : Int32) b3)) = (-1 : Int32) := by rw [oE, if_pos c113_309]
          rw [e_J] at J
          exact J _ X308
        · refine gifN B X308 at_113 ((if0 _ _).trans (flt c113_309).1) (pc' := 116) rfl ?_
          refine giload B X308 at_116 rfl (pc' := 118) rfl ?_
          by_cases c118_310 : (f2 (1 : Int32) (2 : Int32) (4 : Int32) b1) < (0 : Int32)
          · refine gifY B X308 (pc' := 131) at_118 ((if0 _ _).trans (tlt c118_310).1) (by decide) ?_
            refine giconst B X308 at_131 (v := (-1 : Int32)) rfl (pc' := 132) rfl ?_
            refine gistore B X308 at_132 (Ls' := #[.val (.int p0), .val (.int p1), .val (.int p2), .val (.int p3), .val (.int p4), .val (.ref a81), .val (.int (2 : Int32)), .val (.int (4 : Int32)), .val (.int (f2 (0 : Int32) (2 : Int32) (4 : Int32) b0)), .val (.int (f2 (1 : Int32) (2 : Int32) (4 : Int32) b1)), .val (.int (f2 (2 : Int32) (2 : Int32) (4 : Int32) b2)), .val (.int (f2 (3 : Int32) (2 : Int32) (4 : Int32) b3)), .val (.int (-1 : Int32))]) rfl (pc' := 134) rfl ?_
            refine ggoto B X308 (pc' := 150) at_134 (by decide) ?_
            have e_J : (oE (f2 (0 : Int32) (2 : Int32) (4 : Int32) b0) (f2 (1 : Int32) (2 : Int32) (4 : Int32) b1) (f2 (2 : Int32) (2 : Int32) (4 : Int32) b2) (f2 (3 : Int32) (2 : Int32) (4 : Int32) b3)) = (-1 : Int32) := by rw [oE, if_neg c113_309, if_pos c118_310]
            rw [e_J] at J
            exact J _ X308
          · refine gifN B X308 at_118 ((if0 _ _).trans (flt c118_310).1) (pc' := 121) rfl ?_
            refine giload B X308 at_121 rfl (pc' := 123) rfl ?_
            by_cases c123_311 : (f2 (2 : Int32) (2 : Int32) (4 : Int32) b2) < (0 : Int32)
            · refine gifY B X308 (pc' := 131) at_123 ((if0 _ _).trans (tlt c123_311).1) (by decide) ?_
              refine giconst B X308 at_131 (v := (-1 : Int32)) rfl (pc' := 132) rfl ?_
              refine gistore B X308 at_132 (Ls' := #[.val (.int p0), .val (.int p1), .val (.int p2), .val (.int p3), .val (.int p4), .val (.ref a81), .val (.int (2 : Int32)), .val (.int (4 : Int32)), .val (.int (f2 (0 : Int32) (2 : Int32) (4 : Int32) b0)), .val (.int (f2 (1 : Int32) (2 : Int32) (4 : Int32) b1)), .val (.int (f2 (2 : Int32) (2 : Int32) (4 : Int32) b2)), .val (.int (f2 (3 : Int32) (2 : Int32) (4 : Int32) b3)), .val (.int (-1 : Int32))]) rfl (pc' := 134) rfl ?_
              refine ggoto B X308 (pc' := 150) at_134 (by decide) ?_
              have e_J : (oE (f2 (0 : Int32) (2 : Int32) (4 : Int32) b0) (f2 (1 : Int32) (2 : Int32) (4 : Int32) b1) (f2 (2 : Int32) (2 : Int32) (4 : Int32) b2) (f2 (3 : Int32) (2 : Int32) (4 : Int32) b3)) = (-1 : Int32) := by rw [oE, if_neg c113_309, if_neg c118_310, if_pos c123_311]
              rw [e_J] at J
              exact J _ X308
            · refine gifN B X308 at_123 ((if0 _ _).trans (flt c123_311).1) (pc' := 126) rfl ?_
              refine giload B X308 at_126 rfl (pc' := 128) rfl ?_
              by_cases c128_312 : (f2 (3 : Int32) (2 : Int32) (4 : Int32) b3) < (0 : Int32)
              · refine gifN B X308 at_128 ((if0 _ _).trans (tlt c128_312).2.1) (pc' := 131) rfl ?_
                refine giconst B X308 at_131 (v := (-1 : Int32)) rfl (pc' := 132) rfl ?_
                refine gistore B X308 at_132 (Ls' := #[.val (.int p0), .val (.int p1), .val (.int p2), .val (.int p3), .val (.int p4), .val (.ref a81), .val (.int (2 : Int32)), .val (.int (4 : Int32)), .val (.int (f2 (0 : Int32) (2 : Int32) (4 : Int32) b0)), .val (.int (f2 (1 : Int32) (2 : Int32) (4 : Int32) b1)), .val (.int (f2 (2 : Int32) (2 : Int32) (4 : Int32) b2)), .val (.int (f2 (3 : Int32) (2 : Int32) (4 : Int32) b3)), .val (.int (-1 : Int32))]) rfl (pc' := 134) rfl ?_
                refine ggoto B X308 (pc' := 150) at_134 (by decide) ?_
                have e_J : (oE (f2 (0 : Int32) (2 : Int32) (4 : Int32) b0) (f2 (1 : Int32) (2 : Int32) (4 : Int32) b1) (f2 (2 : Int32) (2 : Int32) (4 : Int32) b2) (f2 (3 : Int32) (2 : Int32) (4 : Int32) b3)) = (-1 : Int32) := by rw [oE, if_neg c113_309, if_neg c118_310, if_neg c123_311, if_pos c128_312]
                rw [e_J] at J
                exact J _ X308
              · refine gifY B X308 (pc' := 137) at_128 ((if0 _ _).trans (flt c128_312).2.1) (by decide) ?_
                refine giload B X308 at_137 rfl (pc' := 139) rfl ?_
                refine giload B X308 at_139 rfl (pc' := 141) rfl ?_
                refine giadd B X308 at_141 rfl (pc' := 142) rfl ?_
                refine giload B X308 at_142 rfl (pc' := 144) rfl ?_
                refine giadd B X308 at_144 rfl (pc' := 145) rfl ?_
                refine giload B X308 at_145 rfl (pc' := 147) rfl ?_
                refine giadd B X308 at_147 rfl (pc' := 148) rfl ?_
                refine gistore B X308 at_148 (Ls' := #[.val (.int p0), .val (.int p1), .val (.int p2), .val (.int p3), .val (.int p4), .val (.ref a81), .val (.int (2 : Int32)), .val (.int (4 : Int32)), .val (.int (f2 (0 : Int32) (2 : Int32) (4 : Int32) b0)), .val (.int (f2 (1 : Int32) (2 : Int32) (4 : Int32) b1)), .val (.int (f2 (2 : Int32) (2 : Int32) (4 : Int32) b2)), .val (.int (f2 (3 : Int32) (2 : Int32) (4 : Int32) b3)), .val (.int ((((f2 (0 : Int32) (2 : Int32) (4 : Int32) b0) + (f2 (1 : Int32) (2 : Int32) (4 : Int32) b1)) + (f2 (2 : Int32) (2 : Int32) (4 : Int32) b2)) + (f2 (3 : Int32) (2 : Int32) (4 : Int32) b3)))]) rfl (pc' := 150) rfl ?_
                have e_J : (oE (f2 (0 : Int32) (2 : Int32) (4 : Int32) b0) (f2 (1 : Int32) (2 : Int32) (4 : Int32) b1) (f2 (2 : Int32) (2 : Int32) (4 : Int32) b2) (f2 (3 : Int32) (2 : Int32) (4 : Int32) b3)) = ((((f2 (0 : Int32) (2 : Int32) (4 : Int32) b0) + (f2 (1 : Int32) (2 : Int32) (4 : Int32) b1)) + (f2 (2 : Int32) (2 : Int32) (4 : Int32) b2)) + (f2 (3 : Int32) (2 : Int32) (4 : Int32) b3)) := by rw [oE, if_neg c113_309, if_neg c118_310, if_neg c123_311, if_neg c128_312]
                rw [e_J] at J
                exact J _ X308
      intro T313 X314
      show Go p e below s _ _ _ _ _ T313 (mkF m 150 #[.val (.int p0), .val (.int p1), .val (.int p2), .val (.int p3), .val (.int p4), .val (.ref a81), .val (.int (2 : Int32)), .val (.int (4 : Int32)), .val (.int (f2 (0 : Int32) (2 : Int32) (4 : Int32) b0)), .val (.int (f2 (1 : Int32) (2 : Int32) (4 : Int32) b1)), .val (.int (f2 (2 : Int32) (2 : Int32) (4 : Int32) b2)), .val (.int (f2 (3 : Int32) (2 : Int32) (4 : Int32) b3)), .val (.int (oE (f2 (0 : Int32) (2 : Int32) (4 : Int32) b0) (f2 (1 : Int32) (2 : Int32) (4 : Int32) b1) (f2 (2 : Int32) (2 : Int32) (4 : Int32) b2) (f2 (3 : Int32) (2 : Int32) (4 : Int32) b3)))] [])
      refine gaload B X314 at_150 rfl rfl (pc' := 152) rfl ?_
      refine giload B X314 at_152 rfl (pc' := 154) rfl ?_
      refine giload B X314 at_154 rfl (pc' := 156) rfl ?_
      refine gcallS B X314 (hw _ (List.mem_of_getElem? (i := 8) rfl)) (hw _ (List.mem_of_getElem? (i := 9) rfl)) (hw _ (List.mem_of_getElem? (i := 10) rfl)) (hw _ (List.mem_of_getElem? (i := 11) rfl)) (by decide) (mt3_2 l Z a0 hw a81 (4 : Int32) b0 b1 b2 b3 h110 A113 (by decide)) pd___BII_I rfl (argsL := [(.ref a81), (.int (2 : Int32)), (.int (4 : Int32))]) (st := []) rfl rfl (W := 0) (Nat.le_of_eq rfl) (by decide) (by decide) (by decide) (by decide) (fun x q => nomatch q) at_156 rfl (pureG rfl rfl fun T315 X316 => ?_)
      refine giload B X316 at_159 rfl (pc' := 161) rfl ?_
      have c161_317 : (f3_2 (4 : Int32) b0 b1 b2 b3) = (oE (f2 (0 : Int32) (2 : Int32) (4 : Int32) b0) (f2 (1 : Int32) (2 : Int32) (4 : Int32) b1) (f2 (2 : Int32) (2 : Int32) (4 : Int32) b2) (f2 (3 : Int32) (2 : Int32) (4 : Int32) b3)) := own_fin24 b0 b1 b2 b3
      refine gicN B X316 at_161 (teq c161_317).2 (pc' := 164) rfl ?_
      refine giconst B X316 at_164 (v := (1 : Int32)) rfl (pc' := 165) rfl ?_
      refine ggoto B X316 (pc' := 169) at_165 (by decide) ?_
      exact gretN B X316 (z' := (1 : Int32)) (by simp) (rfl) at_169 (by decide) (by decide) (rfl)
  · skip
    refine giload B X111 at_46 rfl (pc' := 48) rfl ?_
    refine giload B X111 at_48 rfl (pc' := 50) rfl ?_
    refine giconst B X111 at_50 (v := (3 : Int32)) rfl (pc' := 51) rfl ?_
    refine giushr B X111 at_51 rfl (pc' := 52) rfl ?_
    refine gbipush B X111 at_52 (v := (7 : Int32)) rfl (pc' := 54) rfl ?_
    refine giand B X111 at_54 rfl (pc' := 55) rfl ?_
    refine giconst B X111 at_55 (v := (5 : Int32)) rfl (pc' := 56) rfl ?_
    refine giload B X111 at_56 rfl (pc' := 58) rfl ?_
    refine gisub B X111 at_58 (v := (2 : Int32)) (by decide) (pc' := 59) rfl ?_
    refine girem B X111 at_59 (by decide) rfl (pc' := 60) rfl ?_
    refine giadd B X111 at_60 rfl (pc' := 61) rfl ?_
    generalize e_qto : ((3 : Int32) + ((((p4.toUInt32 >>> ((3 : Int32) &&& 31).toUInt32).toInt32) &&& (7 : Int32)) % (2 : Int32))) = qto
    refine gistore B X111 at_61 (Ls' := #[.val (.int p0), .val (.int p1), .val (.int p2), .val (.int p3), .val (.int p4), .val (.ref a81), .val (.int (3 : Int32)), .val (.int qto), .unset, .unset, .unset, .unset, .unset]) rfl (pc' := 63) rfl ?_
    have h5 := own_to3 ((p4.toUInt32 >>> ((3 : Int32) &&& 31).toUInt32).toInt32); rw [e_qto] at h5; clear e_qto
    rcases h5 with rfl | rfl
    · skip
      refine gaload B X111 at_63 rfl rfl (pc' := 65) rfl ?_
      refine giconst B X111 at_65 (v := (0 : Int32)) rfl (pc' := 66) rfl ?_
      refine giload B X111 at_66 rfl (pc' := 68) rfl ?_
      refine giload B X111 at_68 rfl (pc' := 70) rfl ?_
      refine gcallS B X111 (hw _ (List.mem_of_getElem? (i := 5) rfl)) (hw _ (List.mem_of_getElem? (i := 6) rfl)) (hw _ (List.mem_of_getElem? (i := 3) rfl)) (hw _ (List.mem_of_getElem? (i := 7) rfl)) (by decide) (mt2 l Z a0 hw a81 (0 : Int32) (3 : Int32) (3 : Int32) [(.int b0), (.int b1), (.int b2), (.int b3)] b0 h110 A113 rfl (by decide) rfl) pd___BIII_I rfl (argsL := [(.ref a81), (.int (0 : Int32)), (.int (3 : Int32)), (.int (3 : Int32))]) (st := []) rfl rfl (W := 0) (Nat.le_of_eq rfl) (by decide) (by decide) (by decide) (by decide) (fun x q => nomatch q) at_70 rfl (pureG rfl rfl fun T318 X319 => ?_)
      refine gistore B X319 at_73 (Ls' := #[.val (.int p0), .val (.int p1), .val (.int p2), .val (.int p3), .val (.int p4), .val (.ref a81), .val (.int (3 : Int32)), .val (.int (3 : Int32)), .val (.int (f2 (0 : Int32) (3 : Int32) (3 : Int32) b0)), .unset, .unset, .unset, .unset]) rfl (pc' := 75) rfl ?_
      refine gaload B X319 at_75 rfl rfl (pc' := 77) rfl ?_
      refine giconst B X319 at_77 (v := (1 : Int32)) rfl (pc' := 78) rfl ?_
      refine giload B X319 at_78 rfl (pc' := 80) rfl ?_
      refine giload B X319 at_80 rfl (pc' := 82) rfl ?_
      refine gcallS B X319 (hw _ (List.mem_of_getElem? (i := 5) rfl)) (hw _ (List.mem_of_getElem? (i := 6) rfl)) (hw _ (List.mem_of_getElem? (i := 3) rfl)) (hw _ (List.mem_of_getElem? (i := 7) rfl)) (by decide) (mt2 l Z a0 hw a81 (1 : Int32) (3 : Int32) (3 : Int32) [(.int b0), (.int b1), (.int b2), (.int b3)] b1 h110 A113 rfl (by decide) rfl) pd___BIII_I rfl (argsL := [(.ref a81), (.int (1 : Int32)), (.int (3 : Int32)), (.int (3 : Int32))]) (st := []) rfl rfl (W := 0) (Nat.le_of_eq rfl) (by decide) (by decide) (by decide) (by decide) (fun x q => nomatch q) at_82 rfl (pureG rfl rfl fun T320 X321 => ?_)
      refine gistore B X321 at_85 (Ls' := #[.val (.int p0), .val (.int p1), .val (.int p2), .val (.int p3), .val (.int p4), .val (.ref a81), .val (.int (3 : Int32)), .val (.int (3 : Int32)), .val (.int (f2 (0 : Int32) (3 : Int32) (3 : Int32) b0)), .val (.int (f2 (1 : Int32) (3 : Int32) (3 : Int32) b1)), .unset, .unset, .unset]) rfl (pc' := 87) rfl ?_
      refine gaload B X321 at_87 rfl rfl (pc' := 89) rfl ?_
      refine giconst B X321 at_89 (v := (2 : Int32)) rfl (pc' := 90) rfl ?_
      refine giload B X321 at_90 rfl (pc' := 92) rfl ?_
      refine giload B X321 at_92 rfl (pc' := 94) rfl ?_
      refine gcallS B X321 (hw _ (List.mem_of_getElem? (i := 5) rfl)) (hw _ (List.mem_of_getElem? (i := 6) rfl)) (hw _ (List.mem_of_getElem? (i := 3) rfl)) (hw _ (List.mem_of_getElem? (i := 7) rfl)) (by decide) (mt2 l Z a0 hw a81 (2 : Int32) (3 : Int32) (3 : Int32) [(.int b0), (.int b1), (.int b2), (.int b3)] b2 h110 A113 rfl (by decide) rfl) pd___BIII_I rfl (argsL := [(.ref a81), (.int (2 : Int32)), (.int (3 : Int32)), (.int (3 : Int32))]) (st := []) rfl rfl (W := 0) (Nat.le_of_eq rfl) (by decide) (by decide) (by decide) (by decide) (fun x q => nomatch q) at_94 rfl (pureG rfl rfl fun T322 X323 => ?_)
      refine gistore B X323 at_97 (Ls' := #[.val (.int p0), .val (.int p1), .val (.int p2), .val (.int p3), .val (.int p4), .val (.ref a81), .val (.int (3 : Int32)), .val (.int (3 : Int32)), .val (.int (f2 (0 : Int32) (3 : Int32) (3 : Int32) b0)), .val (.int (f2 (1 : Int32) (3 : Int32) (3 : Int32) b1)), .val (.int (f2 (2 : Int32) (3 : Int32) (3 : Int32) b2)), .unset, .unset]) rfl (pc' := 99) rfl ?_
      refine gaload B X323 at_99 rfl rfl (pc' := 101) rfl ?_
      refine giconst B X323 at_101 (v := (3 : Int32)) rfl (pc' := 102) rfl ?_
      refine giload B X323 at_102 rfl (pc' := 104) rfl ?_
      refine giload B X323 at_104 rfl (pc' := 106) rfl ?_
      refine gcallS B X323 (hw _ (List.mem_of_getElem? (i := 5) rfl)) (hw _ (List.mem_of_getElem? (i := 6) rfl)) (hw _ (List.mem_of_getElem? (i := 3) rfl)) (hw _ (List.mem_of_getElem? (i := 7) rfl)) (by decide) (mt2 l Z a0 hw a81 (3 : Int32) (3 : Int32) (3 : Int32) [(.int b0), (.int b1), (.int b2), (.int b3)] b3 h110 A113 rfl (by decide) rfl) pd___BIII_I rfl (argsL := [(.ref a81), (.int (3 : Int32)), (.int (3 : Int32)), (.int (3 : Int32))]) (st := []) rfl rfl (W := 0) (Nat.le_of_eq rfl) (by decide) (by decide) (by decide) (by decide) (fun x q => nomatch q) at_106 rfl (pureG rfl rfl fun T324 X325 => ?_)
      refine gistore B X325 at_109 (Ls' := #[.val (.int p0), .val (.int p1), .val (.int p2), .val (.int p3), .val (.int p4), .val (.ref a81), .val (.int (3 : Int32)), .val (.int (3 : Int32)), .val (.int (f2 (0 : Int32) (3 : Int32) (3 : Int32) b0)), .val (.int (f2 (1 : Int32) (3 : Int32) (3 : Int32) b1)), .val (.int (f2 (2 : Int32) (3 : Int32) (3 : Int32) b2)), .val (.int (f2 (3 : Int32) (3 : Int32) (3 : Int32) b3)), .unset]) rfl (pc' := 111) rfl ?_
      refine joinG B X325 (F := fun z => (mkF m 150 #[.val (.int p0), .val (.int p1), .val (.int p2), .val (.int p3), .val (.int p4), .val (.ref a81), .val (.int (3 : Int32)), .val (.int (3 : Int32)), .val (.int (f2 (0 : Int32) (3 : Int32) (3 : Int32) b0)), .val (.int (f2 (1 : Int32) (3 : Int32) (3 : Int32) b1)), .val (.int (f2 (2 : Int32) (3 : Int32) (3 : Int32) b2)), .val (.int (f2 (3 : Int32) (3 : Int32) (3 : Int32) b3)), .val (.int z)] [])) (r := (oE (f2 (0 : Int32) (3 : Int32) (3 : Int32) b0) (f2 (1 : Int32) (3 : Int32) (3 : Int32) b1) (f2 (2 : Int32) (3 : Int32) (3 : Int32) b2) (f2 (3 : Int32) (3 : Int32) (3 : Int32) b3))) (fun J => ?_) ?_
      · refine giload B X325 at_111 rfl (pc' := 113) rfl ?_
        by_cases c113_326 : (f2 (0 : Int32) (3 : Int32) (3 : Int32) b0) < (0 : Int32)
        · refine gifY B X325 (pc' := 131) at_113 ((if0 _ _).trans (tlt c113_326).1) (by decide) ?_
          refine giconst B X325 at_131 (v := (-1 : Int32)) rfl (pc' := 132) rfl ?_
          refine gistore B X325 at_132 (Ls' := #[.val (.int p0), .val (.int p1), .val (.int p2), .val (.int p3), .val (.int p4), .val (.ref a81), .val (.int (3 : Int32)), .val (.int (3 : Int32)), .val (.int (f2 (0 : Int32) (3 : Int32) (3 : Int32) b0)), .val (.int (f2 (1 : Int32) (3 : Int32) (3 : Int32) b1)), .val (.int (f2 (2 : Int32) (3 : Int32) (3 : Int32) b2)), .val (.int (f2 (3 : Int32) (3 : Int32) (3 : Int32) b3)), .val (.int (-1 : Int32))]) rfl (pc' := 134) rfl ?_
          refine ggoto B X325 (pc' := 150) at_134 (by decide) ?_
          have e_J : (oE (f2 (0 : Int32) (3 : Int32) (3 : Int32) b0) (f2 (1 : Int32) (3 : Int32) (3 : Int32) b1) (f2 (2 : Int32) (3 : Int32) (3 : Int32) b2) (f2 (3 : Int32) (3 : Int32) (3 : Int32) b3)) = (-1 : Int32) := by rw [oE, if_pos c113_326]
          rw [e_J] at J
          exact J _ X325
        · refine gifN B X325 at_113 ((if0 _ _).trans (flt c113_326).1) (pc' := 116) rfl ?_
          refine giload B X325 at_116 rfl (pc' := 118) rfl ?_
          by_cases c118_327 : (f2 (1 : Int32) (3 : Int32) (3 : Int32) b1) < (0 : Int32)
          · refine gifY B X325 (pc' := 131) at_118 ((if0 _ _).trans (tlt c118_327).1) (by decide) ?_
            refine giconst B X325 at_131 (v := (-1 : Int32)) rfl (pc' := 132) rfl ?_
            refine gistore B X325 at_132 (Ls' := #[.val (.int p0), .val (.int p1), .val (.int p2), .val (.int p3), .val (.int p4), .val (.ref a81), .val (.int (3 : Int32)), .val (.int (3 : Int32)), .val (.int (f2 (0 : Int32) (3 : Int32) (3 : Int32) b0)), .val (.int (f2 (1 : Int32) (3 : Int32) (3 : Int32) b1)), .val (.int (f2 (2 : Int32) (3 : Int32) (3 : Int32) b2)), .val (.int (f2 (3 : Int32) (3 : Int32) (3 : Int32) b3)), .val (.int (-1 : Int32))]) rfl (pc' := 134) rfl ?_
            refine ggoto B X325 (pc' := 150) at_134 (by decide) ?_
            have e_J : (oE (f2 (0 : Int32) (3 : Int32) (3 : Int32) b0) (f2 (1 : Int32) (3 : Int32) (3 : Int32) b1) (f2 (2 : Int32) (3 : Int32) (3 : Int32) b2) (f2 (3 : Int32) (3 : Int32) (3 : Int32) b3)) = (-1 : Int32) := by rw [oE, if_neg c113_326, if_pos c118_327]
            rw [e_J] at J
            exact J _ X325
          · refine gifN B X325 at_118 ((if0 _ _).trans (flt c118_327).1) (pc' := 121) rfl ?_
            refine giload B X325 at_121 rfl (pc' := 123) rfl ?_
            by_cases c123_328 : (f2 (2 : Int32) (3 : Int32) (3 : Int32) b2) < (0 : Int32)
            · refine gifY B X325 (pc' := 131) at_123 ((if0 _ _).trans (tlt c123_328).1) (by decide) ?_
              refine giconst B X325 at_131 (v := (-1 : Int32)) rfl (pc' := 132) rfl ?_
              refine gistore B X325 at_132 (Ls' := #[.val (.int p0), .val (.int p1), .val (.int p2), .val (.int p3), .val (.int p4), .val (.ref a81), .val (.int (3 : Int32)), .val (.int (3 : Int32)), .val (.int (f2 (0 : Int32) (3 : Int32) (3 : Int32) b0)), .val (.int (f2 (1 : Int32) (3 : Int32) (3 : Int32) b1)), .val (.int (f2 (2 : Int32) (3 : Int32) (3 : Int32) b2)), .val (.int (f2 (3 : Int32) (3 : Int32) (3 : Int32) b3)), .val (.int (-1 : Int32))]) rfl (pc' := 134) rfl ?_
              refine ggoto B X325 (pc' := 150) at_134 (by decide) ?_
              have e_J : (oE (f2 (0 : Int32) (3 : Int32) (3 : Int32) b0) (f2 (1 : Int32) (3 : Int32) (3 : Int32) b1) (f2 (2 : Int32) (3 : Int32) (3 : Int32) b2) (f2 (3 : Int32) (3 : Int32) (3 : Int32) b3)) = (-1 : Int32) := by rw [oE, if_neg c113_326, if_neg c118_327, if_pos c123_328]
              rw [e_J] at J
              exact J _ X325
            · refine gifN B X325 at_123 ((if0 _ _).trans (flt c123_328).1) (pc' := 126) rfl ?_
              refine giload B X325 at_126 rfl (pc' := 128) rfl ?_
              by_cases c128_329 : (f2 (3 : Int32) (3 : Int32) (3 : Int32) b3) < (0 : Int32)
              · refine gifN B X325 at_128 ((if0 _ _).trans (tlt c128_329).2.1) (pc' := 131) rfl ?_
                refine giconst B X325 at_131 (v := (-1 : Int32)) rfl (pc' := 132) rfl ?_
                refine gistore B X325 at_132 (Ls' := #[.val (.int p0), .val (.int p1), .val (.int p2), .val (.int p3), .val (.int p4), .val (.ref a81), .val (.int (3 : Int32)), .val (.int (3 : Int32)), .val (.int (f2 (0 : Int32) (3 : Int32) (3 : Int32) b0)), .val (.int (f2 (1 : Int32) (3 : Int32) (3 : Int32) b1)), .val (.int (f2 (2 : Int32) (3 : Int32) (3 : Int32) b2)), .val (.int (f2 (3 : Int32) (3 : Int32) (3 : Int32) b3)), .val (.int (-1 : Int32))]) rfl (pc' := 134) rfl ?_
                refine ggoto B X325 (pc' := 150) at_134 (by decide) ?_
                have e_J : (oE (f2 (0 : Int32) (3 : Int32) (3 : Int32) b0) (f2 (1 : Int32) (3 : Int32) (3 : Int32) b1) (f2 (2 : Int32) (3 : Int32) (3 : Int32) b2) (f2 (3 : Int32) (3 : Int32) (3 : Int32) b3)) = (-1 : Int32) := by rw [oE, if_neg c113_326, if_neg c118_327, if_neg c123_328, if_pos c128_329]
                rw [e_J] at J
                exact J _ X325
              · refine gifY B X325 (pc' := 137) at_128 ((if0 _ _).trans (flt c128_329).2.1) (by decide) ?_
                refine giload B X325 at_137 rfl (pc' := 139) rfl ?_
                refine giload B X325 at_139 rfl (pc' := 141) rfl ?_
                refine giadd B X325 at_141 rfl (pc' := 142) rfl ?_
                refine giload B X325 at_142 rfl (pc' := 144) rfl ?_
                refine giadd B X325 at_144 rfl (pc' := 145) rfl ?_
                refine giload B X325 at_145 rfl (pc' := 147) rfl ?_
                refine giadd B X325 at_147 rfl (pc' := 148) rfl ?_
                refine gistore B X325 at_148 (Ls' := #[.val (.int p0), .val (.int p1), .val (.int p2), .val (.int p3), .val (.int p4), .val (.ref a81), .val (.int (3 : Int32)), .val (.int (3 : Int32)), .val (.int (f2 (0 : Int32) (3 : Int32) (3 : Int32) b0)), .val (.int (f2 (1 : Int32) (3 : Int32) (3 : Int32) b1)), .val (.int (f2 (2 : Int32) (3 : Int32) (3 : Int32) b2)), .val (.int (f2 (3 : Int32) (3 : Int32) (3 : Int32) b3)), .val (.int ((((f2 (0 : Int32) (3 : Int32) (3 : Int32) b0) + (f2 (1 : Int32) (3 : Int32) (3 : Int32) b1)) + (f2 (2 : Int32) (3 : Int32) (3 : Int32) b2)) + (f2 (3 : Int32) (3 : Int32) (3 : Int32) b3)))]) rfl (pc' := 150) rfl ?_
                have e_J : (oE (f2 (0 : Int32) (3 : Int32) (3 : Int32) b0) (f2 (1 : Int32) (3 : Int32) (3 : Int32) b1) (f2 (2 : Int32) (3 : Int32) (3 : Int32) b2) (f2 (3 : Int32) (3 : Int32) (3 : Int32) b3)) = ((((f2 (0 : Int32) (3 : Int32) (3 : Int32) b0) + (f2 (1 : Int32) (3 : Int32) (3 : Int32) b1)) + (f2 (2 : Int32) (3 : Int32) (3 : Int32) b2)) + (f2 (3 : Int32) (3 : Int32) (3 : Int32) b3)) := by rw [oE, if_neg c113_326, if_neg c118_327, if_neg c123_328, if_neg c128_329]
                rw [e_J] at J
                exact J _ X325
      intro T330 X331
      show Go p e below s _ _ _ _ _ T330 (mkF m 150 #[.val (.int p0), .val (.int p1), .val (.int p2), .val (.int p3), .val (.int p4), .val (.ref a81), .val (.int (3 : Int32)), .val (.int (3 : Int32)), .val (.int (f2 (0 : Int32) (3 : Int32) (3 : Int32) b0)), .val (.int (f2 (1 : Int32) (3 : Int32) (3 : Int32) b1)), .val (.int (f2 (2 : Int32) (3 : Int32) (3 : Int32) b2)), .val (.int (f2 (3 : Int32) (3 : Int32) (3 : Int32) b3)), .val (.int (oE (f2 (0 : Int32) (3 : Int32) (3 : Int32) b0) (f2 (1 : Int32) (3 : Int32) (3 : Int32) b1) (f2 (2 : Int32) (3 : Int32) (3 : Int32) b2) (f2 (3 : Int32) (3 : Int32) (3 : Int32) b3)))] [])
      refine gaload B X331 at_150 rfl rfl (pc' := 152) rfl ?_
      refine giload B X331 at_152 rfl (pc' := 154) rfl ?_
      refine giload B X331 at_154 rfl (pc' := 156) rfl ?_
      refine gcallS B X331 (hw _ (List.mem_of_getElem? (i := 8) rfl)) (hw _ (List.mem_of_getElem? (i := 9) rfl)) (hw _ (List.mem_of_getElem? (i := 10) rfl)) (hw _ (List.mem_of_getElem? (i := 11) rfl)) (by decide) (mt3_3 l Z a0 hw a81 (3 : Int32) b0 b1 b2 b3 h110 A113 (by decide)) pd___BII_I rfl (argsL := [(.ref a81), (.int (3 : Int32)), (.int (3 : Int32))]) (st := []) rfl rfl (W := 0) (Nat.le_of_eq rfl) (by decide) (by decide) (by decide) (by decide) (fun x q => nomatch q) at_156 rfl (pureG rfl rfl fun T332 X333 => ?_)
      refine giload B X333 at_159 rfl (pc' := 161) rfl ?_
      have c161_334 : (f3_3 (3 : Int32) b0 b1 b2 b3) = (oE (f2 (0 : Int32) (3 : Int32) (3 : Int32) b0) (f2 (1 : Int32) (3 : Int32) (3 : Int32) b1) (f2 (2 : Int32) (3 : Int32) (3 : Int32) b2) (f2 (3 : Int32) (3 : Int32) (3 : Int32) b3)) := own_fin33 b0 b1 b2 b3
      refine gicN B X333 at_161 (teq c161_334).2 (pc' := 164) rfl ?_
      refine giconst B X333 at_164 (v := (1 : Int32)) rfl (pc' := 165) rfl ?_
      refine ggoto B X333 (pc' := 169) at_165 (by decide) ?_
      exact gretN B X333 (z' := (1 : Int32)) (by simp) (rfl) at_169 (by decide) (by decide) (rfl)
    · skip
      refine gaload B X111 at_63 rfl rfl (pc' := 65) rfl ?_
      refine giconst B X111 at_65 (v := (0 : Int32)) rfl (pc' := 66) rfl ?_
      refine giload B X111 at_66 rfl (pc' := 68) rfl ?_
      refine giload B X111 at_68 rfl (pc' := 70) rfl ?_
      refine gcallS B X111 (hw _ (List.mem_of_getElem? (i := 5) rfl)) (hw _ (List.mem_of_getElem? (i := 6) rfl)) (hw _ (List.mem_of_getElem? (i := 3) rfl)) (hw _ (List.mem_of_getElem? (i := 7) rfl)) (by decide) (mt2 l Z a0 hw a81 (0 : Int32) (3 : Int32) (4 : Int32) [(.int b0), (.int b1), (.int b2), (.int b3)] b0 h110 A113 rfl (by decide) rfl) pd___BIII_I rfl (argsL := [(.ref a81), (.int (0 : Int32)), (.int (3 : Int32)), (.int (4 : Int32))]) (st := []) rfl rfl (W := 0) (Nat.le_of_eq rfl) (by decide) (by decide) (by decide) (by decide) (fun x q => nomatch q) at_70 rfl (pureG rfl rfl fun T335 X336 => ?_)
      refine gistore B X336 at_73 (Ls' := #[.val (.int p0), .val (.int p1), .val (.int p2), .val (.int p3), .val (.int p4), .val (.ref a81), .val (.int (3 : Int32)), .val (.int (4 : Int32)), .val (.int (f2 (0 : Int32) (3 : Int32) (4 : Int32) b0)), .unset, .unset, .unset, .unset]) rfl (pc' := 75) rfl ?_
      refine gaload B X336 at_75 rfl rfl (pc' := 77) rfl ?_
      refine giconst B X336 at_77 (v := (1 : Int32)) rfl (pc' := 78) rfl ?_
      refine giload B X336 at_78 rfl (pc' := 80) rfl ?_
      refine giload B X336 at_80 rfl (pc' := 82) rfl ?_
      refine gcallS B X336 (hw _ (List.mem_of_getElem? (i := 5) rfl)) (hw _ (List.mem_of_getElem? (i := 6) rfl)) (hw _ (List.mem_of_getElem? (i := 3) rfl)) (hw _ (List.mem_of_getElem? (i := 7) rfl)) (by decide) (mt2 l Z a0 hw a81 (1 : Int32) (3 : Int32) (4 : Int32) [(.int b0), (.int b1), (.int b2), (.int b3)] b1 h110 A113 rfl (by decide) rfl) pd___BIII_I rfl (argsL := [(.ref a81), (.int (1 : Int32)), (.int (3 : Int32)), (.int (4 : Int32))]) (st := []) rfl rfl (W := 0) (Nat.le_of_eq rfl) (by decide) (by decide) (by decide) (by decide) (fun x q => nomatch q) at_82 rfl (pureG rfl rfl fun T337 X338 => ?_)
      refine gistore B X338 at_85 (Ls' := #[.val (.int p0), .val (.int p1), .val (.int p2), .val (.int p3), .val (.int p4), .val (.ref a81), .val (.int (3 : Int32)), .val (.int (4 : Int32)), .val (.int (f2 (0 : Int32) (3 : Int32) (4 : Int32) b0)), .val (.int (f2 (1 : Int32) (3 : Int32) (4 : Int32) b1)), .unset, .unset, .unset]) rfl (pc' := 87) rfl ?_
      refine gaload B X338 at_87 rfl rfl (pc' := 89) rfl ?_
      refine giconst B X338 at_89 (v := (2 : Int32)) rfl (pc' := 90) rfl ?_
      refine giload B X338 at_90 rfl (pc' := 92) rfl ?_
      refine giload B X338 at_92 rfl (pc' := 94) rfl ?_
      refine gcallS B X338 (hw _ (List.mem_of_getElem? (i := 5) rfl)) (hw _ (List.mem_of_getElem? (i := 6) rfl)) (hw _ (List.mem_of_getElem? (i := 3) rfl)) (hw _ (List.mem_of_getElem? (i := 7) rfl)) (by decide) (mt2 l Z a0 hw a81 (2 : Int32) (3 : Int32) (4 : Int32) [(.int b0), (.int b1), (.int b2), (.int b3)] b2 h110 A113 rfl (by decide) rfl) pd___BIII_I rfl (argsL := [(.ref a81), (.int (2 : Int32)), (.int (3 : Int32)), (.int (4 : Int32))]) (st := []) rfl rfl (W := 0) (Nat.le_of_eq rfl) (by decide) (by decide) (by decide) (by decide) (fun x q => nomatch q) at_94 rfl (pureG rfl rfl fun T339 X340 => ?_)
      refine gistore B X340 at_97 (Ls' := #[.val (.int p0), .val (.int p1), .val (.int p2), .val (.int p3), .val (.int p4), .val (.ref a81), .val (.int (3 : Int32)), .val (.int (4 : Int32)), .val (.int (f2 (0 : Int32) (3 : Int32) (4 : Int32) b0)), .val (.int (f2 (1 : Int32) (3 : Int32) (4 : Int32) b1)), .val (.int (f2 (2 : Int32) (3 : Int32) (4 : Int32) b2)), .unset, .unset]) rfl (pc' := 99) rfl ?_
      refine gaload B X340 at_99 rfl rfl (pc' := 101) rfl ?_
      refine giconst B X340 at_101 (v := (3 : Int32)) rfl (pc' := 102) rfl ?_
      refine giload B X340 at_102 rfl (pc' := 104) rfl ?_
      refine giload B X340 at_104 rfl (pc' := 106) rfl ?_
      refine gcallS B X340 (hw _ (List.mem_of_getElem? (i := 5) rfl)) (hw _ (List.mem_of_getElem? (i := 6) rfl)) (hw _ (List.mem_of_getElem? (i := 3) rfl)) (hw _ (List.mem_of_getElem? (i := 7) rfl)) (by decide) (mt2 l Z a0 hw a81 (3 : Int32) (3 : Int32) (4 : Int32) [(.int b0), (.int b1), (.int b2), (.int b3)] b3 h110 A113 rfl (by decide) rfl) pd___BIII_I rfl (argsL := [(.ref a81), (.int (3 : Int32)), (.int (3 : Int32)), (.int (4 : Int32))]) (st := []) rfl rfl (W := 0) (Nat.le_of_eq rfl) (by decide) (by decide) (by decide) (by decide) (fun x q => nomatch q) at_106 rfl (pureG rfl rfl fun T341 X342 => ?_)
      refine gistore B X342 at_109 (Ls' := #[.val (.int p0), .val (.int p1), .val (.int p2), .val (.int p3), .val (.int p4), .val (.ref a81), .val (.int (3 : Int32)), .val (.int (4 : Int32)), .val (.int (f2 (0 : Int32) (3 : Int32) (4 : Int32) b0)), .val (.int (f2 (1 : Int32) (3 : Int32) (4 : Int32) b1)), .val (.int (f2 (2 : Int32) (3 : Int32) (4 : Int32) b2)), .val (.int (f2 (3 : Int32) (3 : Int32) (4 : Int32) b3)), .unset]) rfl (pc' := 111) rfl ?_
      refine joinG B X342 (F := fun z => (mkF m 150 #[.val (.int p0), .val (.int p1), .val (.int p2), .val (.int p3), .val (.int p4), .val (.ref a81), .val (.int (3 : Int32)), .val (.int (4 : Int32)), .val (.int (f2 (0 : Int32) (3 : Int32) (4 : Int32) b0)), .val (.int (f2 (1 : Int32) (3 : Int32) (4 : Int32) b1)), .val (.int (f2 (2 : Int32) (3 : Int32) (4 : Int32) b2)), .val (.int (f2 (3 : Int32) (3 : Int32) (4 : Int32) b3)), .val (.int z)] [])) (r := (oE (f2 (0 : Int32) (3 : Int32) (4 : Int32) b0) (f2 (1 : Int32) (3 : Int32) (4 : Int32) b1) (f2 (2 : Int32) (3 : Int32) (4 : Int32) b2) (f2 (3 : Int32) (3 : Int32) (4 : Int32) b3))) (fun J => ?_) ?_
      · refine giload B X342 at_111 rfl (pc' := 113) rfl ?_
        by_cases c113_343 : (f2 (0 : Int32) (3 : Int32) (4 : Int32) b0) < (0 : Int32)
        · refine gifY B X342 (pc' := 131) at_113 ((if0 _ _).trans (tlt c113_343).1) (by decide) ?_
          refine giconst B X342 at_131 (v := (-1 : Int32)) rfl (pc' := 132) rfl ?_
          refine gistore B X342 at_132 (Ls' := #[.val (.int p0), .val (.int p1), .val (.int p2), .val (.int p3), .val (.int p4), .val (.ref a81), .val (.int (3 : Int32)), .val (.int (4 : Int32)), .val (.int (f2 (0 : Int32) (3 : Int32) (4 : Int32) b0)), .val (.int (f2 (1 : Int32) (3 : Int32) (4 : Int32) b1)), .val (.int (f2 (2 : Int32) (3 : Int32) (4 : Int32) b2)), .val (.int (f2 (3 : Int32) (3 : Int32) (4 : Int32) b3)), .val (.int (-1 : Int32))]) rfl (pc' := 134) rfl ?_
          refine ggoto B X342 (pc' := 150) at_134 (by decide) ?_
          have e_J : (oE (f2 (0 : Int32) (3 : Int32) (4 : Int32) b0) (f2 (1 : Int32) (3 : Int32) (4 : Int32) b1) (f2 (2 : Int32) (3 : Int32) (4 : Int32) b2) (f2 (3 : Int32) (3 : Int32) (4 : Int32) b3)) = (-1 : Int32) := by rw [oE, if_pos c113_343]
          rw [e_J] at J
          exact J _ X342
        · refine gifN B X342 at_113 ((if0 _ _).trans (flt c113_343).1) (pc' := 116) rfl ?_
          refine giload B X342 at_116 rfl (pc' := 118) rfl ?_
          by_cases c118_344 : (f2 (1 : Int32) (3 : Int32) (4 : Int32) b1) < (0 : Int32)
          · refine gifY B X342 (pc' := 131) at_118 ((if0 _ _).trans (tlt c118_344).1) (by decide) ?_
            refine giconst B X342 at_131 (v := (-1 : Int32)) rfl (pc' := 132) rfl ?_
            refine gistore B X342 at_132 (Ls' := #[.val (.int p0), .val (.int p1), .val (.int p2), .val (.int p3), .val (.int p4), .val (.ref a81), .val (.int (3 : Int32)), .val (.int (4 : Int32)), .val (.int (f2 (0 : Int32) (3 : Int32) (4 : Int32) b0)), .val (.int (f2 (1 : Int32) (3 : Int32) (4 : Int32) b1)), .val (.int (f2 (2 : Int32) (3 : Int32) (4 : Int32) b2)), .val (.int (f2 (3 : Int32) (3 : Int32) (4 : Int32) b3)), .val (.int (-1 : Int32))]) rfl (pc' := 134) rfl ?_
            refine ggoto B X342 (pc' := 150) at_134 (by decide) ?_
            have e_J : (oE (f2 (0 : Int32) (3 : Int32) (4 : Int32) b0) (f2 (1 : Int32) (3 : Int32) (4 : Int32) b1) (f2 (2 : Int32) (3 : Int32) (4 : Int32) b2) (f2 (3 : Int32) (3 : Int32) (4 : Int32) b3)) = (-1 : Int32) := by rw [oE, if_neg c113_343, if_pos c118_344]
            rw [e_J] at J
            exact J _ X342
          · refine gifN B X342 at_118 ((if0 _ _).trans (flt c118_344).1) (pc' := 121) rfl ?_
            refine giload B X342 at_121 rfl (pc' := 123) rfl ?_
            by_cases c123_345 : (f2 (2 : Int32) (3 : Int32) (4 : Int32) b2) < (0 : Int32)
            · refine gifY B X342 (pc' := 131) at_123 ((if0 _ _).trans (tlt c123_345).1) (by decide) ?_
              refine giconst B X342 at_131 (v := (-1 : Int32)) rfl (pc' := 132) rfl ?_
              refine gistore B X342 at_132 (Ls' := #[.val (.int p0), .val (.int p1), .val (.int p2), .val (.int p3), .val (.int p4), .val (.ref a81), .val (.int (3 : Int32)), .val (.int (4 : Int32)), .val (.int (f2 (0 : Int32) (3 : Int32) (4 : Int32) b0)), .val (.int (f2 (1 : Int32) (3 : Int32) (4 : Int32) b1)), .val (.int (f2 (2 : Int32) (3 : Int32) (4 : Int32) b2)), .val (.int (f2 (3 : Int32) (3 : Int32) (4 : Int32) b3)), .val (.int (-1 : Int32))]) rfl (pc' := 134) rfl ?_
              refine ggoto B X342 (pc' := 150) at_134 (by decide) ?_
              have e_J : (oE (f2 (0 : Int32) (3 : Int32) (4 : Int32) b0) (f2 (1 : Int32) (3 : Int32) (4 : Int32) b1) (f2 (2 : Int32) (3 : Int32) (4 : Int32) b2) (f2 (3 : Int32) (3 : Int32) (4 : Int32) b3)) = (-1 : Int32) := by rw [oE, if_neg c113_343, if_neg c118_344, if_pos c123_345]
              rw [e_J] at J
              exact J _ X342
            · refine gifN B X342 at_123 ((if0 _ _).trans (flt c123_345).1) (pc' := 126) rfl ?_
              refine giload B X342 at_126 rfl (pc' := 128) rfl ?_
              by_cases c128_346 : (f2 (3 : Int32) (3 : Int32) (4 : Int32) b3) < (0 : Int32)
              · refine gifN B X342 at_128 ((if0 _ _).trans (tlt c128_346).2.1) (pc' := 131) rfl ?_
                refine giconst B X342 at_131 (v := (-1 : Int32)) rfl (pc' := 132) rfl ?_
                refine gistore B X342 at_132 (Ls' := #[.val (.int p0), .val (.int p1), .val (.int p2), .val (.int p3), .val (.int p4), .val (.ref a81), .val (.int (3 : Int32)), .val (.int (4 : Int32)), .val (.int (f2 (0 : Int32) (3 : Int32) (4 : Int32) b0)), .val (.int (f2 (1 : Int32) (3 : Int32) (4 : Int32) b1)), .val (.int (f2 (2 : Int32) (3 : Int32) (4 : Int32) b2)), .val (.int (f2 (3 : Int32) (3 : Int32) (4 : Int32) b3)), .val (.int (-1 : Int32))]) rfl (pc' := 134) rfl ?_
                refine ggoto B X342 (pc' := 150) at_134 (by decide) ?_
                have e_J : (oE (f2 (0 : Int32) (3 : Int32) (4 : Int32) b0) (f2 (1 : Int32) (3 : Int32) (4 : Int32) b1) (f2 (2 : Int32) (3 : Int32) (4 : Int32) b2) (f2 (3 : Int32) (3 : Int32) (4 : Int32) b3)) = (-1 : Int32) := by rw [oE, if_neg c113_343, if_neg c118_344, if_neg c123_345, if_pos c128_346]
                rw [e_J] at J
                exact J _ X342
              · refine gifY B X342 (pc' := 137) at_128 ((if0 _ _).trans (flt c128_346).2.1) (by decide) ?_
                refine giload B X342 at_137 rfl (pc' := 139) rfl ?_
                refine giload B X342 at_139 rfl (pc' := 141) rfl ?_
                refine giadd B X342 at_141 rfl (pc' := 142) rfl ?_
                refine giload B X342 at_142 rfl (pc' := 144) rfl ?_
                refine giadd B X342 at_144 rfl (pc' := 145) rfl ?_
                refine giload B X342 at_145 rfl (pc' := 147) rfl ?_
                refine giadd B X342 at_147 rfl (pc' := 148) rfl ?_
                refine gistore B X342 at_148 (Ls' := #[.val (.int p0), .val (.int p1), .val (.int p2), .val (.int p3), .val (.int p4), .val (.ref a81), .val (.int (3 : Int32)), .val (.int (4 : Int32)), .val (.int (f2 (0 : Int32) (3 : Int32) (4 : Int32) b0)), .val (.int (f2 (1 : Int32) (3 : Int32) (4 : Int32) b1)), .val (.int (f2 (2 : Int32) (3 : Int32) (4 : Int32) b2)), .val (.int (f2 (3 : Int32) (3 : Int32) (4 : Int32) b3)), .val (.int ((((f2 (0 : Int32) (3 : Int32) (4 : Int32) b0) + (f2 (1 : Int32) (3 : Int32) (4 : Int32) b1)) + (f2 (2 : Int32) (3 : Int32) (4 : Int32) b2)) + (f2 (3 : Int32) (3 : Int32) (4 : Int32) b3)))]) rfl (pc' := 150) rfl ?_
                have e_J : (oE (f2 (0 : Int32) (3 : Int32) (4 : Int32) b0) (f2 (1 : Int32) (3 : Int32) (4 : Int32) b1) (f2 (2 : Int32) (3 : Int32) (4 : Int32) b2) (f2 (3 : Int32) (3 : Int32) (4 : Int32) b3)) = ((((f2 (0 : Int32) (3 : Int32) (4 : Int32) b0) + (f2 (1 : Int32) (3 : Int32) (4 : Int32) b1)) + (f2 (2 : Int32) (3 : Int32) (4 : Int32) b2)) + (f2 (3 : Int32) (3 : Int32) (4 : Int32) b3)) := by rw [oE, if_neg c113_343, if_neg c118_344, if_neg c123_345, if_neg c128_346]
                rw [e_J] at J
                exact J _ X342
      intro T347 X348
      show Go p e below s _ _ _ _ _ T347 (mkF m 150 #[.val (.int p0), .val (.int p1), .val (.int p2), .val (.int p3), .val (.int p4), .val (.ref a81), .val (.int (3 : Int32)), .val (.int (4 : Int32)), .val (.int (f2 (0 : Int32) (3 : Int32) (4 : Int32) b0)), .val (.int (f2 (1 : Int32) (3 : Int32) (4 : Int32) b1)), .val (.int (f2 (2 : Int32) (3 : Int32) (4 : Int32) b2)), .val (.int (f2 (3 : Int32) (3 : Int32) (4 : Int32) b3)), .val (.int (oE (f2 (0 : Int32) (3 : Int32) (4 : Int32) b0) (f2 (1 : Int32) (3 : Int32) (4 : Int32) b1) (f2 (2 : Int32) (3 : Int32) (4 : Int32) b2) (f2 (3 : Int32) (3 : Int32) (4 : Int32) b3)))] [])
      refine gaload B X348 at_150 rfl rfl (pc' := 152) rfl ?_
      refine giload B X348 at_152 rfl (pc' := 154) rfl ?_
      refine giload B X348 at_154 rfl (pc' := 156) rfl ?_
      refine gcallS B X348 (hw _ (List.mem_of_getElem? (i := 8) rfl)) (hw _ (List.mem_of_getElem? (i := 9) rfl)) (hw _ (List.mem_of_getElem? (i := 10) rfl)) (hw _ (List.mem_of_getElem? (i := 11) rfl)) (by decide) (mt3_3 l Z a0 hw a81 (4 : Int32) b0 b1 b2 b3 h110 A113 (by decide)) pd___BII_I rfl (argsL := [(.ref a81), (.int (3 : Int32)), (.int (4 : Int32))]) (st := []) rfl rfl (W := 0) (Nat.le_of_eq rfl) (by decide) (by decide) (by decide) (by decide) (fun x q => nomatch q) at_156 rfl (pureG rfl rfl fun T349 X350 => ?_)
      refine giload B X350 at_159 rfl (pc' := 161) rfl ?_
      have c161_351 : (f3_3 (4 : Int32) b0 b1 b2 b3) = (oE (f2 (0 : Int32) (3 : Int32) (4 : Int32) b0) (f2 (1 : Int32) (3 : Int32) (4 : Int32) b1) (f2 (2 : Int32) (3 : Int32) (4 : Int32) b2) (f2 (3 : Int32) (3 : Int32) (4 : Int32) b3)) := own_fin34 b0 b1 b2 b3
      refine gicN B X350 at_161 (teq c161_351).2 (pc' := 164) rfl ?_
      refine giconst B X350 at_164 (v := (1 : Int32)) rfl (pc' := 165) rfl ?_
      refine ggoto B X350 (pc' := 169) at_165 (by decide) ?_
      exact gretN B X350 (z' := (1 : Int32)) (by simp) (rfl) at_169 (by decide) (by decide) (rfl)
  · skip
    refine giload B X111 at_46 rfl (pc' := 48) rfl ?_
    refine giload B X111 at_48 rfl (pc' := 50) rfl ?_
    refine giconst B X111 at_50 (v := (3 : Int32)) rfl (pc' := 51) rfl ?_
    refine giushr B X111 at_51 rfl (pc' := 52) rfl ?_
    refine gbipush B X111 at_52 (v := (7 : Int32)) rfl (pc' := 54) rfl ?_
    refine giand B X111 at_54 rfl (pc' := 55) rfl ?_
    refine giconst B X111 at_55 (v := (5 : Int32)) rfl (pc' := 56) rfl ?_
    refine giload B X111 at_56 rfl (pc' := 58) rfl ?_
    refine gisub B X111 at_58 (v := (1 : Int32)) (by decide) (pc' := 59) rfl ?_
    refine girem B X111 at_59 (by decide) rfl (pc' := 60) rfl ?_
    refine giadd B X111 at_60 rfl (pc' := 61) rfl ?_
    generalize e_qto : ((4 : Int32) + ((((p4.toUInt32 >>> ((3 : Int32) &&& 31).toUInt32).toInt32) &&& (7 : Int32)) % (1 : Int32))) = qto
    refine gistore B X111 at_61 (Ls' := #[.val (.int p0), .val (.int p1), .val (.int p2), .val (.int p3), .val (.int p4), .val (.ref a81), .val (.int (4 : Int32)), .val (.int qto), .unset, .unset, .unset, .unset, .unset]) rfl (pc' := 63) rfl ?_
    have h5 := own_to4 ((p4.toUInt32 >>> ((3 : Int32) &&& 31).toUInt32).toInt32); rw [e_qto] at h5; clear e_qto
    rcases h5 with rfl
    · skip
      refine gaload B X111 at_63 rfl rfl (pc' := 65) rfl ?_
      refine giconst B X111 at_65 (v := (0 : Int32)) rfl (pc' := 66) rfl ?_
      refine giload B X111 at_66 rfl (pc' := 68) rfl ?_
      refine giload B X111 at_68 rfl (pc' := 70) rfl ?_
      refine gcallS B X111 (hw _ (List.mem_of_getElem? (i := 5) rfl)) (hw _ (List.mem_of_getElem? (i := 6) rfl)) (hw _ (List.mem_of_getElem? (i := 3) rfl)) (hw _ (List.mem_of_getElem? (i := 7) rfl)) (by decide) (mt2 l Z a0 hw a81 (0 : Int32) (4 : Int32) (4 : Int32) [(.int b0), (.int b1), (.int b2), (.int b3)] b0 h110 A113 rfl (by decide) rfl) pd___BIII_I rfl (argsL := [(.ref a81), (.int (0 : Int32)), (.int (4 : Int32)), (.int (4 : Int32))]) (st := []) rfl rfl (W := 0) (Nat.le_of_eq rfl) (by decide) (by decide) (by decide) (by decide) (fun x q => nomatch q) at_70 rfl (pureG rfl rfl fun T352 X353 => ?_)
      refine gistore B X353 at_73 (Ls' := #[.val (.int p0), .val (.int p1), .val (.int p2), .val (.int p3), .val (.int p4), .val (.ref a81), .val (.int (4 : Int32)), .val (.int (4 : Int32)), .val (.int (f2 (0 : Int32) (4 : Int32) (4 : Int32) b0)), .unset, .unset, .unset, .unset]) rfl (pc' := 75) rfl ?_
      refine gaload B X353 at_75 rfl rfl (pc' := 77) rfl ?_
      refine giconst B X353 at_77 (v := (1 : Int32)) rfl (pc' := 78) rfl ?_
      refine giload B X353 at_78 rfl (pc' := 80) rfl ?_
      refine giload B X353 at_80 rfl (pc' := 82) rfl ?_
      refine gcallS B X353 (hw _ (List.mem_of_getElem? (i := 5) rfl)) (hw _ (List.mem_of_getElem? (i := 6) rfl)) (hw _ (List.mem_of_getElem? (i := 3) rfl)) (hw _ (List.mem_of_getElem? (i := 7) rfl)) (by decide) (mt2 l Z a0 hw a81 (1 : Int32) (4 : Int32) (4 : Int32) [(.int b0), (.int b1), (.int b2), (.int b3)] b1 h110 A113 rfl (by decide) rfl) pd___BIII_I rfl (argsL := [(.ref a81), (.int (1 : Int32)), (.int (4 : Int32)), (.int (4 : Int32))]) (st := []) rfl rfl (W := 0) (Nat.le_of_eq rfl) (by decide) (by decide) (by decide) (by decide) (fun x q => nomatch q) at_82 rfl (pureG rfl rfl fun T354 X355 => ?_)
      refine gistore B X355 at_85 (Ls' := #[.val (.int p0), .val (.int p1), .val (.int p2), .val (.int p3), .val (.int p4), .val (.ref a81), .val (.int (4 : Int32)), .val (.int (4 : Int32)), .val (.int (f2 (0 : Int32) (4 : Int32) (4 : Int32) b0)), .val (.int (f2 (1 : Int32) (4 : Int32) (4 : Int32) b1)), .unset, .unset, .unset]) rfl (pc' := 87) rfl ?_
      refine gaload B X355 at_87 rfl rfl (pc' := 89) rfl ?_
      refine giconst B X355 at_89 (v := (2 : Int32)) rfl (pc' := 90) rfl ?_
      refine giload B X355 at_90 rfl (pc' := 92) rfl ?_
      refine giload B X355 at_92 rfl (pc' := 94) rfl ?_
      refine gcallS B X355 (hw _ (List.mem_of_getElem? (i := 5) rfl)) (hw _ (List.mem_of_getElem? (i := 6) rfl)) (hw _ (List.mem_of_getElem? (i := 3) rfl)) (hw _ (List.mem_of_getElem? (i := 7) rfl)) (by decide) (mt2 l Z a0 hw a81 (2 : Int32) (4 : Int32) (4 : Int32) [(.int b0), (.int b1), (.int b2), (.int b3)] b2 h110 A113 rfl (by decide) rfl) pd___BIII_I rfl (argsL := [(.ref a81), (.int (2 : Int32)), (.int (4 : Int32)), (.int (4 : Int32))]) (st := []) rfl rfl (W := 0) (Nat.le_of_eq rfl) (by decide) (by decide) (by decide) (by decide) (fun x q => nomatch q) at_94 rfl (pureG rfl rfl fun T356 X357 => ?_)
      refine gistore B X357 at_97 (Ls' := #[.val (.int p0), .val (.int p1), .val (.int p2), .val (.int p3), .val (.int p4), .val (.ref a81), .val (.int (4 : Int32)), .val (.int (4 : Int32)), .val (.int (f2 (0 : Int32) (4 : Int32) (4 : Int32) b0)), .val (.int (f2 (1 : Int32) (4 : Int32) (4 : Int32) b1)), .val (.int (f2 (2 : Int32) (4 : Int32) (4 : Int32) b2)), .unset, .unset]) rfl (pc' := 99) rfl ?_
      refine gaload B X357 at_99 rfl rfl (pc' := 101) rfl ?_
      refine giconst B X357 at_101 (v := (3 : Int32)) rfl (pc' := 102) rfl ?_
      refine giload B X357 at_102 rfl (pc' := 104) rfl ?_
      refine giload B X357 at_104 rfl (pc' := 106) rfl ?_
      refine gcallS B X357 (hw _ (List.mem_of_getElem? (i := 5) rfl)) (hw _ (List.mem_of_getElem? (i := 6) rfl)) (hw _ (List.mem_of_getElem? (i := 3) rfl)) (hw _ (List.mem_of_getElem? (i := 7) rfl)) (by decide) (mt2 l Z a0 hw a81 (3 : Int32) (4 : Int32) (4 : Int32) [(.int b0), (.int b1), (.int b2), (.int b3)] b3 h110 A113 rfl (by decide) rfl) pd___BIII_I rfl (argsL := [(.ref a81), (.int (3 : Int32)), (.int (4 : Int32)), (.int (4 : Int32))]) (st := []) rfl rfl (W := 0) (Nat.le_of_eq rfl) (by decide) (by decide) (by decide) (by decide) (fun x q => nomatch q) at_106 rfl (pureG rfl rfl fun T358 X359 => ?_)
      refine gistore B X359 at_109 (Ls' := #[.val (.int p0), .val (.int p1), .val (.int p2), .val (.int p3), .val (.int p4), .val (.ref a81), .val (.int (4 : Int32)), .val (.int (4 : Int32)), .val (.int (f2 (0 : Int32) (4 : Int32) (4 : Int32) b0)), .val (.int (f2 (1 : Int32) (4 : Int32) (4 : Int32) b1)), .val (.int (f2 (2 : Int32) (4 : Int32) (4 : Int32) b2)), .val (.int (f2 (3 : Int32) (4 : Int32) (4 : Int32) b3)), .unset]) rfl (pc' := 111) rfl ?_
      refine joinG B X359 (F := fun z => (mkF m 150 #[.val (.int p0), .val (.int p1), .val (.int p2), .val (.int p3), .val (.int p4), .val (.ref a81), .val (.int (4 : Int32)), .val (.int (4 : Int32)), .val (.int (f2 (0 : Int32) (4 : Int32) (4 : Int32) b0)), .val (.int (f2 (1 : Int32) (4 : Int32) (4 : Int32) b1)), .val (.int (f2 (2 : Int32) (4 : Int32) (4 : Int32) b2)), .val (.int (f2 (3 : Int32) (4 : Int32) (4 : Int32) b3)), .val (.int z)] [])) (r := (oE (f2 (0 : Int32) (4 : Int32) (4 : Int32) b0) (f2 (1 : Int32) (4 : Int32) (4 : Int32) b1) (f2 (2 : Int32) (4 : Int32) (4 : Int32) b2) (f2 (3 : Int32) (4 : Int32) (4 : Int32) b3))) (fun J => ?_) ?_
      · refine giload B X359 at_111 rfl (pc' := 113) rfl ?_
        by_cases c113_360 : (f2 (0 : Int32) (4 : Int32) (4 : Int32) b0) < (0 : Int32)
        · refine gifY B X359 (pc' := 131) at_113 ((if0 _ _).trans (tlt c113_360).1) (by decide) ?_
          refine giconst B X359 at_131 (v := (-1 : Int32)) rfl (pc' := 132) rfl ?_
          refine gistore B X359 at_132 (Ls' := #[.val (.int p0), .val (.int p1), .val (.int p2), .val (.int p3), .val (.int p4), .val (.ref a81), .val (.int (4 : Int32)), .val (.int (4 : Int32)), .val (.int (f2 (0 : Int32) (4 : Int32) (4 : Int32) b0)), .val (.int (f2 (1 : Int32) (4 : Int32) (4 : Int32) b1)), .val (.int (f2 (2 : Int32) (4 : Int32) (4 : Int32) b2)), .val (.int (f2 (3 : Int32) (4 : Int32) (4 : Int32) b3)), .val (.int (-1 : Int32))]) rfl (pc' := 134) rfl ?_
          refine ggoto B X359 (pc' := 150) at_134 (by decide) ?_
          have e_J : (oE (f2 (0 : Int32) (4 : Int32) (4 : Int32) b0) (f2 (1 : Int32) (4 : Int32) (4 : Int32) b1) (f2 (2 : Int32) (4 : Int32) (4 : Int32) b2) (f2 (3 : Int32) (4 : Int32) (4 : Int32) b3)) = (-1 : Int32) := by rw [oE, if_pos c113_360]
          rw [e_J] at J
          exact J _ X359
        · refine gifN B X359 at_113 ((if0 _ _).trans (flt c113_360).1) (pc' := 116) rfl ?_
          refine giload B X359 at_116 rfl (pc' := 118) rfl ?_
          by_cases c118_361 : (f2 (1 : Int32) (4 : Int32) (4 : Int32) b1) < (0 : Int32)
          · refine gifY B X359 (pc' := 131) at_118 ((if0 _ _).trans (tlt c118_361).1) (by decide) ?_
            refine giconst B X359 at_131 (v := (-1 : Int32)) rfl (pc' := 132) rfl ?_
            refine gistore B X359 at_132 (Ls' := #[.val (.int p0), .val (.int p1), .val (.int p2), .val (.int p3), .val (.int p4), .val (.ref a81), .val (.int (4 : Int32)), .val (.int (4 : Int32)), .val (.int (f2 (0 : Int32) (4 : Int32) (4 : Int32) b0)), .val (.int (f2 (1 : Int32) (4 : Int32) (4 : Int32) b1)), .val (.int (f2 (2 : Int32) (4 : Int32) (4 : Int32) b2)), .val (.int (f2 (3 : Int32) (4 : Int32) (4 : Int32) b3)), .val (.int (-1 : Int32))]) rfl (pc' := 134) rfl ?_
            refine ggoto B X359 (pc' := 150) at_134 (by decide) ?_
            have e_J : (oE (f2 (0 : Int32) (4 : Int32) (4 : Int32) b0) (f2 (1 : Int32) (4 : Int32) (4 : Int32) b1) (f2 (2 : Int32) (4 : Int32) (4 : Int32) b2) (f2 (3 : Int32) (4 : Int32) (4 : Int32) b3)) = (-1 : Int32) := by rw [oE, if_neg c113_360, if_pos c118_361]
            rw [e_J] at J
            exact J _ X359
          · refine gifN B X359 at_118 ((if0 _ _).trans (flt c118_361).1) (pc' := 121) rfl ?_
            refine giload B X359 at_121 rfl (pc' := 123) rfl ?_
            by_cases c123_362 : (f2 (2 : Int32) (4 : Int32) (4 : Int32) b2) < (0 : Int32)
            · refine gifY B X359 (pc' := 131) at_123 ((if0 _ _).trans (tlt c123_362).1) (by decide) ?_
              refine giconst B X359 at_131 (v := (-1 : Int32)) rfl (pc' := 132) rfl ?_
              refine gistore B X359 at_132 (Ls' := #[.val (.int p0), .val (.int p1), .val (.int p2), .val (.int p3), .val (.int p4), .val (.ref a81), .val (.int (4 : Int32)), .val (.int (4 : Int32)), .val (.int (f2 (0 : Int32) (4 : Int32) (4 : Int32) b0)), .val (.int (f2 (1 : Int32) (4 : Int32) (4 : Int32) b1)), .val (.int (f2 (2 : Int32) (4 : Int32) (4 : Int32) b2)), .val (.int (f2 (3 : Int32) (4 : Int32) (4 : Int32) b3)), .val (.int (-1 : Int32))]) rfl (pc' := 134) rfl ?_
              refine ggoto B X359 (pc' := 150) at_134 (by decide) ?_
              have e_J : (oE (f2 (0 : Int32) (4 : Int32) (4 : Int32) b0) (f2 (1 : Int32) (4 : Int32) (4 : Int32) b1) (f2 (2 : Int32) (4 : Int32) (4 : Int32) b2) (f2 (3 : Int32) (4 : Int32) (4 : Int32) b3)) = (-1 : Int32) := by rw [oE, if_neg c113_360, if_neg c118_361, if_pos c123_362]
              rw [e_J] at J
              exact J _ X359
            · refine gifN B X359 at_123 ((if0 _ _).trans (flt c123_362).1) (pc' := 126) rfl ?_
              refine giload B X359 at_126 rfl (pc' := 128) rfl ?_
              by_cases c128_363 : (f2 (3 : Int32) (4 : Int32) (4 : Int32) b3) < (0 : Int32)
              · refine gifN B X359 at_128 ((if0 _ _).trans (tlt c128_363).2.1) (pc' := 131) rfl ?_
                refine giconst B X359 at_131 (v := (-1 : Int32)) rfl (pc' := 132) rfl ?_
                refine gistore B X359 at_132 (Ls' := #[.val (.int p0), .val (.int p1), .val (.int p2), .val (.int p3), .val (.int p4), .val (.ref a81), .val (.int (4 : Int32)), .val (.int (4 : Int32)), .val (.int (f2 (0 : Int32) (4 : Int32) (4 : Int32) b0)), .val (.int (f2 (1 : Int32) (4 : Int32) (4 : Int32) b1)), .val (.int (f2 (2 : Int32) (4 : Int32) (4 : Int32) b2)), .val (.int (f2 (3 : Int32) (4 : Int32) (4 : Int32) b3)), .val (.int (-1 : Int32))]) rfl (pc' := 134) rfl ?_
                refine ggoto B X359 (pc' := 150) at_134 (by decide) ?_
                have e_J : (oE (f2 (0 : Int32) (4 : Int32) (4 : Int32) b0) (f2 (1 : Int32) (4 : Int32) (4 : Int32) b1) (f2 (2 : Int32) (4 : Int32) (4 : Int32) b2) (f2 (3 : Int32) (4 : Int32) (4 : Int32) b3)) = (-1 : Int32) := by rw [oE, if_neg c113_360, if_neg c118_361, if_neg c123_362, if_pos c128_363]
                rw [e_J] at J
                exact J _ X359
              · refine gifY B X359 (pc' := 137) at_128 ((if0 _ _).trans (flt c128_363).2.1) (by decide) ?_
                refine giload B X359 at_137 rfl (pc' := 139) rfl ?_
                refine giload B X359 at_139 rfl (pc' := 141) rfl ?_
                refine giadd B X359 at_141 rfl (pc' := 142) rfl ?_
                refine giload B X359 at_142 rfl (pc' := 144) rfl ?_
                refine giadd B X359 at_144 rfl (pc' := 145) rfl ?_
                refine giload B X359 at_145 rfl (pc' := 147) rfl ?_
                refine giadd B X359 at_147 rfl (pc' := 148) rfl ?_
                refine gistore B X359 at_148 (Ls' := #[.val (.int p0), .val (.int p1), .val (.int p2), .val (.int p3), .val (.int p4), .val (.ref a81), .val (.int (4 : Int32)), .val (.int (4 : Int32)), .val (.int (f2 (0 : Int32) (4 : Int32) (4 : Int32) b0)), .val (.int (f2 (1 : Int32) (4 : Int32) (4 : Int32) b1)), .val (.int (f2 (2 : Int32) (4 : Int32) (4 : Int32) b2)), .val (.int (f2 (3 : Int32) (4 : Int32) (4 : Int32) b3)), .val (.int ((((f2 (0 : Int32) (4 : Int32) (4 : Int32) b0) + (f2 (1 : Int32) (4 : Int32) (4 : Int32) b1)) + (f2 (2 : Int32) (4 : Int32) (4 : Int32) b2)) + (f2 (3 : Int32) (4 : Int32) (4 : Int32) b3)))]) rfl (pc' := 150) rfl ?_
                have e_J : (oE (f2 (0 : Int32) (4 : Int32) (4 : Int32) b0) (f2 (1 : Int32) (4 : Int32) (4 : Int32) b1) (f2 (2 : Int32) (4 : Int32) (4 : Int32) b2) (f2 (3 : Int32) (4 : Int32) (4 : Int32) b3)) = ((((f2 (0 : Int32) (4 : Int32) (4 : Int32) b0) + (f2 (1 : Int32) (4 : Int32) (4 : Int32) b1)) + (f2 (2 : Int32) (4 : Int32) (4 : Int32) b2)) + (f2 (3 : Int32) (4 : Int32) (4 : Int32) b3)) := by rw [oE, if_neg c113_360, if_neg c118_361, if_neg c123_362, if_neg c128_363]
                rw [e_J] at J
                exact J _ X359
      intro T364 X365
      show Go p e below s _ _ _ _ _ T364 (mkF m 150 #[.val (.int p0), .val (.int p1), .val (.int p2), .val (.int p3), .val (.int p4), .val (.ref a81), .val (.int (4 : Int32)), .val (.int (4 : Int32)), .val (.int (f2 (0 : Int32) (4 : Int32) (4 : Int32) b0)), .val (.int (f2 (1 : Int32) (4 : Int32) (4 : Int32) b1)), .val (.int (f2 (2 : Int32) (4 : Int32) (4 : Int32) b2)), .val (.int (f2 (3 : Int32) (4 : Int32) (4 : Int32) b3)), .val (.int (oE (f2 (0 : Int32) (4 : Int32) (4 : Int32) b0) (f2 (1 : Int32) (4 : Int32) (4 : Int32) b1) (f2 (2 : Int32) (4 : Int32) (4 : Int32) b2) (f2 (3 : Int32) (4 : Int32) (4 : Int32) b3)))] [])
      refine gaload B X365 at_150 rfl rfl (pc' := 152) rfl ?_
      refine giload B X365 at_152 rfl (pc' := 154) rfl ?_
      refine giload B X365 at_154 rfl (pc' := 156) rfl ?_
      refine gcallS B X365 (hw _ (List.mem_of_getElem? (i := 8) rfl)) (hw _ (List.mem_of_getElem? (i := 9) rfl)) (hw _ (List.mem_of_getElem? (i := 10) rfl)) (hw _ (List.mem_of_getElem? (i := 11) rfl)) (by decide) (mt3_4 l Z a0 hw a81 (4 : Int32) b0 b1 b2 b3 h110 A113 (by decide)) pd___BII_I rfl (argsL := [(.ref a81), (.int (4 : Int32)), (.int (4 : Int32))]) (st := []) rfl rfl (W := 0) (Nat.le_of_eq rfl) (by decide) (by decide) (by decide) (by decide) (fun x q => nomatch q) at_156 rfl (pureG rfl rfl fun T366 X367 => ?_)
      refine giload B X367 at_159 rfl (pc' := 161) rfl ?_
      have c161_368 : (f3_4 (4 : Int32) b0 b1 b2 b3) = (oE (f2 (0 : Int32) (4 : Int32) (4 : Int32) b0) (f2 (1 : Int32) (4 : Int32) (4 : Int32) b1) (f2 (2 : Int32) (4 : Int32) (4 : Int32) b2) (f2 (3 : Int32) (4 : Int32) (4 : Int32) b3)) := own_fin44 b0 b1 b2 b3
      refine gicN B X367 at_161 (teq c161_368).2 (pc' := 164) rfl ?_
      refine giconst B X367 at_164 (v := (1 : Int32)) rfl (pc' := 165) rfl ?_
      refine ggoto B X367 (pc' := 169) at_165 (by decide) ?_
      exact gretN B X367 (z' := (1 : Int32)) (by simp) (rfl) at_169 (by decide) (by decide) (rfl)
set_option maxRecDepth 65536 in
set_option maxHeartbeats 4000000 in
theorem comes_1 {Post : Tables → Env → Array Value → State → Outcome → State → Prop} (hpost : ∀ tb e args s v u, (limb_1_1.after args s (.returned v) u = true ∧ limb_1_2.after args s (.returned v) u = true ∧ True) → FrameEnd s (.returned v) u (Jvm.fieldLocs frame_1_writes args s ++ Jvm.arrayLocs frame_1_arrays args s ++ Jvm.staticLocs frame_1_statics s) 16 128 → Post tb e args s (.returned v) u) :
    ArmFor flags0 classFile x code maxLocals ret World_1 tables_1 room_1 Calls_1 rest_1 Pre_1 Post := by
  intro l hfl _ _ p e ha hc hk s m args below hf hA hF happ hP
  obtain ⟨hcalls, hrest, hpre⟩ := hP
  obtain ⟨-, -, -, hnamed, -, -, -, hat⟩ := (Spec.applies_iff hf).mp happ
  obtain ⟨hg, hn⟩ := and_e (Cond.before_iff.mp (show (Jvm.Cond.and given_1 narrow_1).before args s = true from hpre))
  obtain ⟨g2, g3⟩ := and_e hg
  obtain ⟨g4, g5⟩ := and_e g3
  obtain ⟨g6, g7⟩ := and_e g5
  obtain ⟨g8, g9⟩ := and_e g7
  obtain ⟨g10, g11⟩ := and_e g9
  obtain ⟨w0, w1, w2, w3, w4, rfl⟩ : ∃ w0 w1 w2 w3 w4 : Value, args = #[w0, w1, w2, w3, w4] := by
    have hs : args.size = 5 := by simpa [Cond.value, given_1] using g2
    obtain ⟨L⟩ := args
    match L, hs with
    | [w0, w1, w2, w3, w4], _ => exact ⟨w0, w1, w2, w3, w4, rfl⟩
  have hw := fun d (hd : d ∈ tables_1) => atoms_spec (ws := Jvm.Cond.code x code maxLocals ret :: tables_1) hat d (List.mem_cons_of_mem _ hd)
  obtain ⟨i0, ei0⟩ := is_v g4
  obtain rfl : w0 = (.int i0) := Option.some.inj ei0
  obtain ⟨i1, ei1⟩ := is_v g6
  obtain rfl : w1 = (.int i1) := Option.some.inj ei1
  obtain ⟨i2, ei2⟩ := is_v g8
  obtain rfl : w2 = (.int i2) := Option.some.inj ei2
  obtain ⟨i3, ei3⟩ := is_v g10
  obtain rfl : w3 = (.int i3) := Option.some.inj ei3
  obtain ⟨i4, ei4⟩ := is_v g11
  obtain rfl : w4 = (.int i4) := Option.some.inj ei4
  obtain ⟨n, o, h1, h2, h3, _, L, rfl, ⟨rfl, N, N2⟩, hq⟩ := mt0 l s _ hw i0 i1 i2 i3 i4 s.heap tables_1 p e ha hc hk s m _ below hf ((Spec.applies_iff_loose hf).mp happ).1 ⟨rfl, State.Warmed39.refl s, rfl⟩ trivial
  refine ⟨n, _, h1, h2, h3, hpost _ _ _ _ _ _ ⟨Cond.after_iff.mpr rfl, Cond.after_iff.mpr (eq_i res_at (Term.int_eval (1)) rfl), trivial⟩ ⟨hq.1, hq.2.1, (hq.2.2.sift fun y hy => Or.inr ((N2 y hy).elim (fun z => nomatch z) id)).mono (by decide) (by decide)⟩⟩
theorem main_1_1 : Claimed_1_1 := comes_1 fun _ _ _ _ _ _ h hF => ⟨h.1, hF⟩
theorem main_1_2 : Claimed_1_2 := comes_1 fun _ _ _ _ _ _ h hF => ⟨h.2.1, hF⟩
end Jvm.Pilot.@@N@@
namespace Jvm.Pilot.@@N@@
open Jvm Jvm.ClassFile Sem Op Lib Jvm.Free Jvm.Stand Jvm.Pilot.@@N@@.Jvm.D
/-! MADE BY PROGRAM (witnessworld.py) out of the Statement's table words and the real class files: 9 classes; the members and pool entries that the words name. The judged class is class 1, her method 1. -/
namespace start1
open Jvm.ClassFile
def u (s : String) : CpInfo := .utf8 (stringToUtf16 s)
/-- a pool by its gaps: so many unusable entries, then the entry; so many at the end -/
def gap : Nat → List CpInfo → List CpInfo
  | 0, r => r
  | n + 1, r => .unusable :: gap n r
def poolList (es : List (Nat × CpInfo)) (last : Nat) : List CpInfo := es.foldr (fun e r => gap e.1 (e.2 :: r)) (gap last [])
def pool (es : List (Nat × CpInfo)) (last : Nat) : Array CpInfo := ⟨poolList es last⟩
def fileOf (pool : Array CpInfo) (this : Nat) (attrs : Array Attribute := #[]) (ms : Array MethodInfo := #[]) (fl : Nat := 33) (sup : Nat := 0) (ifs : Array Nat := #[]) (fds : Array FieldInfo := #[]) : ClassFile where
  minorVersion := 0
  majorVersion := 65
  constantPool := pool
  accessFlags := fl
  thisClass := this
  superClass := sup
  interfaces := ifs
  fields := fds
  methods := ms
  attributes := attrs
def plain (name : String) (sup : Option ClassId) : Class where
  name := name
  kind := .ordinary
  loader := none
  accessFlags := 33
  super := sup
  interfaces := #[]
  cf := none
  fields := #[]
  methods := #[]
  instanceTypes := #[]
  staticTypes := #[]
  resolved := #[]
  callSites := []
  init := .initialized
  statics := none
  mirror := none

def pool0 : Array CpInfo := pool [(5, u "<init>"), (0, u "()V"), (1, .class_ 10), (1, u "java/lang/Object")] 113

def k0m0 : Method := { name := "<init>", desc := "()V", sig := { parameters := [], returnType := none }, accessFlags := 1, code := none }
/-- java/lang/Object -/
def k0 : Class := { plain "java/lang/Object" none with
  accessFlags := 33
  interfaces := #[]
  cf := some (fileOf pool0 8 #[] #[{ accessFlags := 1, nameIndex := 5, descriptorIndex := 6, attributes := #[] }] 33 0 #[] #[])
  fields := #[]
  methods := #[k0m0]
  instanceTypes := #[]
  staticTypes := #[]
  resolved := Array.replicate 124 none
  statics := none }

def pool1 : Array CpInfo := pool [(2, .class_ 4), (1, u "java/lang/Object"), (0, u "<init>"), (0, u "()V"), (0, .methodref 8 9), (0, .class_ 10), (0, .nameAndType 11 12), (0, u "com/example/paycadence/paycadence/format/DigitsValuePinLaw"), (0, u "draw"), (0, u "(I)B"), (0, .methodref 8 14), (0, .nameAndType 15 16), (0, u "term"), (0, u "([BIII)I"), (0, .methodref 18 19), (0, .class_ 20), (0, .nameAndType 21 22), (0, u "com/example/paycadence/paycadence/format/Digits"), (0, u "value"), (0, u "([BII)I"), (0, .methodref 8 24), (0, .nameAndType 25 26), (0, u "digit"), (0, u "(B)I"), (0, .methodref 8 28), (0, .nameAndType 29 30), (0, u "weight"), (0, u "(I)I"), (2, u "law"), (0, u "(IIIII)Z")] 5

def k1m0 : Method := { name := "<init>", desc := "()V", sig := { parameters := [], returnType := none }, accessFlags := 2, code := none }
def k1c1 : Code := { maxStack := 4, maxLocals := 13, code := code, exceptionTable := #[], attributes := #[] }
def k1m1 : Method := { name := "law", desc := "(IIIII)Z", sig := { parameters := [.int, .int, .int, .int, .int], returnType := some .boolean }, accessFlags := 9, code := some k1c1 }
def k1c2 : Code := { maxStack := 3, maxLocals := 1, code := method_3_code, exceptionTable := #[], attributes := #[] }
def k1m2 : Method := { name := "draw", desc := "(I)B", sig := { parameters := [.int], returnType := some .byte }, accessFlags := 10, code := some k1c2 }
def k1c3 : Code := { maxStack := 2, maxLocals := 1, code := method_4_code, exceptionTable := #[], attributes := #[] }
def k1m3 : Method := { name := "digit", desc := "(B)I", sig := { parameters := [.byte], returnType := some .int }, accessFlags := 10, code := some k1c3 }
def k1c4 : Code := { maxStack := 2, maxLocals := 1, code := method_5_code, exceptionTable := #[], attributes := #[] }
def k1m4 : Method := { name := "weight", desc := "(I)I", sig := { parameters := [.int], returnType := some .int }, accessFlags := 10, code := some k1c4 }
def k1c5 : Code := { maxStack := 3, maxLocals := 5, code := method_6_code, exceptionTable := #[], attributes := #[] }
def k1m5 : Method := { name := "term", desc := "([BIII)I", sig := { parameters := [(.array .byte), .int, .int, .int], returnType := some .int }, accessFlags := 10, code := some k1c5 }
/-- com/example/paycadence/paycadence/format/DigitsValuePinLaw -/
def k1 : Class := { plain "com/example/paycadence/paycadence/format/DigitsValuePinLaw" (some 0) with
  accessFlags := 49
  interfaces := #[]
  cf := some (fileOf pool1 8 #[] #[{ accessFlags := 2, nameIndex := 5, descriptorIndex := 6, attributes := #[] }, { accessFlags := 9, nameIndex := 33, descriptorIndex := 34, attributes := #[] }, { accessFlags := 10, nameIndex := 11, descriptorIndex := 12, attributes := #[] }, { accessFlags := 10, nameIndex := 25, descriptorIndex := 26, attributes := #[] }, { accessFlags := 10, nameIndex := 29, descriptorIndex := 30, attributes := #[] }, { accessFlags := 10, nameIndex := 15, descriptorIndex := 16, attributes := #[] }] 49 2 #[] #[])
  fields := #[]
  methods := #[k1m0, k1m1, k1m2, k1m3, k1m4, k1m5]
  instanceTypes := #[]
  staticTypes := #[]
  resolved := Array.replicate 40 none
  statics := none }

def pool2 : Array CpInfo := pool [(2, .class_ 4), (1, u "java/lang/Object"), (0, u "<init>"), (0, u "()V"), (0, .class_ 8), (0, u "com/example/paycadence/paycadence/format/Digits"), (3, u "([BII)I"), (1, u "value")] 4

def k2m0 : Method := { name := "<init>", desc := "()V", sig := { parameters := [], returnType := none }, accessFlags := 2, code := none }
def k2c1 : Code := { maxStack := 3, maxLocals := 6, code := prog_45_method_3_code, exceptionTable := #[], attributes := #[] }
def k2m1 : Method := { name := "value", desc := "([BII)I", sig := { parameters := [(.array .byte), .int, .int], returnType := some .int }, accessFlags := 8, code := some k2c1 }
/-- com/example/paycadence/paycadence/format/Digits -/
def k2 : Class := { plain "com/example/paycadence/paycadence/format/Digits" (some 0) with
  accessFlags := 48
  interfaces := #[]
  cf := some (fileOf pool2 7 #[] #[{ accessFlags := 2, nameIndex := 5, descriptorIndex := 6, attributes := #[] }, { accessFlags := 8, nameIndex := 14, descriptorIndex := 12, attributes := #[] }] 48 2 #[] #[])
  fields := #[]
  methods := #[k2m0, k2m1]
  instanceTypes := #[]
  staticTypes := #[]
  resolved := Array.replicate 19 none
  statics := none }

def pool3 : Array CpInfo := pool [(1, u "java/lang/Cloneable"), (0, .class_ 1), (0, u "java/lang/Object"), (0, .class_ 3)] 3

/-- java/lang/Cloneable -/
def k3 : Class := { plain "java/lang/Cloneable" (some 0) with
  accessFlags := 1537
  interfaces := #[]
  cf := some (fileOf pool3 2 #[] #[] 1537 4 #[] #[])
  fields := #[]
  methods := #[]
  instanceTypes := #[]
  staticTypes := #[]
  resolved := Array.replicate 8 none
  statics := none }

def pool4 : Array CpInfo := pool [(1, u "java/io/Serializable"), (0, .class_ 1), (0, u "java/lang/Object"), (0, .class_ 3)] 3

/-- java/io/Serializable -/
def k4 : Class := { plain "java/io/Serializable" (some 0) with
  accessFlags := 1537
  interfaces := #[]
  cf := some (fileOf pool4 2 #[] #[] 1537 4 #[] #[])
  fields := #[]
  methods := #[]
  instanceTypes := #[]
  staticTypes := #[]
  resolved := Array.replicate 8 none
  statics := none }

/-- the primitive byte -/
def k5 : Class := { plain "byte" none with kind := .primitive 'B', accessFlags := 0x411 }
/-- [B -/
def k6 : Class := { plain "[B" (some 0) with kind := .array 5 .byte, interfaces := #[3, 4], accessFlags := 1041 }

/-- the primitive int -/
def k7 : Class := { plain "int" none with kind := .primitive 'I', accessFlags := 0x411 }
/-- [I -/
def k8 : Class := { plain "[I" (some 0) with kind := .array 7 .int, interfaces := #[3, 4], accessFlags := 1041 }

def heap : Heap := #[]
def classes : Array Class := #[k0, k1, k2, k3, k4, k5, k6, k7, k8]
def interned : List (Array UInt16 × Addr) := []
def slotsUsed : Nat := 0
def theMethod : MethodId := ⟨1, 1⟩
def args0 : Array Value := #[.int 305, .int 49, .int 50, .int 310, .int 32]
def aboutOver (below : List Frame) : State where
  vm := { classes := classes, interned := interned.toArray }
  heap := heap
  slotsUsed := slotsUsed
  threads := #[{ frames := .invoking theMethod args0 :: below }]
def below0 : List Frame := [.native { method := ⟨0, 0⟩, args := #[] }]
def about1 : State := aboutOver below0
def p0 : Program := .bare "" "" ""
def e0 : Env := launch0.env 0 0 0
theorem w_frames : about1.frames = Frame.invoking theMethod args0 :: below0 := rfl
set_option maxRecDepth 65536 in
theorem w_args : argsFit about1.vm theMethod args0 = true := by decide +kernel
set_option maxRecDepth 65536 in
theorem w_heap : heapFits about1 = true := by decide +kernel
set_option maxRecDepth 65536 in
theorem w_runnable : about1.curStatus? = some .runnable := by decide +kernel
set_option maxRecDepth 65536 in
theorem w_alone : about1.alone = true := by decide +kernel
set_option maxRecDepth 65536 in
theorem w_named : about1.methodNamed? x = some theMethod := by decide +kernel
set_option maxRecDepth 65536 in
theorem w_hears : about1.hears theMethod below0 = true := by decide +kernel
set_option maxRecDepth 65536 in
theorem w_ripe : about1.ripe theMethod args0 below0 = true := by decide +kernel
theorem w_running : about1.status = .running := rfl
set_option maxRecDepth 65536 in
theorem w_room : about1.hasRoom e0.platform room_1 = true :=
  launch0.hasRoom_least _ room_1 (by decide +kernel) (by decide +kernel) (by decide +kernel) (by decide +kernel) (by decide +kernel) (by decide +kernel)
theorem allAtoms_all (ts : List Jvm.Cond) (a : Array Jvm.Value) (st : Jvm.State) : (allAtoms ts).before a st = ts.all (fun c => c.before a st) := by
  induction ts with
  | nil => rfl
  | cons c t ih =>
    show (Jvm.Cond.and c (allAtoms t)).before a st = _
    rw [Jvm.Cond.before_and, ih, List.all_cons]
def words1 : List Jvm.Cond := Jvm.Cond.code x code maxLocals ret :: tables_1
/-- a 'code' word, met by the world's own term for the bytes: nothing is compared byte by byte -/
theorem code_word {y : MethodName} {bytes : ByteArray} {mx : Nat} {rt : Option FieldType} {a : Array Value} {s : State} {m : MethodId} {meth : Method} {c : Code} (h1 : s.methodNamed? y = some m) (h2 : s.vm.method? m = some meth) (h3 : meth.code = some c) (h4 : c.code = bytes)
    (h5 : (c.maxLocals == mx && c.exceptionTable.isEmpty && decide (c.maxStack ≤ mostOperands) && decide (meth.sig.returnType = rt) && !meth.locks && decide (parseMethodDescriptor y.desc = some meth.sig)) = true) : (Jvm.Cond.code y bytes mx rt).before a s = true := by
  simp only [Bool.and_eq_true, beq_iff_eq, Bool.not_eq_true', decide_eq_true_eq] at h5
  obtain ⟨⟨⟨⟨⟨g1, g2⟩, g3⟩, g4⟩, g5⟩, g6⟩ := h5
  simp [Cond.before, Cond.holds, Cond.value, h1, h2, h3, h4, g1, g2, g3, g4, g5, g6]
def isCode : Jvm.Cond → Bool
  | .code _ _ _ _ => true
  | _ => false
theorem all_split {L : List Jvm.Cond} {P : Jvm.Cond → Bool} (h1 : L.all (fun c => isCode c || P c) = true) (h2 : ∀ c ∈ L.filter isCode, P c = true) : L.all P = true := by
  refine List.all_eq_true.mpr fun c hc => ?_
  have h := List.all_eq_true.mp h1 c hc
  rcases Bool.eq_false_or_eq_true (isCode c) with hi | hi
  · exact h2 c (List.mem_filter.mpr ⟨hc, hi⟩)
  · simpa [hi] using h
set_option maxRecDepth 65536 in
theorem w_c0 : (Jvm.Cond.code x code maxLocals ret).before args0 about1 = true := code_word (m := ⟨1, 1⟩) (meth := k1m1) (c := k1c1) (by decide +kernel) rfl rfl rfl (by decide +kernel)
set_option maxRecDepth 65536 in
theorem w_c1 : (Jvm.Cond.code ({ cls := "com/example/paycadence/paycadence/format/DigitsValuePinLaw", name := "draw", desc := "(I)B" } : Jvm.MethodName) method_3_code (1 : Nat) (Option.some Jvm.ClassFile.FieldType.byte)).before args0 about1 = true := code_word (m := ⟨1, 2⟩) (meth := k1m2) (c := k1c2) (by decide +kernel) rfl rfl rfl (by decide +kernel)
set_option maxRecDepth 65536 in
theorem w_c2 : (Jvm.Cond.code ({ cls := "com/example/paycadence/paycadence/format/DigitsValuePinLaw", name := "term", desc := "([BIII)I" } : Jvm.MethodName) method_6_code (5 : Nat) (Option.some Jvm.ClassFile.FieldType.int)).before args0 about1 = true := code_word (m := ⟨1, 5⟩) (meth := k1m5) (c := k1c5) (by decide +kernel) rfl rfl rfl (by decide +kernel)
set_option maxRecDepth 65536 in
theorem w_c3 : (Jvm.Cond.code ({ cls := "com/example/paycadence/paycadence/format/Digits", name := "value", desc := "([BII)I" } : Jvm.MethodName) prog_45_method_3_code (6 : Nat) (Option.some Jvm.ClassFile.FieldType.int)).before args0 about1 = true := code_word (m := ⟨2, 1⟩) (meth := k2m1) (c := k2c1) (by decide +kernel) rfl rfl rfl (by decide +kernel)
set_option maxRecDepth 65536 in
theorem w_c4 : (Jvm.Cond.code ({ cls := "com/example/paycadence/paycadence/format/DigitsValuePinLaw", name := "digit", desc := "(B)I" } : Jvm.MethodName) method_4_code (1 : Nat) (Option.some Jvm.ClassFile.FieldType.int)).before args0 about1 = true := code_word (m := ⟨1, 3⟩) (meth := k1m3) (c := k1c3) (by decide +kernel) rfl rfl rfl (by decide +kernel)
set_option maxRecDepth 65536 in
theorem w_c5 : (Jvm.Cond.code ({ cls := "com/example/paycadence/paycadence/format/DigitsValuePinLaw", name := "weight", desc := "(I)I" } : Jvm.MethodName) method_5_code (1 : Nat) (Option.some Jvm.ClassFile.FieldType.int)).before args0 about1 = true := code_word (m := ⟨1, 4⟩) (meth := k1m4) (c := k1c4) (by decide +kernel) rfl rfl rfl (by decide +kernel)
def codes1 : List Jvm.Cond := [Jvm.Cond.code x code maxLocals ret, Jvm.Cond.code ({ cls := "com/example/paycadence/paycadence/format/DigitsValuePinLaw", name := "draw", desc := "(I)B" } : Jvm.MethodName) method_3_code (1 : Nat) (Option.some Jvm.ClassFile.FieldType.byte), Jvm.Cond.code ({ cls := "com/example/paycadence/paycadence/format/DigitsValuePinLaw", name := "term", desc := "([BIII)I" } : Jvm.MethodName) method_6_code (5 : Nat) (Option.some Jvm.ClassFile.FieldType.int), Jvm.Cond.code ({ cls := "com/example/paycadence/paycadence/format/Digits", name := "value", desc := "([BII)I" } : Jvm.MethodName) prog_45_method_3_code (6 : Nat) (Option.some Jvm.ClassFile.FieldType.int), Jvm.Cond.code ({ cls := "com/example/paycadence/paycadence/format/DigitsValuePinLaw", name := "digit", desc := "(B)I" } : Jvm.MethodName) method_4_code (1 : Nat) (Option.some Jvm.ClassFile.FieldType.int), Jvm.Cond.code ({ cls := "com/example/paycadence/paycadence/format/DigitsValuePinLaw", name := "weight", desc := "(I)I" } : Jvm.MethodName) method_5_code (1 : Nat) (Option.some Jvm.ClassFile.FieldType.int)]
set_option maxRecDepth 65536 in
theorem codes_eq : words1.filter isCode = codes1 := rfl
theorem w_codes : ∀ c ∈ words1.filter isCode, c.before args0 about1 = true := by
  rw [codes_eq]
  intro c hc
  simp only [codes1, List.mem_cons, List.not_mem_nil, or_false] at hc
  rcases hc with rfl | rfl | rfl | rfl | rfl | rfl
  · exact w_c0
  · exact w_c1
  · exact w_c2
  · exact w_c3
  · exact w_c4
  · exact w_c5
set_option maxRecDepth 65536 in
theorem w_t1 : words1.all (fun c => isCode c || c.before args0 about1) = true := by decide +kernel
theorem w_tables : (allAtoms (Jvm.Cond.code x code maxLocals ret :: tables_1)).before args0 about1 = true := by
  rw [allAtoms_all]
  show words1.all (fun c => c.before args0 about1) = true
  refine all_split ?_ w_codes
  rw [w_t1]
set_option maxRecDepth 65536 in
theorem w_case : (Jvm.Cond.and given_1 narrow_1).before args0 about1 = true := by decide +kernel
theorem w_applies : (headSpec (Jvm.Cond.code x code maxLocals ret :: tables_1) room_1).applies x e0.platform about1 = true :=
  (Spec.applies_iff w_frames).mpr ⟨w_running, w_runnable, w_alone, w_named, w_hears, w_ripe, w_room, w_tables⟩
theorem atStart : AtStart classFile x code maxLocals ret World_1 tables_1 room_1 Calls_1 rest_1 Pre_1 launch0 p0 e0 about1 theMethod args0 below0 :=
  ⟨lists_1, trivial, launch0.admits_env _ _ _, launch0.least_env, fairChoices_fair.cas, fairChoices_fair.clock, w_frames, w_args, w_heap, w_applies, trivial, trivial, w_case⟩
end start1
theorem witness_1 : WitnessClaimed_1 := ⟨start1.p0, start1.e0, start1.about1, start1.theMethod, start1.args0, start1.below0, start1.atStart⟩
end Jvm.Pilot.@@N@@
