import JvmDerived
import JvmDerived.Pilot.@@N@@Statement
import JvmDerived.Pilot.@@N@@Code
set_option linter.unusedVariables false
set_option linter.unusedSimpArgs false
namespace Jvm.OwnKit
open Sem ClassFile Op Lib Jvm.Stand Jvm.Free Jvm.LawKit Jvm.RoadKit
/-- every written place is one of ws or new -/
def FrW (h0 : Heap) (ws : List Addr) (L : List Loc) : Prop := ∀ y ∈ L, y.base ∈ ws ∨ h0.size ≤ y.base
/-- what stays fixed while a body runs -/
def Fix (p : Program) (Z s : State) (m : MethodId) (meth : Method) (c : Code) (bytes : ByteArray) (maxL : Nat) (own nm : String) (ret : Option FieldType) : Prop :=
  p.tables.exec = Jvm.exec ∧ Z.Warmed39 s.vm ∧ c.code = bytes ∧ c.maxLocals = maxL ∧ s.vm.findClass own = some m.cls ∧ meth.name = nm ∧ meth.sig.returnType = ret ∧ meth.locks = false
/-- where the run stands: its heap h, what was kept since h0 -/
def St (p : Program) (l : Launch) (e : Env) (R : Room) (s : State) (m : MethodId) (args : Array Value) (below : List Frame) (meth : Method) (c : Code) (h0 : Heap) (ws : List Addr) (T : State) (h : Heap) (cells slots : Nat) : Prop :=
  ∃ locs, Stand p l e R s m args below meth c T locs cells slots ∧ T.heap = h ∧ Keep h0 h ws ∧ FrW h0 ws locs
/-- from T with the top frame f the body comes to its end, and Q holds there -/
def Go (p : Program) (e : Env) (below : List Frame) (s : State) (K N : Nat) (h0 : Heap) (ws : List Addr) (Q : Option Value → Heap → Prop) (T : State) (f : JFrame) : Prop :=
  ∃ t o, Steps p.tables e below (T.setTop f) t ∧ t.status = .running ∧ Ended t below o ∧ ∃ v L, o = .returned v ∧ (Q v t.heap ∧ Keep h0 t.heap ws ∧ FrW h0 ws L) ∧ FrameEnd s o t L K N
/-- a method's contract: called with as' at the heap h0 it returns, writes ws and new cells alone, and Q holds -/
def Meth (l : Launch) (Z : State) (y : MethodName) (bytes : ByteArray) (maxL : Nat) (ret : Option FieldType) (rm : Room) (as' : Array Value) (h0 : Heap) (ws : List Addr) (Q : Option Value → Heap → Prop) : Prop :=
  ∀ wl, MetFree l y (head1 (Cond.code y bytes maxL ret :: wl) rm) (fun a U => a = as' ∧ Z.Warmed39 U.vm ∧ U.heap = h0) (fun _ _ _ _ _ => True) (fun _ U o U' => ∃ v L, o = .returned v ∧ (Q v U'.heap ∧ Keep h0 U'.heap ws ∧ FrW h0 ws L) ∧ FrameEnd U o U' L rm.cells rm.slots)
/-- an array of the kind ty that holds vs -/
def VA (Z : State) (h : Heap) (a : Addr) (ty : FieldType) (vs : List Value) : Prop := ∃ c : Cell, Arr Z h a c ty ∧ c.slots = vs.toArray ∧ vs.length < 2 ^ 31
section Arrays
variable {Z : State} {h h' : Heap} {a b : Addr} {ty : FieldType} {vs : List Value} {sl : Nat} {v : Value} {ws : List Addr}
theorem VA.lt (F : VA Z h a ty vs) : a < h.size := by obtain ⟨c, A, -⟩ := F; exact A.lt
theorem VA.ext (F : VA Z h a ty vs) (E : Ext h h') : VA Z h' a ty vs := by obtain ⟨c, A, r⟩ := F; exact ⟨c, A.ext E, r⟩
theorem VA.other (F : VA Z h b ty vs) (W : Wr h h' a sl v) (q : b ≠ a) : VA Z h' b ty vs := by obtain ⟨c, A, r⟩ := F; exact ⟨c, A.other W q, r⟩
theorem VA.keep (F : VA Z h a ty vs) (K : Keep h h' ws) (q : a ∉ ws) : VA Z h' a ty vs := by obtain ⟨c, A, r⟩ := F; exact ⟨c, ⟨K.2.1 a c A.1 q, A.2⟩, r⟩
theorem VA.set (F : VA Z h a ty vs) (W : Wr h h' a sl v) : VA Z h' a ty (vs.set sl v) := by
  obtain ⟨c, A, r, n⟩ := F
  refine ⟨_, A.same W, ?_, by simpa using n⟩
  show c.slots.setIfInBounds sl v = _
  rw [r]; simp
theorem VA.new {k : ClassId} {n : Int32} (A : Arr Z h a (newA k ty n) ty) (q : ¬ n < 0) : VA Z h a ty (List.replicate n.toNatClampNeg (defaultValue ty)) :=
  ⟨_, A, by simp [newA], by rw [List.length_replicate]; exact (back32 q).2⟩
theorem VA.len31 (F : VA Z h a ty vs) : vs.length < 2 ^ 31 := by obtain ⟨c, A, r, n⟩ := F; exact n
theorem inb {n : Nat} {j : Int32} (hj : 0 ≤ j.toInt ∧ j.toInt < n) : ¬ (j < 0 ∨ n ≤ j.toNatClampNeg) := by
  simp only [Int32.lt_iff_toInt_lt, Int32.toNatClampNeg, Int32.reduceToInt]; omega
theorem own_at {xs : List Int32} {j : Nat} (hj : j < xs.length) : (xs.map Value.int)[j]? = some (.int (xs.getD j 0)) := by
  simp [List.getElem?_eq_getElem hj]
theorem own_atL {xs : List Int64} {j : Nat} (hj : j < xs.length) : (xs.map Value.long)[j]? = some (.long (xs.getD j 0)) := by
  simp [List.getElem?_eq_getElem hj]
end Arrays
section Go
variable {p : Program} {l : Launch} {e : Env} {R : Room} {s : State} {m : MethodId} {args : Array Value} {below : List Frame} {meth : Method} {c : Code} {Z : State} {bytes : ByteArray} {maxL : Nat} {own nm : String} {ret : Option FieldType} {h0 : Heap} {ws : List Addr} {T T' : State} {locs : List Loc} {h : Heap} {cells slots K N : Nat} {Q : Option Value → Heap → Prop} {pc pc' : Nat} {Ls Ls' : Array Slot} {st : List Value} {a0 : Array Value}
theorem Go.to {f f' : JFrame} (k : ∀ t, Steps p.tables e below (T'.setTop f') t → Steps p.tables e below (T.setTop f) t) (g : Go p e below s K N h0 ws Q T' f') : Go p e below s K N h0 ws Q T f := by
  obtain ⟨t, o, a, r⟩ := g; exact ⟨t, o, k t a, r⟩
theorem Go.mono {Q' : Option Value → Heap → Prop} {f : JFrame} (g : Go p e below s K N h0 ws Q T f) (hq : ∀ v h, Q v h → Q' v h) : Go p e below s K N h0 ws Q' T f := by
  obtain ⟨t, o, a, b, d, v, L, e1, ⟨q, r⟩, z⟩ := g; exact ⟨t, o, a, b, d, v, L, e1, ⟨hq _ _ q, r⟩, z⟩
theorem Go.entry {f f' : JFrame} (q : f = f') (g : Go p e below s K N h0 ws Q T f') : Go p e below s K N h0 ws Q T f := q ▸ g
theorem St.more (X : St p l e R s m args below meth c h0 ws T h cells slots) {cells' slots' : Nat} (h1 : cells ≤ cells') (h2 : slots ≤ slots') : St p l e R s m args below meth c h0 ws T h cells' slots' := by
  obtain ⟨L, X, r⟩ := X; exact ⟨L, X.more h1 h2, r⟩
theorem St.kept (X : St p l e R s m args below meth c h0 ws T h cells slots) : Keep h0 h ws := by obtain ⟨L, X, e1, k, f⟩ := X; exact k
theorem St.here (X : St p l e R s m args below meth c h0 ws T h cells slots) : At T m c below := by obtain ⟨L, X, r⟩ := X; exact X.here
theorem Meth.mono {y : MethodName} {rm : Room} {as' : Array Value} {Q' : Option Value → Heap → Prop} (M : Meth l Z y bytes maxL ret rm as' h0 ws Q) (hq : ∀ v h, Q v h → Q' v h) : Meth l Z y bytes maxL ret rm as' h0 ws Q' := by
  intro wl p e ha hc hk s m args below hf happ hP hK
  obtain ⟨n, o, a, b, d, v, L, e1, ⟨q, r⟩, z⟩ := M wl p e ha hc hk s m args below hf happ hP hK
  exact ⟨n, o, a, b, d, v, L, e1, ⟨hq _ _ q, r⟩, z⟩
theorem Meth.of {y : MethodName} {rm : Room} {as' : Array Value} (hpl : plainFor y = true)
    (body : ∀ (p : Program) (e : Env) (s : State) (m : MethodId) (below : List Frame) (meth : Method) (c : Code) (T : State), Fix p Z s m meth c bytes maxL y.cls y.name ret → St p l e rm s m as' below meth c h0 ws T h0 0 0 → Go p e below s rm.cells rm.slots h0 ws Q T (entryFrame m as' maxL)) :
    Meth l Z y bytes maxL ret rm as' h0 ws Q := by
  intro wl
  refine MetFree.of_bodySF hpl hisR ?_
  intro p e s m args below meth c s₁ Bd hml0 hP hK
  obtain ⟨rfl, hZ, hh⟩ := hP
  have X0 : Stand p l e rm s m _ below meth c s₁ [] 0 0 := Stand.of_body Bd
  have e0 : s₁.heap = h0 := by rw [← hh, Bd.state]; rfl
  exact body p e s m below meth c s₁ ⟨Bd.exec, hZ, Bd.bytes, hml0, findClass_of_methodNamed Bd.named, (name_of_methodNamed Bd.named Bd.method).1, Bd.returns, Bd.notSynchronized⟩ ⟨[], X0, e0, Keep.refl _ _, fun y hy => nomatch hy⟩

theorem giload (B : Fix p Z s m meth c bytes maxL own nm ret) (X : St p l e R s m args below meth c h0 ws T h cells slots) {k : Nat} {v : Int32} (hd : decode bytes pc = .ok (.iload k, 2)) (hl : Ls[k]? = some (.val (.int v))) (hp : pc' = pc + 2) (g : Go p e below s K N h0 ws Q T (mkF m pc' Ls (.int v :: st))) : Go p e below s K N h0 ws Q T (mkF m pc Ls st) := by
  subst hp; obtain ⟨L, X, -⟩ := X; exact Go.to (fun t k => XS.iload X.here B.1 rfl (hb B.2.2.1 hd) hl k) g
theorem giloadN (B : Fix p Z s m meth c bytes maxL own nm ret) (X : St p l e R s m args below meth c h0 ws T h cells slots) {k : Fin 4} {v : Int32} (hd : decode bytes pc = .ok (.iload_n k, 1)) (hl : Ls[k.val]? = some (.val (.int v))) (hp : pc' = pc + 1) (g : Go p e below s K N h0 ws Q T (mkF m pc' Ls (.int v :: st))) : Go p e below s K N h0 ws Q T (mkF m pc Ls st) := by
  subst hp; obtain ⟨L, X, -⟩ := X; exact Go.to (fun t k => XS.iloadN X.here B.1 rfl (hb B.2.2.1 hd) hl k) g
theorem gistore (B : Fix p Z s m meth c bytes maxL own nm ret) (X : St p l e R s m args below meth c h0 ws T h cells slots) {k : Nat} {v : Int32} (hd : decode bytes pc = .ok (.istore k, 2)) (hl : storeLocals Ls k (.int v) = some Ls') (hp : pc' = pc + 2) (g : Go p e below s K N h0 ws Q T (mkF m pc' Ls' st)) : Go p e below s K N h0 ws Q T (mkF m pc Ls (.int v :: st)) := by
  subst hp; obtain ⟨L, X, -⟩ := X; exact Go.to (fun t k => XS.istore X.here B.1 rfl (hb B.2.2.1 hd) rfl hl k) g
theorem gistoreN (B : Fix p Z s m meth c bytes maxL own nm ret) (X : St p l e R s m args below meth c h0 ws T h cells slots) {k : Fin 4} {v : Int32} (hd : decode bytes pc = .ok (.istore_n k, 1)) (hl : storeLocals Ls k.val (.int v) = some Ls') (hp : pc' = pc + 1) (g : Go p e below s K N h0 ws Q T (mkF m pc' Ls' st)) : Go p e below s K N h0 ws Q T (mkF m pc Ls (.int v :: st)) := by
  subst hp; obtain ⟨L, X, -⟩ := X; exact Go.to (fun t k => XS.istoreN X.here B.1 rfl (hb B.2.2.1 hd) rfl hl k) g
theorem glload (B : Fix p Z s m meth c bytes maxL own nm ret) (X : St p l e R s m args below meth c h0 ws T h cells slots) {k : Nat} {v : Int64} (hd : decode bytes pc = .ok (.lload k, 2)) (hl : Ls[k]? = some (.val (.long v))) (hp : pc' = pc + 2) (g : Go p e below s K N h0 ws Q T (mkF m pc' Ls (.long v :: st))) : Go p e below s K N h0 ws Q T (mkF m pc Ls st) := by
  subst hp; obtain ⟨L, X, -⟩ := X; exact Go.to (fun t k => XS.lload X.here B.1 rfl (hb B.2.2.1 hd) hl k) g
theorem glloadN (B : Fix p Z s m meth c bytes maxL own nm ret) (X : St p l e R s m args below meth c h0 ws T h cells slots) {k : Fin 4} {v : Int64} (hd : decode bytes pc = .ok (.lload_n k, 1)) (hl : Ls[k.val]? = some (.val (.long v))) (hp : pc' = pc + 1) (g : Go p e below s K N h0 ws Q T (mkF m pc' Ls (.long v :: st))) : Go p e below s K N h0 ws Q T (mkF m pc Ls st) := by
  subst hp; obtain ⟨L, X, -⟩ := X; exact Go.to (fun t k => XS.lloadN X.here B.1 rfl (hb B.2.2.1 hd) hl k) g
theorem glstore (B : Fix p Z s m meth c bytes maxL own nm ret) (X : St p l e R s m args below meth c h0 ws T h cells slots) {k : Nat} {v : Int64} (hd : decode bytes pc = .ok (.lstore k, 2)) (hl : storeLocals Ls k (.long v) = some Ls') (hp : pc' = pc + 2) (g : Go p e below s K N h0 ws Q T (mkF m pc' Ls' st)) : Go p e below s K N h0 ws Q T (mkF m pc Ls (.long v :: st)) := by
  subst hp; obtain ⟨L, X, -⟩ := X; exact Go.to (fun t k => XS.lstore X.here B.1 rfl (hb B.2.2.1 hd) rfl hl k) g
theorem glstoreN (B : Fix p Z s m meth c bytes maxL own nm ret) (X : St p l e R s m args below meth c h0 ws T h cells slots) {k : Fin 4} {v : Int64} (hd : decode bytes pc = .ok (.lstore_n k, 1)) (hl : storeLocals Ls k.val (.long v) = some Ls') (hp : pc' = pc + 1) (g : Go p e below s K N h0 ws Q T (mkF m pc' Ls' st)) : Go p e below s K N h0 ws Q T (mkF m pc Ls (.long v :: st)) := by
  subst hp; obtain ⟨L, X, -⟩ := X; exact Go.to (fun t k => XS.lstoreN X.here B.1 rfl (hb B.2.2.1 hd) rfl hl k) g
theorem gaload (B : Fix p Z s m meth c bytes maxL own nm ret) (X : St p l e R s m args below meth c h0 ws T h cells slots) {k : Nat} {v : Value} (hd : decode bytes pc = .ok (.aload k, 2)) (hl : Ls[k]? = some (.val v)) (hv : v.isRef = true) (hp : pc' = pc + 2) (g : Go p e below s K N h0 ws Q T (mkF m pc' Ls (v :: st))) : Go p e below s K N h0 ws Q T (mkF m pc Ls st) := by
  subst hp; obtain ⟨L, X, -⟩ := X; exact Go.to (fun t k => XS.aload X.here B.1 rfl (hb B.2.2.1 hd) hl hv k) g
theorem galoadN (B : Fix p Z s m meth c bytes maxL own nm ret) (X : St p l e R s m args below meth c h0 ws T h cells slots) {k : Fin 4} {v : Value} (hd : decode bytes pc = .ok (.aload_n k, 1)) (hl : Ls[k.val]? = some (.val v)) (hv : v.isRef = true) (hp : pc' = pc + 1) (g : Go p e below s K N h0 ws Q T (mkF m pc' Ls (v :: st))) : Go p e below s K N h0 ws Q T (mkF m pc Ls st) := by
  subst hp; obtain ⟨L, X, -⟩ := X; exact Go.to (fun t k => XS.aloadN X.here B.1 rfl (hb B.2.2.1 hd) hl hv k) g
theorem gastore (B : Fix p Z s m meth c bytes maxL own nm ret) (X : St p l e R s m args below meth c h0 ws T h cells slots) {k : Nat} {v : Value} (hd : decode bytes pc = .ok (.astore k, 2)) (hv : v.isRef = true) (hl : storeLocals Ls k v = some Ls') (hp : pc' = pc + 2) (g : Go p e below s K N h0 ws Q T (mkF m pc' Ls' st)) : Go p e below s K N h0 ws Q T (mkF m pc Ls (v :: st)) := by
  subst hp; obtain ⟨L, X, -⟩ := X; exact Go.to (fun t k => XS.astore X.here B.1 rfl (hb B.2.2.1 hd) rfl hv hl k) g
theorem gastoreN (B : Fix p Z s m meth c bytes maxL own nm ret) (X : St p l e R s m args below meth c h0 ws T h cells slots) {k : Fin 4} {v : Value} (hd : decode bytes pc = .ok (.astore_n k, 1)) (hv : v.isRef = true) (hl : storeLocals Ls k.val v = some Ls') (hp : pc' = pc + 1) (g : Go p e below s K N h0 ws Q T (mkF m pc' Ls' st)) : Go p e below s K N h0 ws Q T (mkF m pc Ls (v :: st)) := by
  subst hp; obtain ⟨L, X, -⟩ := X; exact Go.to (fun t k => XS.astoreN X.here B.1 rfl (hb B.2.2.1 hd) rfl hv hl k) g
theorem giconst (B : Fix p Z s m meth c bytes maxL own nm ret) (X : St p l e R s m args below meth c h0 ws T h cells slots) {i : Int} {v : Int32} (hd : decode bytes pc = .ok (.iconst i, 1)) (hv : Int32.ofInt i = v) (hp : pc' = pc + 1) (g : Go p e below s K N h0 ws Q T (mkF m pc' Ls (.int v :: st))) : Go p e below s K N h0 ws Q T (mkF m pc Ls st) := by
  subst hp; subst hv; obtain ⟨L, X, -⟩ := X; exact Go.to (fun t k => XS.iconst X.here B.1 rfl (hb B.2.2.1 hd) k) g
theorem gbipush (B : Fix p Z s m meth c bytes maxL own nm ret) (X : St p l e R s m args below meth c h0 ws T h cells slots) {i : Int} {v : Int32} (hd : decode bytes pc = .ok (.bipush i, 2)) (hv : (Int8.ofInt i).toInt32 = v) (hp : pc' = pc + 2) (g : Go p e below s K N h0 ws Q T (mkF m pc' Ls (.int v :: st))) : Go p e below s K N h0 ws Q T (mkF m pc Ls st) := by
  subst hp; subst hv; obtain ⟨L, X, -⟩ := X; exact Go.to (fun t k => XS.bipush X.here B.1 rfl (hb B.2.2.1 hd) k) g
theorem gsipush (B : Fix p Z s m meth c bytes maxL own nm ret) (X : St p l e R s m args below meth c h0 ws T h cells slots) {i : Int} {v : Int32} (hd : decode bytes pc = .ok (.sipush i, 3)) (hv : (Int16.ofInt i).toInt32 = v) (hp : pc' = pc + 3) (g : Go p e below s K N h0 ws Q T (mkF m pc' Ls (.int v :: st))) : Go p e below s K N h0 ws Q T (mkF m pc Ls st) := by
  subst hp; subst hv; obtain ⟨L, X, -⟩ := X; exact Go.to (fun t k => XS.sipush X.here B.1 rfl (hb B.2.2.1 hd) k) g
theorem glconst (B : Fix p Z s m meth c bytes maxL own nm ret) (X : St p l e R s m args below meth c h0 ws T h cells slots) {k : Fin 2} {v : Int64} (hd : decode bytes pc = .ok (.lconst k, 1)) (hv : Int64.ofNat k = v) (hp : pc' = pc + 1) (g : Go p e below s K N h0 ws Q T (mkF m pc' Ls (.long v :: st))) : Go p e below s K N h0 ws Q T (mkF m pc Ls st) := by
  subst hp; subst hv; obtain ⟨L, X, -⟩ := X; exact Go.to (fun t k => XS.lconst X.here B.1 rfl (hb B.2.2.1 hd) k) g
theorem gnull (B : Fix p Z s m meth c bytes maxL own nm ret) (X : St p l e R s m args below meth c h0 ws T h cells slots)  (hd : decode bytes pc = .ok (.aconst_null, 1))  (hp : pc' = pc + 1) (g : Go p e below s K N h0 ws Q T (mkF m pc' Ls (.null :: st))) : Go p e below s K N h0 ws Q T (mkF m pc Ls st) := by
  subst hp; obtain ⟨L, X, -⟩ := X; exact Go.to (fun t k => XS.aconstNull X.here B.1 rfl (hb B.2.2.1 hd)  k) g
theorem giadd (B : Fix p Z s m meth c bytes maxL own nm ret) (X : St p l e R s m args below meth c h0 ws T h cells slots) {x y : Int32} {v : Int32} (hd : decode bytes pc = .ok (.iadd, 1))  (hv : x + y = v) (hp : pc' = pc + 1) (g : Go p e below s K N h0 ws Q T (mkF m pc' Ls (.int v :: st))) : Go p e below s K N h0 ws Q T (mkF m pc Ls (.int y :: .int x :: st)) := by
  subst hp; subst hv; obtain ⟨L, X, -⟩ := X; exact Go.to (fun t k => XS.iadd X.here B.1 rfl (hb B.2.2.1 hd) rfl k) g
theorem gladd (B : Fix p Z s m meth c bytes maxL own nm ret) (X : St p l e R s m args below meth c h0 ws T h cells slots) {x y : Int64} {v : Int64} (hd : decode bytes pc = .ok (.ladd, 1))  (hv : x + y = v) (hp : pc' = pc + 1) (g : Go p e below s K N h0 ws Q T (mkF m pc' Ls (.long v :: st))) : Go p e below s K N h0 ws Q T (mkF m pc Ls (.long y :: .long x :: st)) := by
  subst hp; subst hv; obtain ⟨L, X, -⟩ := X; exact Go.to (fun t k => XS.ladd X.here B.1 rfl (hb B.2.2.1 hd) rfl k) g
theorem gisub (B : Fix p Z s m meth c bytes maxL own nm ret) (X : St p l e R s m args below meth c h0 ws T h cells slots) {x y : Int32} {v : Int32} (hd : decode bytes pc = .ok (.isub, 1))  (hv : x - y = v) (hp : pc' = pc + 1) (g : Go p e below s K N h0 ws Q T (mkF m pc' Ls (.int v :: st))) : Go p e below s K N h0 ws Q T (mkF m pc Ls (.int y :: .int x :: st)) := by
  subst hp; subst hv; obtain ⟨L, X, -⟩ := X; exact Go.to (fun t k => XS.isub X.here B.1 rfl (hb B.2.2.1 hd) rfl k) g
theorem glsub (B : Fix p Z s m meth c bytes maxL own nm ret) (X : St p l e R s m args below meth c h0 ws T h cells slots) {x y : Int64} {v : Int64} (hd : decode bytes pc = .ok (.lsub, 1))  (hv : x - y = v) (hp : pc' = pc + 1) (g : Go p e below s K N h0 ws Q T (mkF m pc' Ls (.long v :: st))) : Go p e below s K N h0 ws Q T (mkF m pc Ls (.long y :: .long x :: st)) := by
  subst hp; subst hv; obtain ⟨L, X, -⟩ := X; exact Go.to (fun t k => XS.lsub X.here B.1 rfl (hb B.2.2.1 hd) rfl k) g
theorem gimul (B : Fix p Z s m meth c bytes maxL own nm ret) (X : St p l e R s m args below meth c h0 ws T h cells slots) {x y : Int32} {v : Int32} (hd : decode bytes pc = .ok (.imul, 1))  (hv : x * y = v) (hp : pc' = pc + 1) (g : Go p e below s K N h0 ws Q T (mkF m pc' Ls (.int v :: st))) : Go p e below s K N h0 ws Q T (mkF m pc Ls (.int y :: .int x :: st)) := by
  subst hp; subst hv; obtain ⟨L, X, -⟩ := X; exact Go.to (fun t k => XS.imul X.here B.1 rfl (hb B.2.2.1 hd) rfl k) g
theorem glmul (B : Fix p Z s m meth c bytes maxL own nm ret) (X : St p l e R s m args below meth c h0 ws T h cells slots) {x y : Int64} {v : Int64} (hd : decode bytes pc = .ok (.lmul, 1))  (hv : x * y = v) (hp : pc' = pc + 1) (g : Go p e below s K N h0 ws Q T (mkF m pc' Ls (.long v :: st))) : Go p e below s K N h0 ws Q T (mkF m pc Ls (.long y :: .long x :: st)) := by
  subst hp; subst hv; obtain ⟨L, X, -⟩ := X; exact Go.to (fun t k => XS.lmul X.here B.1 rfl (hb B.2.2.1 hd) rfl k) g
theorem giand (B : Fix p Z s m meth c bytes maxL own nm ret) (X : St p l e R s m args below meth c h0 ws T h cells slots) {x y : Int32} {v : Int32} (hd : decode bytes pc = .ok (.iand, 1))  (hv : x &&& y = v) (hp : pc' = pc + 1) (g : Go p e below s K N h0 ws Q T (mkF m pc' Ls (.int v :: st))) : Go p e below s K N h0 ws Q T (mkF m pc Ls (.int y :: .int x :: st)) := by
  subst hp; subst hv; obtain ⟨L, X, -⟩ := X; exact Go.to (fun t k => XS.iand X.here B.1 rfl (hb B.2.2.1 hd) rfl k) g
theorem gland (B : Fix p Z s m meth c bytes maxL own nm ret) (X : St p l e R s m args below meth c h0 ws T h cells slots) {x y : Int64} {v : Int64} (hd : decode bytes pc = .ok (.land, 1))  (hv : x &&& y = v) (hp : pc' = pc + 1) (g : Go p e below s K N h0 ws Q T (mkF m pc' Ls (.long v :: st))) : Go p e below s K N h0 ws Q T (mkF m pc Ls (.long y :: .long x :: st)) := by
  subst hp; subst hv; obtain ⟨L, X, -⟩ := X; exact Go.to (fun t k => XS.land X.here B.1 rfl (hb B.2.2.1 hd) rfl k) g
theorem gior (B : Fix p Z s m meth c bytes maxL own nm ret) (X : St p l e R s m args below meth c h0 ws T h cells slots) {x y : Int32} {v : Int32} (hd : decode bytes pc = .ok (.ior, 1))  (hv : x ||| y = v) (hp : pc' = pc + 1) (g : Go p e below s K N h0 ws Q T (mkF m pc' Ls (.int v :: st))) : Go p e below s K N h0 ws Q T (mkF m pc Ls (.int y :: .int x :: st)) := by
  subst hp; subst hv; obtain ⟨L, X, -⟩ := X; exact Go.to (fun t k => XS.ior X.here B.1 rfl (hb B.2.2.1 hd) rfl k) g
theorem glor (B : Fix p Z s m meth c bytes maxL own nm ret) (X : St p l e R s m args below meth c h0 ws T h cells slots) {x y : Int64} {v : Int64} (hd : decode bytes pc = .ok (.lor, 1))  (hv : x ||| y = v) (hp : pc' = pc + 1) (g : Go p e below s K N h0 ws Q T (mkF m pc' Ls (.long v :: st))) : Go p e below s K N h0 ws Q T (mkF m pc Ls (.long y :: .long x :: st)) := by
  subst hp; subst hv; obtain ⟨L, X, -⟩ := X; exact Go.to (fun t k => XS.lor X.here B.1 rfl (hb B.2.2.1 hd) rfl k) g
theorem gixor (B : Fix p Z s m meth c bytes maxL own nm ret) (X : St p l e R s m args below meth c h0 ws T h cells slots) {x y : Int32} {v : Int32} (hd : decode bytes pc = .ok (.ixor, 1))  (hv : x ^^^ y = v) (hp : pc' = pc + 1) (g : Go p e below s K N h0 ws Q T (mkF m pc' Ls (.int v :: st))) : Go p e below s K N h0 ws Q T (mkF m pc Ls (.int y :: .int x :: st)) := by
  subst hp; subst hv; obtain ⟨L, X, -⟩ := X; exact Go.to (fun t k => XS.ixor X.here B.1 rfl (hb B.2.2.1 hd) rfl k) g
theorem glxor (B : Fix p Z s m meth c bytes maxL own nm ret) (X : St p l e R s m args below meth c h0 ws T h cells slots) {x y : Int64} {v : Int64} (hd : decode bytes pc = .ok (.lxor, 1))  (hv : x ^^^ y = v) (hp : pc' = pc + 1) (g : Go p e below s K N h0 ws Q T (mkF m pc' Ls (.long v :: st))) : Go p e below s K N h0 ws Q T (mkF m pc Ls (.long y :: .long x :: st)) := by
  subst hp; subst hv; obtain ⟨L, X, -⟩ := X; exact Go.to (fun t k => XS.lxor X.here B.1 rfl (hb B.2.2.1 hd) rfl k) g
theorem gidiv (B : Fix p Z s m meth c bytes maxL own nm ret) (X : St p l e R s m args below meth c h0 ws T h cells slots) {x y : Int32} {v : Int32} (hd : decode bytes pc = .ok (.idiv, 1)) (hy : y ≠ 0) (hv : x / y = v) (hp : pc' = pc + 1) (g : Go p e below s K N h0 ws Q T (mkF m pc' Ls (.int v :: st))) : Go p e below s K N h0 ws Q T (mkF m pc Ls (.int y :: .int x :: st)) := by
  subst hp; subst hv; obtain ⟨L, X, -⟩ := X; exact Go.to (fun t k => XS.idiv X.here B.1 rfl (hb B.2.2.1 hd) rfl hy k) g
theorem gldiv (B : Fix p Z s m meth c bytes maxL own nm ret) (X : St p l e R s m args below meth c h0 ws T h cells slots) {x y : Int64} {v : Int64} (hd : decode bytes pc = .ok (.ldiv, 1)) (hy : y ≠ 0) (hv : x / y = v) (hp : pc' = pc + 1) (g : Go p e below s K N h0 ws Q T (mkF m pc' Ls (.long v :: st))) : Go p e below s K N h0 ws Q T (mkF m pc Ls (.long y :: .long x :: st)) := by
  subst hp; subst hv; obtain ⟨L, X, -⟩ := X; exact Go.to (fun t k => XS.ldiv X.here B.1 rfl (hb B.2.2.1 hd) rfl hy k) g
theorem girem (B : Fix p Z s m meth c bytes maxL own nm ret) (X : St p l e R s m args below meth c h0 ws T h cells slots) {x y v : Int32} (hd : decode bytes pc = .ok (.irem, 1)) (hy : y ≠ 0) (hv : x % y = v) (hp : pc' = pc + 1) (g : Go p e below s K N h0 ws Q T (mkF m pc' Ls (.int v :: st))) : Go p e below s K N h0 ws Q T (mkF m pc Ls (.int y :: .int x :: st)) := by
  subst hp; subst hv; obtain ⟨L, X, -⟩ := X; exact Go.to (fun t k => iremM X B.1 rfl (hb B.2.2.1 hd) rfl hy k) g
theorem glrem (B : Fix p Z s m meth c bytes maxL own nm ret) (X : St p l e R s m args below meth c h0 ws T h cells slots) {x y v : Int64} (hd : decode bytes pc = .ok (.lrem, 1)) (hy : y ≠ 0) (hv : x % y = v) (hp : pc' = pc + 1) (g : Go p e below s K N h0 ws Q T (mkF m pc' Ls (.long v :: st))) : Go p e below s K N h0 ws Q T (mkF m pc Ls (.long y :: .long x :: st)) := by
  subst hp; subst hv; obtain ⟨L, X, -⟩ := X; exact Go.to (fun t k => XS.lrem X.here B.1 rfl (hb B.2.2.1 hd) rfl hy (by rw [lrem_mod]; exact k)) g
theorem gishl (B : Fix p Z s m meth c bytes maxL own nm ret) (X : St p l e R s m args below meth c h0 ws T h cells slots) {x y : Int32} {v : Int32} (hd : decode bytes pc = .ok (.ishl, 1))  (hv : x <<< (y &&& 31) = v) (hp : pc' = pc + 1) (g : Go p e below s K N h0 ws Q T (mkF m pc' Ls (.int v :: st))) : Go p e below s K N h0 ws Q T (mkF m pc Ls (.int y :: .int x :: st)) := by
  subst hp; subst hv; obtain ⟨L, X, -⟩ := X; exact Go.to (fun t k => XS.ishl X.here B.1 rfl (hb B.2.2.1 hd) rfl k) g
theorem gishr (B : Fix p Z s m meth c bytes maxL own nm ret) (X : St p l e R s m args below meth c h0 ws T h cells slots) {x y : Int32} {v : Int32} (hd : decode bytes pc = .ok (.ishr, 1))  (hv : x >>> (y &&& 31) = v) (hp : pc' = pc + 1) (g : Go p e below s K N h0 ws Q T (mkF m pc' Ls (.int v :: st))) : Go p e below s K N h0 ws Q T (mkF m pc Ls (.int y :: .int x :: st)) := by
  subst hp; subst hv; obtain ⟨L, X, -⟩ := X; exact Go.to (fun t k => XS.ishr X.here B.1 rfl (hb B.2.2.1 hd) rfl k) g
theorem giushr (B : Fix p Z s m meth c bytes maxL own nm ret) (X : St p l e R s m args below meth c h0 ws T h cells slots) {x y : Int32} {v : Int32} (hd : decode bytes pc = .ok (.iushr, 1))  (hv : (x.toUInt32 >>> (y &&& 31).toUInt32).toInt32 = v) (hp : pc' = pc + 1) (g : Go p e below s K N h0 ws Q T (mkF m pc' Ls (.int v :: st))) : Go p e below s K N h0 ws Q T (mkF m pc Ls (.int y :: .int x :: st)) := by
  subst hp; subst hv; obtain ⟨L, X, -⟩ := X; exact Go.to (fun t k => XS.iushr X.here B.1 rfl (hb B.2.2.1 hd) rfl k) g
theorem glshl (B : Fix p Z s m meth c bytes maxL own nm ret) (X : St p l e R s m args below meth c h0 ws T h cells slots) {x : Int64} {y : Int32} {v : Int64} (hd : decode bytes pc = .ok (.lshl, 1))  (hv : x <<< (y &&& 0x3f).toInt64 = v) (hp : pc' = pc + 1) (g : Go p e below s K N h0 ws Q T (mkF m pc' Ls (.long v :: st))) : Go p e below s K N h0 ws Q T (mkF m pc Ls (.int y :: .long x :: st)) := by
  subst hp; subst hv; obtain ⟨L, X, -⟩ := X; exact Go.to (fun t k => XS.lshl X.here B.1 rfl (hb B.2.2.1 hd) rfl k) g
theorem glshr (B : Fix p Z s m meth c bytes maxL own nm ret) (X : St p l e R s m args below meth c h0 ws T h cells slots) {x : Int64} {y : Int32} {v : Int64} (hd : decode bytes pc = .ok (.lshr, 1))  (hv : x >>> (y &&& 0x3f).toInt64 = v) (hp : pc' = pc + 1) (g : Go p e below s K N h0 ws Q T (mkF m pc' Ls (.long v :: st))) : Go p e below s K N h0 ws Q T (mkF m pc Ls (.int y :: .long x :: st)) := by
  subst hp; subst hv; obtain ⟨L, X, -⟩ := X; exact Go.to (fun t k => XS.lshr X.here B.1 rfl (hb B.2.2.1 hd) rfl k) g
theorem glushr (B : Fix p Z s m meth c bytes maxL own nm ret) (X : St p l e R s m args below meth c h0 ws T h cells slots) {x : Int64} {y : Int32} {v : Int64} (hd : decode bytes pc = .ok (.lushr, 1))  (hv : (x.toUInt64 >>> (y &&& 0x3f).toInt64.toUInt64).toInt64 = v) (hp : pc' = pc + 1) (g : Go p e below s K N h0 ws Q T (mkF m pc' Ls (.long v :: st))) : Go p e below s K N h0 ws Q T (mkF m pc Ls (.int y :: .long x :: st)) := by
  subst hp; subst hv; obtain ⟨L, X, -⟩ := X; exact Go.to (fun t k => XS.lushr X.here B.1 rfl (hb B.2.2.1 hd) rfl k) g
theorem gineg (B : Fix p Z s m meth c bytes maxL own nm ret) (X : St p l e R s m args below meth c h0 ws T h cells slots) {x : Int32} {v : Int32} (hd : decode bytes pc = .ok (.ineg, 1))  (hv : -x = v) (hp : pc' = pc + 1) (g : Go p e below s K N h0 ws Q T (mkF m pc' Ls (.int v :: st))) : Go p e below s K N h0 ws Q T (mkF m pc Ls (.int x :: st)) := by
  subst hp; subst hv; obtain ⟨L, X, -⟩ := X; exact Go.to (fun t k => XS.ineg X.here B.1 rfl (hb B.2.2.1 hd) rfl k) g
theorem glneg (B : Fix p Z s m meth c bytes maxL own nm ret) (X : St p l e R s m args below meth c h0 ws T h cells slots) {x : Int64} {v : Int64} (hd : decode bytes pc = .ok (.lneg, 1))  (hv : -x = v) (hp : pc' = pc + 1) (g : Go p e below s K N h0 ws Q T (mkF m pc' Ls (.long v :: st))) : Go p e below s K N h0 ws Q T (mkF m pc Ls (.long x :: st)) := by
  subst hp; subst hv; obtain ⟨L, X, -⟩ := X; exact Go.to (fun t k => XS.lneg X.here B.1 rfl (hb B.2.2.1 hd) rfl k) g
theorem gi2l (B : Fix p Z s m meth c bytes maxL own nm ret) (X : St p l e R s m args below meth c h0 ws T h cells slots) {x : Int32} {v : Int64} (hd : decode bytes pc = .ok (.i2l, 1))  (hv : x.toInt64 = v) (hp : pc' = pc + 1) (g : Go p e below s K N h0 ws Q T (mkF m pc' Ls (.long v :: st))) : Go p e below s K N h0 ws Q T (mkF m pc Ls (.int x :: st)) := by
  subst hp; subst hv; obtain ⟨L, X, -⟩ := X; exact Go.to (fun t k => XS.i2l X.here B.1 rfl (hb B.2.2.1 hd) rfl k) g
theorem gl2i (B : Fix p Z s m meth c bytes maxL own nm ret) (X : St p l e R s m args below meth c h0 ws T h cells slots) {x : Int64} {v : Int32} (hd : decode bytes pc = .ok (.l2i, 1))  (hv : x.toInt32 = v) (hp : pc' = pc + 1) (g : Go p e below s K N h0 ws Q T (mkF m pc' Ls (.int v :: st))) : Go p e below s K N h0 ws Q T (mkF m pc Ls (.long x :: st)) := by
  subst hp; subst hv; obtain ⟨L, X, -⟩ := X; exact Go.to (fun t k => XS.l2i X.here B.1 rfl (hb B.2.2.1 hd) rfl k) g
theorem gi2b (B : Fix p Z s m meth c bytes maxL own nm ret) (X : St p l e R s m args below meth c h0 ws T h cells slots) {x : Int32} {v : Int32} (hd : decode bytes pc = .ok (.i2b, 1))  (hv : x.toInt8.toInt32 = v) (hp : pc' = pc + 1) (g : Go p e below s K N h0 ws Q T (mkF m pc' Ls (.int v :: st))) : Go p e below s K N h0 ws Q T (mkF m pc Ls (.int x :: st)) := by
  subst hp; subst hv; obtain ⟨L, X, -⟩ := X; exact Go.to (fun t k => XS.i2b X.here B.1 rfl (hb B.2.2.1 hd) rfl k) g
theorem gi2s (B : Fix p Z s m meth c bytes maxL own nm ret) (X : St p l e R s m args below meth c h0 ws T h cells slots) {x : Int32} {v : Int32} (hd : decode bytes pc = .ok (.i2s, 1))  (hv : x.toInt16.toInt32 = v) (hp : pc' = pc + 1) (g : Go p e below s K N h0 ws Q T (mkF m pc' Ls (.int v :: st))) : Go p e below s K N h0 ws Q T (mkF m pc Ls (.int x :: st)) := by
  subst hp; subst hv; obtain ⟨L, X, -⟩ := X; exact Go.to (fun t k => XS.i2s X.here B.1 rfl (hb B.2.2.1 hd) rfl k) g
theorem gi2c (B : Fix p Z s m meth c bytes maxL own nm ret) (X : St p l e R s m args below meth c h0 ws T h cells slots) {x : Int32} {v : Int32} (hd : decode bytes pc = .ok (.i2c, 1))  (hv : x.toUInt32.toUInt16.toUInt32.toInt32 = v) (hp : pc' = pc + 1) (g : Go p e below s K N h0 ws Q T (mkF m pc' Ls (.int v :: st))) : Go p e below s K N h0 ws Q T (mkF m pc Ls (.int x :: st)) := by
  subst hp; subst hv; obtain ⟨L, X, -⟩ := X; exact Go.to (fun t k => XS.i2c X.here B.1 rfl (hb B.2.2.1 hd) rfl k) g
theorem glcmp (B : Fix p Z s m meth c bytes maxL own nm ret) (X : St p l e R s m args below meth c h0 ws T h cells slots) {x y : Int64} (hd : decode bytes pc = .ok (.lcmp, 1))  (hp : pc' = pc + 1) (g : Go p e below s K N h0 ws Q T (mkF m pc' Ls (.int (lcmpW x y) :: st))) : Go p e below s K N h0 ws Q T (mkF m pc Ls (.long y :: .long x :: st)) := by
  subst hp; obtain ⟨L, X, -⟩ := X; exact Go.to (fun t k => XS.lcmp X.here B.1 rfl (hb B.2.2.1 hd) rfl k) g
theorem gdup (B : Fix p Z s m meth c bytes maxL own nm ret) (X : St p l e R s m args below meth c h0 ws T h cells slots) {x : Value} (hd : decode bytes pc = .ok (.dup, 1)) (hc : x.category = 1) (hp : pc' = pc + 1) (g : Go p e below s K N h0 ws Q T (mkF m pc' Ls (x :: x :: st))) : Go p e below s K N h0 ws Q T (mkF m pc Ls (x :: st)) := by
  subst hp; obtain ⟨L, X, -⟩ := X; exact Go.to (fun t k => XS.dup X.here B.1 rfl (hb B.2.2.1 hd) rfl hc k) g
theorem gpop (B : Fix p Z s m meth c bytes maxL own nm ret) (X : St p l e R s m args below meth c h0 ws T h cells slots) {x : Value} (hd : decode bytes pc = .ok (.pop, 1)) (hc : x.category = 1) (hp : pc' = pc + 1) (g : Go p e below s K N h0 ws Q T (mkF m pc' Ls st)) : Go p e below s K N h0 ws Q T (mkF m pc Ls (x :: st)) := by
  subst hp; obtain ⟨L, X, -⟩ := X; exact Go.to (fun t k => XS.pop X.here B.1 rfl (hb B.2.2.1 hd) rfl hc k) g
theorem gdup_x1 (B : Fix p Z s m meth c bytes maxL own nm ret) (X : St p l e R s m args below meth c h0 ws T h cells slots) {x y : Value} (hd : decode bytes pc = .ok (.dup_x1, 1)) (hc : x.category = 1) (hc2 : y.category = 1) (hp : pc' = pc + 1) (g : Go p e below s K N h0 ws Q T (mkF m pc' Ls (x :: y :: x :: st))) : Go p e below s K N h0 ws Q T (mkF m pc Ls (x :: y :: st)) := by
  subst hp; obtain ⟨L, X, -⟩ := X; exact Go.to (fun t k => XS.dupX1 X.here B.1 rfl (hb B.2.2.1 hd) rfl hc hc2 k) g
theorem gdup2 (B : Fix p Z s m meth c bytes maxL own nm ret) (X : St p l e R s m args below meth c h0 ws T h cells slots) {x y : Value} (hd : decode bytes pc = .ok (.dup2, 1)) (hc : x.category = 1) (hc2 : y.category = 1) (hp : pc' = pc + 1) (g : Go p e below s K N h0 ws Q T (mkF m pc' Ls (x :: y :: x :: y :: st))) : Go p e below s K N h0 ws Q T (mkF m pc Ls (x :: y :: st)) := by
  subst hp; obtain ⟨L, X, -⟩ := X; exact Go.to (fun t k => Jvm.Free.XT.dup2 X.here B.1 rfl (hb B.2.2.1 hd) rfl hc hc2 k) g
theorem xdup_x2 {tb : Tables} [Ours tb] {target : State} {g : JFrame} (h : At T m c below) (hx : tb.exec = Jvm.exec) (hg : g.method = m) {x y z : Value} {rest : List Value} (hd : decode c.code g.pc = .ok (.dup_x2, 1)) (hs : g.stack = x :: y :: z :: rest) (hc : x.category = 1) (hc' : y.category = 1) (hc2 : z.category = 1)
    (hr : Steps tb e below (T.setTop { g with pc := g.pc + 1, stack := x :: y :: z :: x :: rest }) target) : Steps tb e below (T.setTop g) target := by
  subst hg
  jvm_step h [h.top, hx, hd, hs, hc, hc', hc2]
  exact hr
theorem gdup_x2 (B : Fix p Z s m meth c bytes maxL own nm ret) (X : St p l e R s m args below meth c h0 ws T h cells slots) {x y z : Value} (hd : decode bytes pc = .ok (.dup_x2, 1)) (hc : x.category = 1) (hc2 : y.category = 1) (hc3 : z.category = 1) (hp : pc' = pc + 1) (g : Go p e below s K N h0 ws Q T (mkF m pc' Ls (x :: y :: z :: x :: st))) : Go p e below s K N h0 ws Q T (mkF m pc Ls (x :: y :: z :: st)) := by
  subst hp; obtain ⟨L, X, -⟩ := X; exact Go.to (fun t k => xdup_x2 X.here B.1 rfl (hb B.2.2.1 hd) rfl hc hc2 hc3 k) g
theorem giinc (B : Fix p Z s m meth c bytes maxL own nm ret) (X : St p l e R s m args below meth c h0 ws T h cells slots) {k : Nat} {cst : Int} {x v : Int32} (hd : decode bytes pc = .ok (.iinc k cst, 3)) (hl : Ls[k]? = some (.val (.int x))) (hv : x + Int32.ofInt cst = v) (hl' : storeLocals Ls k (.int v) = some Ls') (hp : pc' = pc + 3) (g : Go p e below s K N h0 ws Q T (mkF m pc' Ls' st)) : Go p e below s K N h0 ws Q T (mkF m pc Ls st) := by
  subst hp; subst hv; obtain ⟨L, X, -⟩ := X; exact Go.to (fun t k => XS.iinc X.here B.1 rfl (hb B.2.2.1 hd) hl hl' k) g
theorem ggoto (B : Fix p Z s m meth c bytes maxL own nm ret) (X : St p l e R s m args below meth c h0 ws T h cells slots) {o : Int} (hd : decode bytes pc = .ok (.goto o, 3)) (ho : 0 ≤ (pc : Int) + o ∧ ((pc : Int) + o).toNat = pc') (g : Go p e below s K N h0 ws Q T (mkF m pc' Ls st)) : Go p e below s K N h0 ws Q T (mkF m pc Ls st) := by
  obtain ⟨L, X, -⟩ := X; exact Go.to (fun t k => XS.goto X.here B.1 rfl (pc0 := pc) rfl (hb B.2.2.1 hd) ho.1 ho.2 k) g
theorem gifY (B : Fix p Z s m meth c bytes maxL own nm ret) (X : St p l e R s m args below meth c h0 ws T h cells slots) {cd : ClassFile.Cond} {o : Int} {x : Int32} (hd : decode bytes pc = .ok (.ifCond cd o, 3)) (hc : ifCond.holds cd x = true) (ho : 0 ≤ (pc : Int) + o ∧ ((pc : Int) + o).toNat = pc') (g : Go p e below s K N h0 ws Q T (mkF m pc' Ls st)) : Go p e below s K N h0 ws Q T (mkF m pc Ls (.int x :: st)) := by
  obtain ⟨L, X, -⟩ := X; exact Go.to (fun t k => XS.ifYes X.here B.1 rfl (pc0 := pc) rfl (hb B.2.2.1 hd) rfl hc ho.1 ho.2 k) g
theorem gifN (B : Fix p Z s m meth c bytes maxL own nm ret) (X : St p l e R s m args below meth c h0 ws T h cells slots) {cd : ClassFile.Cond} {o : Int} {x : Int32} (hd : decode bytes pc = .ok (.ifCond cd o, 3)) (hc : ifCond.holds cd x = false) (hp : pc' = pc + 3) (g : Go p e below s K N h0 ws Q T (mkF m pc' Ls st)) : Go p e below s K N h0 ws Q T (mkF m pc Ls (.int x :: st)) := by
  subst hp; obtain ⟨L, X, -⟩ := X; exact Go.to (fun t k => XS.ifNo X.here B.1 rfl (hb B.2.2.1 hd) rfl hc k) g
theorem gicY (B : Fix p Z s m meth c bytes maxL own nm ret) (X : St p l e R s m args below meth c h0 ws T h cells slots) {cd : ClassFile.Cond} {o : Int} {x y : Int32} (hd : decode bytes pc = .ok (.if_icmp cd o, 3)) (hc : if_icmp.holds cd x y = true) (ho : 0 ≤ (pc : Int) + o ∧ ((pc : Int) + o).toNat = pc') (g : Go p e below s K N h0 ws Q T (mkF m pc' Ls st)) : Go p e below s K N h0 ws Q T (mkF m pc Ls (.int y :: .int x :: st)) := by
  obtain ⟨L, X, -⟩ := X; exact Go.to (fun t k => XS.icmpYes X.here B.1 rfl (pc0 := pc) rfl (hb B.2.2.1 hd) rfl hc ho.1 ho.2 k) g
theorem gicN (B : Fix p Z s m meth c bytes maxL own nm ret) (X : St p l e R s m args below meth c h0 ws T h cells slots) {cd : ClassFile.Cond} {o : Int} {x y : Int32} (hd : decode bytes pc = .ok (.if_icmp cd o, 3)) (hc : if_icmp.holds cd x y = false) (hp : pc' = pc + 3) (g : Go p e below s K N h0 ws Q T (mkF m pc' Ls st)) : Go p e below s K N h0 ws Q T (mkF m pc Ls (.int y :: .int x :: st)) := by
  subst hp; obtain ⟨L, X, -⟩ := X; exact Go.to (fun t k => XS.icmpNo X.here B.1 rfl (hb B.2.2.1 hd) rfl hc k) g
theorem gnullN (B : Fix p Z s m meth c bytes maxL own nm ret) (X : St p l e R s m args below meth c h0 ws T h cells slots) {a : Addr} {o : Int} (hd : decode bytes pc = .ok (.ifnull o, 3)) (hp : pc' = pc + 3) (g : Go p e below s K N h0 ws Q T (mkF m pc' Ls st)) : Go p e below s K N h0 ws Q T (mkF m pc Ls (.ref a :: st)) := by
  subst hp; obtain ⟨L, X, -⟩ := X; exact Go.to (fun t k => XS.ifnullNo X.here B.1 rfl (hb B.2.2.1 hd) rfl k) g
theorem gldc (B : Fix p Z s m meth c bytes maxL own nm ret) (X : St p l e R s m args below meth c h0 ws T h cells slots) {i : Nat} {v : Int32} (w : (Cond.constant own i v).before a0 Z = true) (hd : decode bytes pc = .ok (.ldc i, 2)) (hp : pc' = pc + 2) (g : Go p e below s K N h0 ws Q T (mkF m pc' Ls (.int v :: st))) : Go p e below s K N h0 ws Q T (mkF m pc Ls st) := by
  subst hp; obtain ⟨L, X, -⟩ := X; exact Go.to (fun t k => X.ldcInt B.1 B.2.2.2.2.1 (mvT B.2.1 w) (g := mkF m pc Ls st) rfl (hb B.2.2.1 hd) t k) g
theorem gldcw (B : Fix p Z s m meth c bytes maxL own nm ret) (X : St p l e R s m args below meth c h0 ws T h cells slots) {i : Nat} {v : Int32} (w : (Cond.constant own i v).before a0 Z = true) (hd : decode bytes pc = .ok (.ldc_w i, 3)) (hp : pc' = pc + 3) (g : Go p e below s K N h0 ws Q T (mkF m pc' Ls (.int v :: st))) : Go p e below s K N h0 ws Q T (mkF m pc Ls st) := by
  subst hp; obtain ⟨L, X, -⟩ := X; exact Go.to (fun t k => X.ldcwInt B.1 B.2.2.2.2.1 (mvT B.2.1 w) (g := mkF m pc Ls st) rfl (hb B.2.2.1 hd) t k) g
theorem gldc2 (B : Fix p Z s m meth c bytes maxL own nm ret) (X : St p l e R s m args below meth c h0 ws T h cells slots) {i : Nat} {v : Int64} (w : (Cond.constantLong own i v).before a0 Z = true) (hd : decode bytes pc = .ok (.ldc2_w i, 3)) (hp : pc' = pc + 3) (g : Go p e below s K N h0 ws Q T (mkF m pc' Ls (.long v :: st))) : Go p e below s K N h0 ws Q T (mkF m pc Ls st) := by
  subst hp; obtain ⟨L, X, -⟩ := X; exact Go.to (fun t k => X.ldc2Long B.1 B.2.2.2.2.1 (mvT B.2.1 w) (g := mkF m pc Ls st) rfl (hb B.2.2.1 hd) t k) g
theorem giaload (B : Fix p Z s m meth c bytes maxL own nm ret) (X : St p l e R s m args below meth c h0 ws T h cells slots) {a : Addr} {vs : List Value} {j : Int32} {v : Value} {n : Nat} (A : VA Z h a .int vs) (hn : vs.length = n) (hj : 0 ≤ j.toInt ∧ j.toInt < n) (hv : vs[j.toNatClampNeg]? = some v) (hd : decode bytes pc = .ok (.iaload, 1)) (hp : pc' = pc + 1) (g : Go p e below s K N h0 ws Q T (mkF m pc' Ls (v :: st))) : Go p e below s K N h0 ws Q T (mkF m pc Ls (.int j :: .ref a :: st)) := by
  subst hp; subst hn; obtain ⟨L, X, eT, -⟩ := X; obtain ⟨cl, A, r, n⟩ := A
  exact Go.to (fun t k => X.iaload B.1 (by rw [eT]; exact A.1) (State.isArrayOf_alike B.2.1.alike A.2.1) A.2.2 (by rw [r]; exact inb (by simpa using hj)) (by rw [r]; simpa using hv) (g := mkF m pc Ls (.int j :: .ref a :: st)) rfl rfl (hb B.2.2.1 hd) t k) g
theorem glaload (B : Fix p Z s m meth c bytes maxL own nm ret) (X : St p l e R s m args below meth c h0 ws T h cells slots) {a : Addr} {vs : List Value} {j : Int32} {v : Value} {n : Nat} (A : VA Z h a .long vs) (hn : vs.length = n) (hj : 0 ≤ j.toInt ∧ j.toInt < n) (hv : vs[j.toNatClampNeg]? = some v) (hd : decode bytes pc = .ok (.laload, 1)) (hp : pc' = pc + 1) (g : Go p e below s K N h0 ws Q T (mkF m pc' Ls (v :: st))) : Go p e below s K N h0 ws Q T (mkF m pc Ls (.int j :: .ref a :: st)) := by
  subst hp; subst hn; obtain ⟨L, X, eT, -⟩ := X; obtain ⟨cl, A, r, n⟩ := A
  exact Go.to (fun t k => X.laload B.1 (by rw [eT]; exact A.1) (State.isArrayOf_alike B.2.1.alike A.2.1) A.2.2 (by rw [r]; exact inb (by simpa using hj)) (by rw [r]; simpa using hv) (g := mkF m pc Ls (.int j :: .ref a :: st)) rfl rfl (hb B.2.2.1 hd) t k) g
theorem gbaload (B : Fix p Z s m meth c bytes maxL own nm ret) (X : St p l e R s m args below meth c h0 ws T h cells slots) {a : Addr} {vs : List Value} {j : Int32} {v : Value} {n : Nat} (A : VA Z h a .byte vs) (hn : vs.length = n) (hj : 0 ≤ j.toInt ∧ j.toInt < n) (hv : vs[j.toNatClampNeg]? = some v) (hd : decode bytes pc = .ok (.baload, 1)) (hp : pc' = pc + 1) (g : Go p e below s K N h0 ws Q T (mkF m pc' Ls (v :: st))) : Go p e below s K N h0 ws Q T (mkF m pc Ls (.int j :: .ref a :: st)) := by
  subst hp; subst hn; obtain ⟨L, X, eT, -⟩ := X; obtain ⟨cl, A, r, n⟩ := A
  exact Go.to (fun t k => X.baloadBytes B.1 (by rw [eT]; exact A.1) (State.isArrayOf_alike B.2.1.alike A.2.1) A.2.2 (by rw [r]; exact inb (by simpa using hj)) (by rw [r]; simpa using hv) (g := mkF m pc Ls (.int j :: .ref a :: st)) rfl rfl (hb B.2.2.1 hd) t k) g
theorem gzaload (B : Fix p Z s m meth c bytes maxL own nm ret) (X : St p l e R s m args below meth c h0 ws T h cells slots) {a : Addr} {vs : List Value} {j : Int32} {v : Value} {n : Nat} (A : VA Z h a .boolean vs) (hn : vs.length = n) (hj : 0 ≤ j.toInt ∧ j.toInt < n) (hv : vs[j.toNatClampNeg]? = some v) (hd : decode bytes pc = .ok (.baload, 1)) (hp : pc' = pc + 1) (g : Go p e below s K N h0 ws Q T (mkF m pc' Ls (v :: st))) : Go p e below s K N h0 ws Q T (mkF m pc Ls (.int j :: .ref a :: st)) := by
  subst hp; subst hn; obtain ⟨L, X, eT, -⟩ := X; obtain ⟨cl, A, r, n⟩ := A
  exact Go.to (fun t k => X.baloadBooleans B.1 (by rw [eT]; exact A.1) (State.isArrayOf_alike B.2.1.alike A.2.1) A.2.2 (by rw [r]; exact inb (by simpa using hj)) (by rw [r]; simpa using hv) (g := mkF m pc Ls (.int j :: .ref a :: st)) rfl rfl (hb B.2.2.1 hd) t k) g
theorem glength (B : Fix p Z s m meth c bytes maxL own nm ret) (X : St p l e R s m args below meth c h0 ws T h cells slots) {a : Addr} {ty : FieldType} {vs : List Value} {n : Int32} {k : Nat} (A : VA Z h a ty vs) (hk : vs.length = k) (hn : n.toInt = k) (hd : decode bytes pc = .ok (.arraylength, 1)) (hp : pc' = pc + 1) (g : Go p e below s K N h0 ws Q T (mkF m pc' Ls (.int n :: st))) : Go p e below s K N h0 ws Q T (mkF m pc Ls (.ref a :: st)) := by
  subst hp; subst hk; obtain ⟨L, X, eT, -⟩ := X; obtain ⟨cl, A, r, q⟩ := A
  have e1 : cl.slots.size.toInt32 = n := by rw [r]; apply Int32.toInt_inj.mp; rw [len_toInt (by simpa using q), hn]; simp
  exact Go.to (fun t k => X.arraylength B.1 (by rw [eT]; exact A.1) (State.isArrayOf_alike B.2.1.alike A.2.1) (g := mkF m pc Ls (.ref a :: st)) rfl rfl (hb B.2.2.1 hd) t (by rw [e1]; exact k)) g
theorem giastore (B : Fix p Z s m meth c bytes maxL own nm ret) (X : St p l e R s m args below meth c h0 ws T h cells slots) {a : Addr} {vs vs' : List Value} {j : Int32} {x : Int32} {i n : Nat} (A : VA Z h a .int vs) (hn : vs.length = n) (hj : 0 ≤ j.toInt ∧ j.toInt < n) (hi : j.toNatClampNeg = i) (hvs : vs.set i (.int x) = vs') (ha : a ∈ ws ∨ h0.size ≤ a) (hd : decode bytes pc = .ok (.iastore, 1)) (hp : pc' = pc + 1) (g : ∀ T' h', St p l e R s m args below meth c h0 ws T' h' cells slots → Wr h h' a i (.int x) → VA Z h' a .int vs' → Go p e below s K N h0 ws Q T' (mkF m pc' Ls st)) : Go p e below s K N h0 ws Q T (mkF m pc Ls (.int x :: .int j :: .ref a :: st)) := by
  subst hp; subst hi; subst hvs; subst hn; obtain ⟨L, X, eT, KK, FF⟩ := X; have A0 := A; obtain ⟨cl, A, r, n⟩ := A
  obtain ⟨T', h', X', e', W, k⟩ := stI X B.1 B.2.1 eT A (by rw [r]; exact inb (by simpa using hj)) (g := mkF m pc Ls (.int x :: .int j :: .ref a :: st)) rfl rfl (hb B.2.2.1 hd)
  exact Go.to k (g T' h' ⟨_, X', e', KK.wr W ha, fun y hy => (List.mem_append.mp hy).elim (FF y) fun q => by cases List.mem_singleton.mp q; exact ha⟩ W (A0.set W))
theorem glastore (B : Fix p Z s m meth c bytes maxL own nm ret) (X : St p l e R s m args below meth c h0 ws T h cells slots) {a : Addr} {vs vs' : List Value} {j : Int32} {x : Int64} {i n : Nat} (A : VA Z h a .long vs) (hn : vs.length = n) (hj : 0 ≤ j.toInt ∧ j.toInt < n) (hi : j.toNatClampNeg = i) (hvs : vs.set i (.long x) = vs') (ha : a ∈ ws ∨ h0.size ≤ a) (hd : decode bytes pc = .ok (.lastore, 1)) (hp : pc' = pc + 1) (g : ∀ T' h', St p l e R s m args below meth c h0 ws T' h' cells slots → Wr h h' a i (.long x) → VA Z h' a .long vs' → Go p e below s K N h0 ws Q T' (mkF m pc' Ls st)) : Go p e below s K N h0 ws Q T (mkF m pc Ls (.long x :: .int j :: .ref a :: st)) := by
  subst hp; subst hi; subst hvs; subst hn; obtain ⟨L, X, eT, KK, FF⟩ := X; have A0 := A; obtain ⟨cl, A, r, n⟩ := A
  obtain ⟨T', h', X', e', W, k⟩ := stJ X B.1 B.2.1 eT A (by rw [r]; exact inb (by simpa using hj)) (g := mkF m pc Ls (.long x :: .int j :: .ref a :: st)) rfl rfl (hb B.2.2.1 hd)
  exact Go.to k (g T' h' ⟨_, X', e', KK.wr W ha, fun y hy => (List.mem_append.mp hy).elim (FF y) fun q => by cases List.mem_singleton.mp q; exact ha⟩ W (A0.set W))
theorem gbastore (B : Fix p Z s m meth c bytes maxL own nm ret) (X : St p l e R s m args below meth c h0 ws T h cells slots) {a : Addr} {vs vs' : List Value} {j : Int32} {x : Int32} {i n : Nat} (A : VA Z h a .byte vs) (hn : vs.length = n) (hj : 0 ≤ j.toInt ∧ j.toInt < n) (hi : j.toNatClampNeg = i) (hvs : vs.set i (.int x.toInt8.toInt32) = vs') (ha : a ∈ ws ∨ h0.size ≤ a) (hd : decode bytes pc = .ok (.bastore, 1)) (hp : pc' = pc + 1) (g : ∀ T' h', St p l e R s m args below meth c h0 ws T' h' cells slots → Wr h h' a i (.int x.toInt8.toInt32) → VA Z h' a .byte vs' → Go p e below s K N h0 ws Q T' (mkF m pc' Ls st)) : Go p e below s K N h0 ws Q T (mkF m pc Ls (.int x :: .int j :: .ref a :: st)) := by
  subst hp; subst hi; subst hvs; subst hn; obtain ⟨L, X, eT, KK, FF⟩ := X; have A0 := A; obtain ⟨cl, A, r, n⟩ := A
  obtain ⟨T', h', X', e', W, k⟩ := stB X B.1 B.2.1 eT A (by rw [r]; exact inb (by simpa using hj)) (g := mkF m pc Ls (.int x :: .int j :: .ref a :: st)) rfl rfl (hb B.2.2.1 hd)
  exact Go.to k (g T' h' ⟨_, X', e', KK.wr W ha, fun y hy => (List.mem_append.mp hy).elim (FF y) fun q => by cases List.mem_singleton.mp q; exact ha⟩ W (A0.set W))
theorem gzastore (B : Fix p Z s m meth c bytes maxL own nm ret) (X : St p l e R s m args below meth c h0 ws T h cells slots) {a : Addr} {vs vs' : List Value} {j : Int32} {x : Int32} {i n : Nat} (A : VA Z h a .boolean vs) (hn : vs.length = n) (hj : 0 ≤ j.toInt ∧ j.toInt < n) (hi : j.toNatClampNeg = i) (hvs : vs.set i (.int (x &&& 1)) = vs') (ha : a ∈ ws ∨ h0.size ≤ a) (hd : decode bytes pc = .ok (.bastore, 1)) (hp : pc' = pc + 1) (g : ∀ T' h', St p l e R s m args below meth c h0 ws T' h' cells slots → Wr h h' a i (.int (x &&& 1)) → VA Z h' a .boolean vs' → Go p e below s K N h0 ws Q T' (mkF m pc' Ls st)) : Go p e below s K N h0 ws Q T (mkF m pc Ls (.int x :: .int j :: .ref a :: st)) := by
  subst hp; subst hi; subst hvs; subst hn; obtain ⟨L, X, eT, KK, FF⟩ := X; have A0 := A; obtain ⟨cl, A, r, n⟩ := A
  obtain ⟨T', h', X', e', W, k⟩ := stZ X B.1 B.2.1 eT A (by rw [r]; exact inb (by simpa using hj)) (g := mkF m pc Ls (.int x :: .int j :: .ref a :: st)) rfl rfl (hb B.2.2.1 hd)
  exact Go.to k (g T' h' ⟨_, X', e', KK.wr W ha, fun y hy => (List.mem_append.mp hy).elim (FF y) fun q => by cases List.mem_singleton.mp q; exact ha⟩ W (A0.set W))
theorem gnewarray (B : Fix p Z s m meth c bytes maxL own nm ret) (X : St p l e R s m args below meth c h0 ws T h cells slots) {aty : ArrayType} {n : Int32} {cap : Nat} {vs : List Value} {ty : FieldType} (hty : newarray.typeOf aty = ty) (hvs : List.replicate n.toNatClampNeg (defaultValue ty) = vs) (w : (Cond.arrayClass ty).before a0 Z = true) (hn : 0 ≤ n.toInt) (hcap : n.toInt ≤ cap) (hb8 : cap * 8 ≤ 536870912) (hc : cells + 1 ≤ R.cells) (hl : slots + cap ≤ R.slots) (hd : decode bytes pc = .ok (.newarray aty, 2)) (hp : pc' = pc + 2) (g : ∀ T' h' a, St p l e R s m args below meth c h0 ws T' h' (cells + 1) (slots + cap) → a = h.size → Ext h h' → h0.size ≤ a → VA Z h' a ty vs → Go p e below s K N h0 ws Q T' (mkF m pc' Ls (.ref a :: st))) : Go p e below s K N h0 ws Q T (mkF m pc Ls (.int n :: st)) := by
  subst hp; subst hty; subst hvs; obtain ⟨L, X, eT, KK, FF⟩ := X
  have hn' : ¬ n < 0 := by rw [Int32.lt_iff_toInt_lt, show (0 : Int32).toInt = 0 from rfl]; omega
  obtain ⟨T', h', cA, X', e', E, A, k⟩ := newP X B.1 B.2.1 w eT (g := mkF m pc Ls (.int n :: st)) rfl (hb B.2.2.1 hd) rfl hn' (cap := cap) (by simp only [Int32.toNatClampNeg]; omega) hb8 hc hl
  exact Go.to k (g T' h' _ ⟨_, X', e', KK.ext E, FF⟩ rfl E KK.1 (VA.new A hn'))
theorem gget (B : Fix p Z s m meth c bytes maxL own nm ret) (X : St p l e R s m args below meth c h0 ws T h cells slots) {a : Addr} {i : Nat} {C n d : String} {v : Value} (w : (Cond.fieldLink own i C n d).before a0 Z = true) (F : Fld Z h a C n d v) (hd : decode bytes pc = .ok (.getfield i, 3)) (hp : pc' = pc + 3) (g : ∀ T', St p l e R s m args below meth c h0 ws T' h cells slots → Go p e below s K N h0 ws Q T' (mkF m pc' Ls (v :: st))) : Go p e below s K N h0 ws Q T (mkF m pc Ls (.ref a :: st)) := by
  subst hp; obtain ⟨L, X, eT, r⟩ := X
  obtain ⟨T', X', e', k⟩ := getF X B.1 B.2.1 B.2.2.2.2.1 (host := "") (Or.inl w) Via.refl eT F (g := mkF m pc Ls (.ref a :: st)) rfl rfl (hb B.2.2.1 hd)
  exact Go.to k (g T' ⟨L, X', e', r⟩)
theorem gput (B : Fix p Z s m meth c bytes maxL own nm ret) (X : St p l e R s m args below meth c h0 ws T h cells slots) {a : Addr} {i kk : Nat} {C O n d : String} {ty : FieldType} {v old : Value} (w : (Cond.fieldLink own i O n d).before a0 Z = true) (F : Fld Z h a O n d old) (E : Exa Z h a C) (L : (Cond.lays C O n d).before a0 Z = true ∨ ((Cond.laysFinal C O n d).before a0 Z = true ∧ own = O ∧ nm = "<init>")) (wi : (Cond.instantiable C kk).before a0 Z = true) (hty : parseFieldDescriptor d = some ty) (hn : narrow ty v = v) (hf : fits ty v = true) (ha : a ∈ ws ∨ h0.size ≤ a) (hd : decode bytes pc = .ok (.putfield i, 3)) (hp : pc' = pc + 3) (g : ∀ T' h', St p l e R s m args below meth c h0 ws T' h' cells slots → Wr h h' a (Jvm.RoadKit.slotOf Z O n d) v → Go p e below s K N h0 ws Q T' (mkF m pc' Ls st)) : Go p e below s K N h0 ws Q T (mkF m pc Ls (v :: .ref a :: st)) := by
  subst hp; obtain ⟨L0, X, eT, KK, FF⟩ := X
  obtain ⟨T', h', X', e', W, k⟩ := putF X B.1 B.2.1 B.2.2.2.2.1 (host := "") (Or.inl w) Via.refl eT F E (L.imp id fun q => ⟨q.1, q.2.1, B.2.2.2.2.2.1.trans q.2.2⟩) wi hty hn hf (g := mkF m pc Ls (v :: .ref a :: st)) rfl rfl (hb B.2.2.1 hd)
  exact Go.to k (g T' h' ⟨_, X', e', KK.wr W ha, fun y hy => (List.mem_append.mp hy).elim (FF y) fun q => by cases List.mem_singleton.mp q; exact ha⟩ W)
theorem gnew (B : Fix p Z s m meth c bytes maxL own nm ret) (X : St p l e R s m args below meth c h0 ws T h cells slots) {i n : Nat} {C : String} (w : (Cond.classLink own i C).before a0 Z = true) (wi : (Cond.instantiable C n).before a0 Z = true) (wz : (Cond.initialized C).before a0 Z = true) (hc : cells + 1 ≤ R.cells) (hl : slots + n ≤ R.slots) (hd : decode bytes pc = .ok (.new i, 3)) (hp : pc' = pc + 3) (g : ∀ T' h' a, St p l e R s m args below meth c h0 ws T' h' (cells + 1) (slots + n) → a = h.size → Ext h h' → h0.size ≤ a → Exa Z h' a C → (∀ {O nm d : String} {ty : FieldType}, Laid Z a0 C O nm d → parseFieldDescriptor d = some ty → Fld Z h' a O nm d (defaultValue ty)) → Go p e below s K N h0 ws Q T' (mkF m pc' Ls (.ref a :: st))) : Go p e below s K N h0 ws Q T (mkF m pc Ls st) := by
  subst hp; obtain ⟨L0, X, eT, KK, FF⟩ := X
  obtain ⟨T', h', X', e', E, A, D, -, k⟩ := newO X B.1 B.2.1 B.2.2.2.2.1 w wi wz eT (g := mkF m pc Ls st) rfl (hb B.2.2.1 hd) hc hl
  exact Go.to k (g T' h' _ ⟨_, X', e', KK.ext E, FF⟩ rfl E KK.1 A D)
theorem ginitO (B : Fix p Z s m meth c bytes maxL own nm ret) (X : St p l e R s m args below meth c h0 ws T h cells slots) {a : Addr} {i W : Nat} (w1 : (Cond.methodLink own i Lib.objectInit).before a0 Z = true) (w2 : (Cond.instanceMethod Lib.objectInit).before a0 Z = true) (w3 : (Cond.code Lib.objectInit ⟨#[0xb1]⟩ 1 none).before a0 Z = true) (hsz : Ls.size = maxL) (hf : 1 ≤ R.frames) (hW : (st.map fun v => v.category).sum ≤ W) (hl : W + 12 ≤ R.locals) (hd : decode bytes pc = .ok (.invokespecial i, 3)) (hp : pc' = pc + 3) (g : ∀ T', St p l e R s m args below meth c h0 ws T' h cells slots → Go p e below s K N h0 ws Q T' (mkF m pc' Ls st)) : Go p e below s K N h0 ws Q T (mkF m pc Ls (.ref a :: st)) := by
  subst hp; obtain ⟨L0, X, eT, r⟩ := X
  obtain ⟨T', X', e', k⟩ := initO X B.1 B.2.1 B.2.2.2.2.1 w1 w2 w3 eT (g := mkF m pc Ls (.ref a :: st)) rfl (hsz.trans B.2.2.2.1.symm) rfl (hb B.2.2.1 hd) hf (W := W) (by show 2 * 0 + _ ≤ _; rw [Nat.mul_zero, Nat.zero_add]; exact hW) hl
  exact Go.to k (g T' ⟨L0, X', e', r⟩)
theorem gcallS (B : Fix p Z s m meth c bytes maxL own nm ret) (X : St p l e R s m args below meth c h0 ws T h cells slots) {y : MethodName} {bytes' : ByteArray} {maxL' : Nat} {ret' : Option FieldType} {rm : Room} {ws' : List Addr} {Q' : Option Value → Heap → Prop} {stk argsL : List Value} {i W : Nat} {ps : List FieldType} {rr : Option FieldType}  (w1 : (Cond.methodLink own i y).before a0 Z = true) (w2 : (Cond.static y).before a0 Z = true) (w3 : (Cond.initialized y.cls).before a0 Z = true) (w4 : (Cond.code y bytes' maxL' ret').before a0 Z = true) (hy : y.cls ≠ "java/lang/invoke/MethodHandle" ∧ y.cls ≠ "java/lang/invoke/VarHandle") (M : Meth l Z y bytes' maxL' ret' rm argsL.toArray h ws' Q') (hpd : parseMethodDescriptor y.desc = some ⟨ps, rr⟩) (hlen : argsL.length = ps.length) (hstk : stk = argsL.reverse ++ st) (hsz : Ls.size = maxL) (hW : (st.map fun v => v.category).sum ≤ W) (hfr : rm.frames + 1 ≤ R.frames) (hlo : W + (maxL' + 11) + rm.locals ≤ R.locals) (hcs : cells + rm.cells ≤ R.cells) (hss : slots + rm.slots ≤ R.slots) (hws : ∀ x ∈ ws', x ∈ ws ∨ h0.size ≤ x) (hd : decode bytes pc = .ok (.invokestatic i, 3)) (hp : pc' = pc + 3)
    (g : ∀ T' h' v, St p l e R s m args below meth c h0 ws T' h' (cells + rm.cells) (slots + rm.slots) → Keep h h' ws' → Q' v h' → Go p e below s K N h0 ws Q T' (mkF m pc' Ls (v.toList ++ st))) : Go p e below s K N h0 ws Q T (mkF m pc Ls stk) := by
  subst hp; subst hstk; obtain ⟨L0, X, eT, KK, FF⟩ := X
  obtain ⟨v2, _, ⟨T2, L2, c2, n2⟩, -, X2, ⟨Lc2, hq, l2, y2, z2⟩, k2⟩ := Jvm.LawKit.callS X B.1 (y := y) B.2.2.2.2.1 (mvT B.2.1 w1) (mvT B.2.1 w2) (mvT B.2.1 w3) (mvT B.2.1 w4) hy (backOf (W := W) (Q := fun v h' L => Q' v h' ∧ Keep h h' ws' ∧ FrW h ws' L) (M []) B.2.1 w4 w3 hfr hlo) (g := mkF m pc Ls (argsL.reverse ++ st)) rfl (hsz.trans B.2.2.2.1.symm) (argsL := argsL) (rest := st) (lenOf hpd hlen) rfl (by show 2 * 0 + _ ≤ _; rw [Nat.mul_zero, Nat.zero_add]; exact hW) (hb B.2.2.1 hd) (fun _ _ => ⟨rfl, eT, hcs, hss⟩)
  dsimp only [Pt.U, Pt.locs, Pt.cells, Pt.slots] at X2 l2 y2 z2 k2 hq
  subst l2 y2 z2
  refine Go.to k2 (g T2 T2.heap v2 ⟨_, X2, rfl, KK.trans hq.2.1 hws, fun y hy => (List.mem_append.mp hy).elim (FF y) fun q => ?_⟩ hq.2.1 hq.1)
  exact (hq.2.2 y q).elim (fun z => hws _ z) fun z => Or.inr (Nat.le_trans KK.1 z)
theorem gcallI (B : Fix p Z s m meth c bytes maxL own nm ret) (X : St p l e R s m args below meth c h0 ws T h cells slots) {y : MethodName} {bytes' : ByteArray} {maxL' : Nat} {ret' : Option FieldType} {rm : Room} {ws' : List Addr} {Q' : Option Value → Heap → Prop} {stk argsL : List Value} {i W : Nat} {ps : List FieldType} {rr : Option FieldType} {a : Addr} (hni : y.name = "<init>") (hret : ret' = none) (w1 : (Cond.methodLink own i y).before a0 Z = true) (w2 : (Cond.instanceMethod y).before a0 Z = true) (w3 : (Cond.initialized y.cls).before a0 Z = true) (w4 : (Cond.code y bytes' maxL' ret').before a0 Z = true) (hy : y.cls ≠ "java/lang/invoke/MethodHandle" ∧ y.cls ≠ "java/lang/invoke/VarHandle") (M : Meth l Z y bytes' maxL' ret' rm (.ref a :: argsL).toArray h ws' Q') (hpd : parseMethodDescriptor y.desc = some ⟨ps, rr⟩) (hlen : argsL.length = ps.length) (hstk : stk = argsL.reverse ++ .ref a :: st) (hsz : Ls.size = maxL) (hW : (st.map fun v => v.category).sum ≤ W) (hfr : rm.frames + 1 ≤ R.frames) (hlo : W + (maxL' + 11) + rm.locals ≤ R.locals) (hcs : cells + rm.cells ≤ R.cells) (hss : slots + rm.slots ≤ R.slots) (hws : ∀ x ∈ ws', x ∈ ws ∨ h0.size ≤ x) (hd : decode bytes pc = .ok (.invokespecial i, 3)) (hp : pc' = pc + 3)
    (g : ∀ T' h' v, St p l e R s m args below meth c h0 ws T' h' (cells + rm.cells) (slots + rm.slots) → Keep h h' ws' → Q' v h' → Go p e below s K N h0 ws Q T' (mkF m pc' Ls (v.toList ++ st))) : Go p e below s K N h0 ws Q T (mkF m pc Ls stk) := by
  subst hp; subst hstk; obtain ⟨L0, X, eT, KK, FF⟩ := X
  subst hret
  obtain ⟨v2, _, ⟨T2, L2, c2, n2⟩, -, X2, ⟨Lc2, hq, l2, y2, z2⟩, k2⟩ := X.specialBack B.1 (y := y) hni B.2.2.2.2.1 (mvT B.2.1 w1) (mvT B.2.1 w2) (mvT B.2.1 w4) hy (backOf (W := W) (Q := fun v h' L => Q' v h' ∧ Keep h h' ws' ∧ FrW h ws' L) (M []) B.2.1 w4 w3 hfr hlo) (g := mkF m pc Ls (argsL.reverse ++ .ref a :: st)) rfl (hsz.trans B.2.2.2.1.symm) (Steps.refl _) (a := a) (argsL := argsL) (rest := st) (lenOf hpd hlen) rfl (by show 2 * 0 + _ ≤ _; rw [Nat.mul_zero, Nat.zero_add]; exact hW) (hb B.2.2.1 hd) (fun _ _ => ⟨rfl, eT, hcs, hss⟩)
  dsimp only [Pt.U, Pt.locs, Pt.cells, Pt.slots] at X2 l2 y2 z2 k2 hq
  subst l2 y2 z2
  refine Go.to (fun t kt => k2.trans kt) (g T2 T2.heap v2 ⟨_, X2, rfl, KK.trans hq.2.1 hws, fun y hy => (List.mem_append.mp hy).elim (FF y) fun q => ?_⟩ hq.2.1 hq.1)
  exact (hq.2.2 y q).elim (fun z => hws _ z) fun z => Or.inr (Nat.le_trans KK.1 z)
theorem gcallV (B : Fix p Z s m meth c bytes maxL own nm ret) (X : St p l e R s m args below meth c h0 ws T h cells slots) {y : MethodName} {bytes' : ByteArray} {maxL' : Nat} {ret' : Option FieldType} {rm : Room} {ws' : List Addr} {Q' : Option Value → Heap → Prop} {stk argsL : List Value} {i W : Nat} {ps : List FieldType} {rr : Option FieldType} {a : Addr} {z : MethodName} {C : String} (E : Exa Z h a C) (w1 : (Cond.methodLink own i y).before a0 Z = true) (w2 : (Cond.declares y).before a0 Z = true) (w5 : (Cond.selects C y z).before a0 Z = true) (w6 : (Cond.instanceMethod z).before a0 Z = true) (w3 : (Cond.initialized z.cls).before a0 Z = true) (w4 : (Cond.code z bytes' maxL' ret').before a0 Z = true) (hyz : y = z) (hy : y.cls ≠ "java/lang/invoke/MethodHandle" ∧ y.cls ≠ "java/lang/invoke/VarHandle") (M : Meth l Z z bytes' maxL' ret' rm (.ref a :: argsL).toArray h ws' Q') (hpd : parseMethodDescriptor y.desc = some ⟨ps, rr⟩) (hlen : argsL.length = ps.length) (hstk : stk = argsL.reverse ++ .ref a :: st) (hsz : Ls.size = maxL) (hW : (st.map fun v => v.category).sum ≤ W) (hfr : rm.frames + 1 ≤ R.frames) (hlo : W + (maxL' + 11) + rm.locals ≤ R.locals) (hcs : cells + rm.cells ≤ R.cells) (hss : slots + rm.slots ≤ R.slots) (hws : ∀ x ∈ ws', x ∈ ws ∨ h0.size ≤ x) (hd : decode bytes pc = .ok (.invokevirtual i, 3)) (hp : pc' = pc + 3)
    (g : ∀ T' h' v, St p l e R s m args below meth c h0 ws T' h' (cells + rm.cells) (slots + rm.slots) → Keep h h' ws' → Q' v h' → Go p e below s K N h0 ws Q T' (mkF m pc' Ls (v.toList ++ st))) : Go p e below s K N h0 ws Q T (mkF m pc Ls stk) := by
  subst hp; subst hstk; obtain ⟨L0, X, eT, KK, FF⟩ := X
  subst hyz
  obtain ⟨cq, kq, qa, qb, qc⟩ := isOf B.2.1 eT E
  obtain ⟨v2, _, ⟨T2, L2, c2, n2⟩, -, X2, ⟨Lc2, hq, l2, y2, z2⟩, k2⟩ := X.virtualBack B.1 (y := y) (z := y) B.2.2.2.2.1 (mvT B.2.1 w1) (mvT B.2.1 w2) (notFace_of_selects (args := #[]) (mvT B.2.1 w5)) (mvT B.2.1 w5) (mvT B.2.1 w6) hy (backOf (W := W) (Q := fun v h' L => Q' v h' ∧ Keep h h' ws' ∧ FrW h ws' L) (M []) B.2.1 w4 w3 hfr hlo) qa qc (g := mkF m pc Ls (argsL.reverse ++ .ref a :: st)) rfl (hsz.trans B.2.2.2.1.symm) (Steps.refl _) (argsL := argsL) (rest := st) (lenOf hpd hlen) rfl (by show 2 * 0 + _ ≤ _; rw [Nat.mul_zero, Nat.zero_add]; exact hW) (hb B.2.2.1 hd) (fun _ _ => ⟨rfl, eT, hcs, hss⟩)
  dsimp only [Pt.U, Pt.locs, Pt.cells, Pt.slots] at X2 l2 y2 z2 k2 hq
  subst l2 y2 z2
  refine Go.to (fun t kt => k2.trans kt) (g T2 T2.heap v2 ⟨_, X2, rfl, KK.trans hq.2.1 hws, fun y hy => (List.mem_append.mp hy).elim (FF y) fun q => ?_⟩ hq.2.1 hq.1)
  exact (hq.2.2 y q).elim (fun z => hws _ z) fun z => Or.inr (Nat.le_trans KK.1 z)
theorem gcallP (B : Fix p Z s m meth c bytes maxL own nm ret) (X : St p l e R s m args below meth c h0 ws T h cells slots) {y : MethodName} {bytes' : ByteArray} {maxL' : Nat} {ret' : Option FieldType} {rm : Room} {ws' : List Addr} {Q' : Option Value → Heap → Prop} {stk argsL : List Value} {i W : Nat} {ps : List FieldType} {rr : Option FieldType} {a : Addr} {C : String} (E : Exa Z h a C) (w1 : (Cond.methodLink own i y).before a0 Z = true) (w2 : (Cond.instanceMethod y).before a0 Z = true) (w5 : (Cond.selects y.cls y y).before a0 Z = true) (w6 : (Cond.privateMethod y).before a0 Z = true) (w3 : (Cond.initialized y.cls).before a0 Z = true) (w4 : (Cond.code y bytes' maxL' ret').before a0 Z = true) (hy : y.cls ≠ "java/lang/invoke/MethodHandle" ∧ y.cls ≠ "java/lang/invoke/VarHandle") (M : Meth l Z y bytes' maxL' ret' rm (.ref a :: argsL).toArray h ws' Q') (hpd : parseMethodDescriptor y.desc = some ⟨ps, rr⟩) (hlen : argsL.length = ps.length) (hstk : stk = argsL.reverse ++ .ref a :: st) (hsz : Ls.size = maxL) (hW : (st.map fun v => v.category).sum ≤ W) (hfr : rm.frames + 1 ≤ R.frames) (hlo : W + (maxL' + 11) + rm.locals ≤ R.locals) (hcs : cells + rm.cells ≤ R.cells) (hss : slots + rm.slots ≤ R.slots) (hws : ∀ x ∈ ws', x ∈ ws ∨ h0.size ≤ x) (hd : decode bytes pc = .ok (.invokevirtual i, 3)) (hp : pc' = pc + 3)
    (g : ∀ T' h' v, St p l e R s m args below meth c h0 ws T' h' (cells + rm.cells) (slots + rm.slots) → Keep h h' ws' → Q' v h' → Go p e below s K N h0 ws Q T' (mkF m pc' Ls (v.toList ++ st))) : Go p e below s K N h0 ws Q T (mkF m pc Ls stk) := by
  subst hp; subst hstk; obtain ⟨L0, X, eT, KK, FF⟩ := X
  obtain ⟨cq, q, q'⟩ := E.cell
  obtain ⟨v2, _, ⟨T2, L2, c2, n2⟩, -, X2, ⟨Lc2, hq, l2, y2, z2⟩, k2⟩ := X.privateBack B.1 (y := y) B.2.2.2.2.1 (mvT B.2.1 w1) (mvT B.2.1 w2) (mvT B.2.1 w5) (Cond.privateMethod_at (mvP B.2.1 w6 (args := #[]))) (mvT B.2.1 w4) hy (backOf (W := W) (Q := fun v h' L => Q' v h' ∧ Keep h h' ws' ∧ FrW h ws' L) (M []) B.2.1 w4 w3 hfr hlo) (g := mkF m pc Ls (argsL.reverse ++ .ref a :: st)) rfl (hsz.trans B.2.2.2.1.symm) (Steps.refl _) (a := a) (by rw [eT]; exact q) q' (argsL := argsL) (rest := st) (lenOf hpd hlen) rfl (by show 2 * 0 + _ ≤ _; rw [Nat.mul_zero, Nat.zero_add]; exact hW) (hb B.2.2.1 hd) (fun _ _ => ⟨rfl, eT, hcs, hss⟩)
  dsimp only [Pt.U, Pt.locs, Pt.cells, Pt.slots] at X2 l2 y2 z2 k2 hq
  subst l2 y2 z2
  refine Go.to (fun t kt => k2.trans kt) (g T2 T2.heap v2 ⟨_, X2, rfl, KK.trans hq.2.1 hws, fun y hy => (List.mem_append.mp hy).elim (FF y) fun q => ?_⟩ hq.2.1 hq.1)
  exact (hq.2.2 y q).elim (fun z => hws _ z) fun z => Or.inr (Nat.le_trans KK.1 z)
theorem pureG {rm : Room} {r : Value} {ws' : List Addr} (hc : rm.cells = 0) (hs : rm.slots = 0) (g : ∀ T', St p l e R s m args below meth c h0 ws T' h cells slots → Go p e below s K N h0 ws Q T' (mkF m pc' Ls (r :: st))) : ∀ T' h' v, St p l e R s m args below meth c h0 ws T' h' (cells + rm.cells) (slots + rm.slots) → Keep h h' ws' → (v = some r ∧ h' = h) → Go p e below s K N h0 ws Q T' (mkF m pc' Ls (v.toList ++ st)) := by
  rintro T' h' v X k ⟨rfl, rfl⟩
  rw [hc, hs] at X; exact g T' X
theorem pureV {rm : Room} {ws' : List Addr} (hc : rm.cells = 0) (hs : rm.slots = 0) (g : ∀ T', St p l e R s m args below meth c h0 ws T' h cells slots → Go p e below s K N h0 ws Q T' (mkF m pc' Ls st)) : ∀ T' h' v, St p l e R s m args below meth c h0 ws T' h' (cells + rm.cells) (slots + rm.slots) → Keep h h' ws' → (v = none ∧ h' = h) → Go p e below s K N h0 ws Q T' (mkF m pc' Ls (v.toList ++ st)) := by
  rintro T' h' v X k ⟨rfl, rfl⟩
  rw [hc, hs] at X; exact g T' X
theorem joinG {α : Type} (B : Fix p Z s m meth c bytes maxL own nm ret) (X : St p l e R s m args below meth c h0 ws T h cells slots) {F : α → JFrame} {r : α} {f : JFrame} (b : (∀ T', St p l e R s m args below meth c h0 ws T' h cells slots → Go p e below s K N h0 ws Q T' (F r)) → Go p e below s K N h0 ws Q T f) (k : ∀ T', St p l e R s m args below meth c h0 ws T' h cells slots → Go p e below s K N h0 ws Q T' (F r)) : Go p e below s K N h0 ws Q T f := b k
theorem nbb (x : Int32) : x.toInt8.toInt32.toInt8.toInt32 = x.toInt8.toInt32 := by simp
theorem nb (x : Int32) : nar .byte x.toInt8.toInt32 = x.toInt8.toInt32 := by simp [nar]
theorem retI (X : Stand p l e R s m args below meth c T locs cells slots) (hx : p.tables.exec = Jvm.exec) {z : Int32} {rest : List Value} (hret : meth.sig.returnType = some .int) (hd : decode c.code pc = .ok (.ireturn, 1)) {fs : List Frame}
    (hl : ∀ (f : JFrame) (acts : List Action), f.method = m → f.locked = none → f.entered = [] → (doReturn e (T.setTop f) acts (some (.int z))).1 = T.setFrames fs) : Steps p.tables e below (T.setTop (mkF m pc Ls (.int z :: rest))) (T.setFrames fs) := by
  have hm' : T.vm.method? m = some meth := X.method'
  have hn : narrow .int (.int z) = .int z := rfl
  show Steps p.tables e below (T.setTop { method := m, pc := pc, locals := Ls, stack := _ :: rest, locked := none }) _
  jvm_step X.here [X.here.top, hx, hd, hm', hret, hn]
  first | (intro acts; rw [hl _ acts rfl rfl rfl]) | rw [hl _ _ rfl rfl rfl]
  exact Steps.refl _
theorem gretI (B : Fix p Z s m meth c bytes maxL own nm (some .int)) (X : St p l e R s m args below meth c h0 ws T h cells slots) {z : Int32} (hd : decode bytes pc = .ok (.ireturn, 1)) (hk : cells ≤ K) (hn : slots ≤ N) (hQ : Q (some (.int z)) h) : Go p e below s K N h0 ws Q T (mkF m pc Ls (.int z :: st)) := by
  obtain ⟨L0, X, eT, KK, FF⟩ := X; have hlk := B.2.2.2.2.2.2.2; have hrt := B.2.2.2.2.2.2.1
  obtain ⟨fs, hr, hrun, hended, hW, hsame⟩ := X.leave (v := some (.int z)) (fun h => by rw [hrt] at h; cases h) hlk
  exact ⟨_, _, retI X B.1 hrt (hb B.2.2.1 hd) hr, hrun, hended, _, _, rfl, ⟨by show Q _ T.heap; rw [eT]; exact hQ, by show Keep h0 T.heap ws; rw [eT]; exact KK, FF⟩, ⟨_, rfl⟩, hW, hsame.mono hk hn⟩
theorem gretN {t : FieldType} (B : Fix p Z s m meth c bytes maxL own nm (some t)) (X : St p l e R s m args below meth c h0 ws T h cells slots) {z z' : Int32} (ht : t = .boolean ∨ t = .byte ∨ t = .char ∨ t = .short) (hz : nar t z = z') (hd : decode bytes pc = .ok (.ireturn, 1)) (hk : cells ≤ K) (hn : slots ≤ N) (hQ : Q (some (.int z')) h) : Go p e below s K N h0 ws Q T (mkF m pc Ls (.int z :: st)) := by
  subst hz; obtain ⟨L0, X, eT, KK, FF⟩ := X; have hlk := B.2.2.2.2.2.2.2; have hrt := B.2.2.2.2.2.2.1
  obtain ⟨fs, hr, hrun, hended, hW, hsame⟩ := X.leave (v := some (.int (nar t z))) (fun h => by rw [hrt] at h; cases h) hlk
  exact ⟨_, _, retN X B.1 hrt ht (hb B.2.2.1 hd) hr, hrun, hended, _, _, rfl, ⟨by show Q _ T.heap; rw [eT]; exact hQ, by show Keep h0 T.heap ws; rw [eT]; exact KK, FF⟩, ⟨_, rfl⟩, hW, hsame.mono hk hn⟩
theorem gretL (B : Fix p Z s m meth c bytes maxL own nm (some .long)) (X : St p l e R s m args below meth c h0 ws T h cells slots) {z : Int64} (hd : decode bytes pc = .ok (.lreturn, 1)) (hk : cells ≤ K) (hn : slots ≤ N) (hQ : Q (some (.long z)) h) : Go p e below s K N h0 ws Q T (mkF m pc Ls (.long z :: st)) := by
  obtain ⟨L0, X, eT, KK, FF⟩ := X; have hlk := B.2.2.2.2.2.2.2; have hrt := B.2.2.2.2.2.2.1
  obtain ⟨fs, hr, hrun, hended, hW, hsame⟩ := X.leave (v := some (.long z)) (fun h => by rw [hrt] at h; cases h) hlk
  exact ⟨_, _, retOut X B.1 hrt rfl (Or.inr (Or.inl ⟨rfl, rfl, _, rfl⟩)) (hb B.2.2.1 hd) hr, hrun, hended, _, _, rfl, ⟨by show Q _ T.heap; rw [eT]; exact hQ, by show Keep h0 T.heap ws; rw [eT]; exact KK, FF⟩, ⟨_, rfl⟩, hW, hsame.mono hk hn⟩
theorem gretA {t : FieldType} (B : Fix p Z s m meth c bytes maxL own nm (some t)) (X : St p l e R s m args below meth c h0 ws T h cells slots) {a : Addr} (ht : t.isReference = true) (hnn : narrow t (.ref a) = .ref a) (hd : decode bytes pc = .ok (.areturn, 1)) (hk : cells ≤ K) (hn : slots ≤ N) (hQ : Q (some (.ref a)) h) : Go p e below s K N h0 ws Q T (mkF m pc Ls (.ref a :: st)) := by
  obtain ⟨L0, X, eT, KK, FF⟩ := X; have hlk := B.2.2.2.2.2.2.2; have hrt := B.2.2.2.2.2.2.1
  obtain ⟨fs, hr, hrun, hended, hW, hsame⟩ := X.leave (v := some (.ref a)) (fun h => by rw [hrt] at h; cases h) hlk
  exact ⟨_, _, retOut X B.1 hrt hnn (Or.inr (Or.inr (Or.inr (Or.inr ⟨rfl, ht, rfl⟩)))) (hb B.2.2.1 hd) hr, hrun, hended, _, _, rfl, ⟨by show Q _ T.heap; rw [eT]; exact hQ, by show Keep h0 T.heap ws; rw [eT]; exact KK, FF⟩, ⟨_, rfl⟩, hW, hsame.mono hk hn⟩
theorem gretV (B : Fix p Z s m meth c bytes maxL own nm none) (X : St p l e R s m args below meth c h0 ws T h cells slots)  (hd : decode bytes pc = .ok (.return_, 1)) (hk : cells ≤ K) (hn : slots ≤ N) (hQ : Q (none) h) : Go p e below s K N h0 ws Q T (mkF m pc Ls []) := by
  obtain ⟨L0, X, eT, KK, FF⟩ := X; have hlk := B.2.2.2.2.2.2.2; have hrt := B.2.2.2.2.2.2.1
  obtain ⟨fs, hr, hrun, hended, hW, hsame⟩ := X.leave (v := none) (fun h => rfl) hlk
  exact ⟨_, _, X.returnOut B.1 hrt (hb B.2.2.1 hd) hr, hrun, hended, _, _, rfl, ⟨by show Q _ T.heap; rw [eT]; exact hQ, by show Keep h0 T.heap ws; rw [eT]; exact KK, FF⟩, ⟨_, rfl⟩, hW, hsame.mono hk hn⟩
end Go
end Jvm.OwnKit
namespace Jvm.Pilot.@@N@@
open Jvm Jvm.ClassFile Sem Op Lib Jvm.Free Jvm.Stand Jvm.LawKit Jvm.RoadKit Jvm.OwnKit Bundle Jvm.Pilot.@@N@@.Jvm.D
def Pc (Z : State) (h : Heap) (a : Addr) (v0 v1 v2 v3 v4 v5 v6 v7 : Value) : Prop := Exa Z h a "com/example/api_policy_gateway/apipolicygateway/policy/Pace" ∧ Fld Z h a "com/example/api_policy_gateway/apipolicygateway/policy/Pace" "rate" "J" v0 ∧ Fld Z h a "com/example/api_policy_gateway/apipolicygateway/policy/Pace" "intervalNanos" "J" v1 ∧ Fld Z h a "com/example/api_policy_gateway/apipolicygateway/policy/Pace" "intervalPart" "J" v2 ∧ Fld Z h a "com/example/api_policy_gateway/apipolicygateway/policy/Pace" "toleranceNanos" "J" v3 ∧ Fld Z h a "com/example/api_policy_gateway/apipolicygateway/policy/Pace" "tolerancePart" "J" v4 ∧ Fld Z h a "com/example/api_policy_gateway/apipolicygateway/policy/Pace" "maxWaitNanos" "J" v5 ∧ Fld Z h a "com/example/api_policy_gateway/apipolicygateway/policy/Pace" "nextNanos" "J" v6 ∧ Fld Z h a "com/example/api_policy_gateway/apipolicygateway/policy/Pace" "nextPart" "J" v7
theorem Pc.lt {Z : State} {h h' : Heap} {a : Addr} {v0 v1 v2 v3 v4 v5 v6 v7 : Value} (F : Pc Z h a v0 v1 v2 v3 v4 v5 v6 v7) : a < h.size := F.1.lt
theorem Pc.ext {Z : State} {h h' : Heap} {a : Addr} {v0 v1 v2 v3 v4 v5 v6 v7 : Value} (F : Pc Z h a v0 v1 v2 v3 v4 v5 v6 v7) (E0 : Ext h h') : Pc Z h' a v0 v1 v2 v3 v4 v5 v6 v7 := by obtain ⟨E, f0, f1, f2, f3, f4, f5, f6, f7⟩ := F; exact ⟨E.ext E0, f0.ext E0, f1.ext E0, f2.ext E0, f3.ext E0, f4.ext E0, f5.ext E0, f6.ext E0, f7.ext E0⟩
theorem Pc.keep {Z : State} {h h' : Heap} {a : Addr} {v0 v1 v2 v3 v4 v5 v6 v7 : Value} {ws : List Addr} (F : Pc Z h a v0 v1 v2 v3 v4 v5 v6 v7) (K : Keep h h' ws) (q : a ∉ ws) : Pc Z h' a v0 v1 v2 v3 v4 v5 v6 v7 := by obtain ⟨E, f0, f1, f2, f3, f4, f5, f6, f7⟩ := F; exact ⟨E.keep K, f0.keep K q, f1.keep K q, f2.keep K q, f3.keep K q, f4.keep K q, f5.keep K q, f6.keep K q, f7.keep K q⟩
theorem Pc.other {Z : State} {h h' : Heap} {a : Addr} {v0 v1 v2 v3 v4 v5 v6 v7 : Value} {b : Addr} {v : Value} {sl : Nat} (F : Pc Z h b v0 v1 v2 v3 v4 v5 v6 v7) (W : Wr h h' a sl v) (q : b ≠ a) : Pc Z h' b v0 v1 v2 v3 v4 v5 v6 v7 := by obtain ⟨E, f0, f1, f2, f3, f4, f5, f6, f7⟩ := F; exact ⟨E.wr W, f0.other W (Or.inl q), f1.other W (Or.inl q), f2.other W (Or.inl q), f3.other W (Or.inl q), f4.other W (Or.inl q), f5.other W (Or.inl q), f6.other W (Or.inl q), f7.other W (Or.inl q)⟩
theorem Pc.set0 {Z : State} {h h' : Heap} {a : Addr} {v0 v1 v2 v3 v4 v5 v6 v7 : Value} {v : Value} {a0 : Array Value} (hw : ∀ d ∈ tables_1, d.before a0 Z = true) (F : Pc Z h a v0 v1 v2 v3 v4 v5 v6 v7) (W : Wr h h' a (Jvm.RoadKit.slotOf Z "com/example/api_policy_gateway/apipolicygateway/policy/Pace" "rate" "J") v) : Pc Z h' a v v1 v2 v3 v4 v5 v6 v7 := by obtain ⟨E, f0, f1, f2, f3, f4, f5, f6, f7⟩ := F; exact ⟨E.wr W, f0.same W, f1.other W (Or.inr (slot_ne (Or.inr (hw _ (List.mem_of_getElem? (i := 19) rfl))) (Or.inr (hw _ (List.mem_of_getElem? (i := 17) rfl))) (by decide) (t := .long) (t' := .long) (by decide) (by decide))), f2.other W (Or.inr (slot_ne (Or.inr (hw _ (List.mem_of_getElem? (i := 21) rfl))) (Or.inr (hw _ (List.mem_of_getElem? (i := 17) rfl))) (by decide) (t := .long) (t' := .long) (by decide) (by decide))), f3.other W (Or.inr (slot_ne (Or.inr (hw _ (List.mem_of_getElem? (i := 32) rfl))) (Or.inr (hw _ (List.mem_of_getElem? (i := 17) rfl))) (by decide) (t := .long) (t' := .long) (by decide) (by decide))), f4.other W (Or.inr (slot_ne (Or.inr (hw _ (List.mem_of_getElem? (i := 34) rfl))) (Or.inr (hw _ (List.mem_of_getElem? (i := 17) rfl))) (by decide) (t := .long) (t' := .long) (by decide) (by decide))), f5.other W (Or.inr (slot_ne (Or.inr (hw _ (List.mem_of_getElem? (i := 36) rfl))) (Or.inr (hw _ (List.mem_of_getElem? (i := 17) rfl))) (by decide) (t := .long) (t' := .long) (by decide) (by decide))), f6.other W (Or.inr (slot_ne (Or.inl (hw _ (List.mem_of_getElem? (i := 38) rfl))) (Or.inr (hw _ (List.mem_of_getElem? (i := 17) rfl))) (by decide) (t := .long) (t' := .long) (by decide) (by decide))), f7.other W (Or.inr (slot_ne (Or.inl (hw _ (List.mem_of_getElem? (i := 45) rfl))) (Or.inr (hw _ (List.mem_of_getElem? (i := 17) rfl))) (by decide) (t := .long) (t' := .long) (by decide) (by decide)))⟩
theorem Pc.set1 {Z : State} {h h' : Heap} {a : Addr} {v0 v1 v2 v3 v4 v5 v6 v7 : Value} {v : Value} {a0 : Array Value} (hw : ∀ d ∈ tables_1, d.before a0 Z = true) (F : Pc Z h a v0 v1 v2 v3 v4 v5 v6 v7) (W : Wr h h' a (Jvm.RoadKit.slotOf Z "com/example/api_policy_gateway/apipolicygateway/policy/Pace" "intervalNanos" "J") v) : Pc Z h' a v0 v v2 v3 v4 v5 v6 v7 := by obtain ⟨E, f0, f1, f2, f3, f4, f5, f6, f7⟩ := F; exact ⟨E.wr W, f0.other W (Or.inr (slot_ne (Or.inr (hw _ (List.mem_of_getElem? (i := 17) rfl))) (Or.inr (hw _ (List.mem_of_getElem? (i := 19) rfl))) (by decide) (t := .long) (t' := .long) (by decide) (by decide))), f1.same W, f2.other W (Or.inr (slot_ne (Or.inr (hw _ (List.mem_of_getElem? (i := 21) rfl))) (Or.inr (hw _ (List.mem_of_getElem? (i := 19) rfl))) (by decide) (t := .long) (t' := .long) (by decide) (by decide))), f3.other W (Or.inr (slot_ne (Or.inr (hw _ (List.mem_of_getElem? (i := 32) rfl))) (Or.inr (hw _ (List.mem_of_getElem? (i := 19) rfl))) (by decide) (t := .long) (t' := .long) (by decide) (by decide))), f4.other W (Or.inr (slot_ne (Or.inr (hw _ (List.mem_of_getElem? (i := 34) rfl))) (Or.inr (hw _ (List.mem_of_getElem? (i := 19) rfl))) (by decide) (t := .long) (t' := .long) (by decide) (by decide))), f5.other W (Or.inr (slot_ne (Or.inr (hw _ (List.mem_of_getElem? (i := 36) rfl))) (Or.inr (hw _ (List.mem_of_getElem? (i := 19) rfl))) (by decide) (t := .long) (t' := .long) (by decide) (by decide))), f6.other W (Or.inr (slot_ne (Or.inl (hw _ (List.mem_of_getElem? (i := 38) rfl))) (Or.inr (hw _ (List.mem_of_getElem? (i := 19) rfl))) (by decide) (t := .long) (t' := .long) (by decide) (by decide))), f7.other W (Or.inr (slot_ne (Or.inl (hw _ (List.mem_of_getElem? (i := 45) rfl))) (Or.inr (hw _ (List.mem_of_getElem? (i := 19) rfl))) (by decide) (t := .long) (t' := .long) (by decide) (by decide)))⟩
theorem Pc.set2 {Z : State} {h h' : Heap} {a : Addr} {v0 v1 v2 v3 v4 v5 v6 v7 : Value} {v : Value} {a0 : Array Value} (hw : ∀ d ∈ tables_1, d.before a0 Z = true) (F : Pc Z h a v0 v1 v2 v3 v4 v5 v6 v7) (W : Wr h h' a (Jvm.RoadKit.slotOf Z "com/example/api_policy_gateway/apipolicygateway/policy/Pace" "intervalPart" "J") v) : Pc Z h' a v0 v1 v v3 v4 v5 v6 v7 := by obtain ⟨E, f0, f1, f2, f3, f4, f5, f6, f7⟩ := F; exact ⟨E.wr W, f0.other W (Or.inr (slot_ne (Or.inr (hw _ (List.mem_of_getElem? (i := 17) rfl))) (Or.inr (hw _ (List.mem_of_getElem? (i := 21) rfl))) (by decide) (t := .long) (t' := .long) (by decide) (by decide))), f1.other W (Or.inr (slot_ne (Or.inr (hw _ (List.mem_of_getElem? (i := 19) rfl))) (Or.inr (hw _ (List.mem_of_getElem? (i := 21) rfl))) (by decide) (t := .long) (t' := .long) (by decide) (by decide))), f2.same W, f3.other W (Or.inr (slot_ne (Or.inr (hw _ (List.mem_of_getElem? (i := 32) rfl))) (Or.inr (hw _ (List.mem_of_getElem? (i := 21) rfl))) (by decide) (t := .long) (t' := .long) (by decide) (by decide))), f4.other W (Or.inr (slot_ne (Or.inr (hw _ (List.mem_of_getElem? (i := 34) rfl))) (Or.inr (hw _ (List.mem_of_getElem? (i := 21) rfl))) (by decide) (t := .long) (t' := .long) (by decide) (by decide))), f5.other W (Or.inr (slot_ne (Or.inr (hw _ (List.mem_of_getElem? (i := 36) rfl))) (Or.inr (hw _ (List.mem_of_getElem? (i := 21) rfl))) (by decide) (t := .long) (t' := .long) (by decide) (by decide))), f6.other W (Or.inr (slot_ne (Or.inl (hw _ (List.mem_of_getElem? (i := 38) rfl))) (Or.inr (hw _ (List.mem_of_getElem? (i := 21) rfl))) (by decide) (t := .long) (t' := .long) (by decide) (by decide))), f7.other W (Or.inr (slot_ne (Or.inl (hw _ (List.mem_of_getElem? (i := 45) rfl))) (Or.inr (hw _ (List.mem_of_getElem? (i := 21) rfl))) (by decide) (t := .long) (t' := .long) (by decide) (by decide)))⟩
theorem Pc.set3 {Z : State} {h h' : Heap} {a : Addr} {v0 v1 v2 v3 v4 v5 v6 v7 : Value} {v : Value} {a0 : Array Value} (hw : ∀ d ∈ tables_1, d.before a0 Z = true) (F : Pc Z h a v0 v1 v2 v3 v4 v5 v6 v7) (W : Wr h h' a (Jvm.RoadKit.slotOf Z "com/example/api_policy_gateway/apipolicygateway/policy/Pace" "toleranceNanos" "J") v) : Pc Z h' a v0 v1 v2 v v4 v5 v6 v7 := by obtain ⟨E, f0, f1, f2, f3, f4, f5, f6, f7⟩ := F; exact ⟨E.wr W, f0.other W (Or.inr (slot_ne (Or.inr (hw _ (List.mem_of_getElem? (i := 17) rfl))) (Or.inr (hw _ (List.mem_of_getElem? (i := 32) rfl))) (by decide) (t := .long) (t' := .long) (by decide) (by decide))), f1.other W (Or.inr (slot_ne (Or.inr (hw _ (List.mem_of_getElem? (i := 19) rfl))) (Or.inr (hw _ (List.mem_of_getElem? (i := 32) rfl))) (by decide) (t := .long) (t' := .long) (by decide) (by decide))), f2.other W (Or.inr (slot_ne (Or.inr (hw _ (List.mem_of_getElem? (i := 21) rfl))) (Or.inr (hw _ (List.mem_of_getElem? (i := 32) rfl))) (by decide) (t := .long) (t' := .long) (by decide) (by decide))), f3.same W, f4.other W (Or.inr (slot_ne (Or.inr (hw _ (List.mem_of_getElem? (i := 34) rfl))) (Or.inr (hw _ (List.mem_of_getElem? (i := 32) rfl))) (by decide) (t := .long) (t' := .long) (by decide) (by decide))), f5.other W (Or.inr (slot_ne (Or.inr (hw _ (List.mem_of_getElem? (i := 36) rfl))) (Or.inr (hw _ (List.mem_of_getElem? (i := 32) rfl))) (by decide) (t := .long) (t' := .long) (by decide) (by decide))), f6.other W (Or.inr (slot_ne (Or.inl (hw _ (List.mem_of_getElem? (i := 38) rfl))) (Or.inr (hw _ (List.mem_of_getElem? (i := 32) rfl))) (by decide) (t := .long) (t' := .long) (by decide) (by decide))), f7.other W (Or.inr (slot_ne (Or.inl (hw _ (List.mem_of_getElem? (i := 45) rfl))) (Or.inr (hw _ (List.mem_of_getElem? (i := 32) rfl))) (by decide) (t := .long) (t' := .long) (by decide) (by decide)))⟩
theorem Pc.set4 {Z : State} {h h' : Heap} {a : Addr} {v0 v1 v2 v3 v4 v5 v6 v7 : Value} {v : Value} {a0 : Array Value} (hw : ∀ d ∈ tables_1, d.before a0 Z = true) (F : Pc Z h a v0 v1 v2 v3 v4 v5 v6 v7) (W : Wr h h' a (Jvm.RoadKit.slotOf Z "com/example/api_policy_gateway/apipolicygateway/policy/Pace" "tolerancePart" "J") v) : Pc Z h' a v0 v1 v2 v3 v v5 v6 v7 := by obtain ⟨E, f0, f1, f2, f3, f4, f5, f6, f7⟩ := F; exact ⟨E.wr W, f0.other W (Or.inr (slot_ne (Or.inr (hw _ (List.mem_of_getElem? (i := 17) rfl))) (Or.inr (hw _ (List.mem_of_getElem? (i := 34) rfl))) (by decide) (t := .long) (t' := .long) (by decide) (by decide))), f1.other W (Or.inr (slot_ne (Or.inr (hw _ (List.mem_of_getElem? (i := 19) rfl))) (Or.inr (hw _ (List.mem_of_getElem? (i := 34) rfl))) (by decide) (t := .long) (t' := .long) (by decide) (by decide))), f2.other W (Or.inr (slot_ne (Or.inr (hw _ (List.mem_of_getElem? (i := 21) rfl))) (Or.inr (hw _ (List.mem_of_getElem? (i := 34) rfl))) (by decide) (t := .long) (t' := .long) (by decide) (by decide))), f3.other W (Or.inr (slot_ne (Or.inr (hw _ (List.mem_of_getElem? (i := 32) rfl))) (Or.inr (hw _ (List.mem_of_getElem? (i := 34) rfl))) (by decide) (t := .long) (t' := .long) (by decide) (by decide))), f4.same W, f5.other W (Or.inr (slot_ne (Or.inr (hw _ (List.mem_of_getElem? (i := 36) rfl))) (Or.inr (hw _ (List.mem_of_getElem? (i := 34) rfl))) (by decide) (t := .long) (t' := .long) (by decide) (by decide))), f6.other W (Or.inr (slot_ne (Or.inl (hw _ (List.mem_of_getElem? (i := 38) rfl))) (Or.inr (hw _ (List.mem_of_getElem? (i := 34) rfl))) (by decide) (t := .long) (t' := .long) (by decide) (by decide))), f7.other W (Or.inr (slot_ne (Or.inl (hw _ (List.mem_of_getElem? (i := 45) rfl))) (Or.inr (hw _ (List.mem_of_getElem? (i := 34) rfl))) (by decide) (t := .long) (t' := .long) (by decide) (by decide)))⟩
theorem Pc.set5 {Z : State} {h h' : Heap} {a : Addr} {v0 v1 v2 v3 v4 v5 v6 v7 : Value} {v : Value} {a0 : Array Value} (hw : ∀ d ∈ tables_1, d.before a0 Z = true) (F : Pc Z h a v0 v1 v2 v3 v4 v5 v6 v7) (W : Wr h h' a (Jvm.RoadKit.slotOf Z "com/example/api_policy_gateway/apipolicygateway/policy/Pace" "maxWaitNanos" "J") v) : Pc Z h' a v0 v1 v2 v3 v4 v v6 v7 := by obtain ⟨E, f0, f1, f2, f3, f4, f5, f6, f7⟩ := F; exact ⟨E.wr W, f0.other W (Or.inr (slot_ne (Or.inr (hw _ (List.mem_of_getElem? (i := 17) rfl))) (Or.inr (hw _ (List.mem_of_getElem? (i := 36) rfl))) (by decide) (t := .long) (t' := .long) (by decide) (by decide))), f1.other W (Or.inr (slot_ne (Or.inr (hw _ (List.mem_of_getElem? (i := 19) rfl))) (Or.inr (hw _ (List.mem_of_getElem? (i := 36) rfl))) (by decide) (t := .long) (t' := .long) (by decide) (by decide))), f2.other W (Or.inr (slot_ne (Or.inr (hw _ (List.mem_of_getElem? (i := 21) rfl))) (Or.inr (hw _ (List.mem_of_getElem? (i := 36) rfl))) (by decide) (t := .long) (t' := .long) (by decide) (by decide))), f3.other W (Or.inr (slot_ne (Or.inr (hw _ (List.mem_of_getElem? (i := 32) rfl))) (Or.inr (hw _ (List.mem_of_getElem? (i := 36) rfl))) (by decide) (t := .long) (t' := .long) (by decide) (by decide))), f4.other W (Or.inr (slot_ne (Or.inr (hw _ (List.mem_of_getElem? (i := 34) rfl))) (Or.inr (hw _ (List.mem_of_getElem? (i := 36) rfl))) (by decide) (t := .long) (t' := .long) (by decide) (by decide))), f5.same W, f6.other W (Or.inr (slot_ne (Or.inl (hw _ (List.mem_of_getElem? (i := 38) rfl))) (Or.inr (hw _ (List.mem_of_getElem? (i := 36) rfl))) (by decide) (t := .long) (t' := .long) (by decide) (by decide))), f7.other W (Or.inr (slot_ne (Or.inl (hw _ (List.mem_of_getElem? (i := 45) rfl))) (Or.inr (hw _ (List.mem_of_getElem? (i := 36) rfl))) (by decide) (t := .long) (t' := .long) (by decide) (by decide)))⟩
theorem Pc.set6 {Z : State} {h h' : Heap} {a : Addr} {v0 v1 v2 v3 v4 v5 v6 v7 : Value} {v : Value} {a0 : Array Value} (hw : ∀ d ∈ tables_1, d.before a0 Z = true) (F : Pc Z h a v0 v1 v2 v3 v4 v5 v6 v7) (W : Wr h h' a (Jvm.RoadKit.slotOf Z "com/example/api_policy_gateway/apipolicygateway/policy/Pace" "nextNanos" "J") v) : Pc Z h' a v0 v1 v2 v3 v4 v5 v v7 := by obtain ⟨E, f0, f1, f2, f3, f4, f5, f6, f7⟩ := F; exact ⟨E.wr W, f0.other W (Or.inr (slot_ne (Or.inr (hw _ (List.mem_of_getElem? (i := 17) rfl))) (Or.inl (hw _ (List.mem_of_getElem? (i := 38) rfl))) (by decide) (t := .long) (t' := .long) (by decide) (by decide))), f1.other W (Or.inr (slot_ne (Or.inr (hw _ (List.mem_of_getElem? (i := 19) rfl))) (Or.inl (hw _ (List.mem_of_getElem? (i := 38) rfl))) (by decide) (t := .long) (t' := .long) (by decide) (by decide))), f2.other W (Or.inr (slot_ne (Or.inr (hw _ (List.mem_of_getElem? (i := 21) rfl))) (Or.inl (hw _ (List.mem_of_getElem? (i := 38) rfl))) (by decide) (t := .long) (t' := .long) (by decide) (by decide))), f3.other W (Or.inr (slot_ne (Or.inr (hw _ (List.mem_of_getElem? (i := 32) rfl))) (Or.inl (hw _ (List.mem_of_getElem? (i := 38) rfl))) (by decide) (t := .long) (t' := .long) (by decide) (by decide))), f4.other W (Or.inr (slot_ne (Or.inr (hw _ (List.mem_of_getElem? (i := 34) rfl))) (Or.inl (hw _ (List.mem_of_getElem? (i := 38) rfl))) (by decide) (t := .long) (t' := .long) (by decide) (by decide))), f5.other W (Or.inr (slot_ne (Or.inr (hw _ (List.mem_of_getElem? (i := 36) rfl))) (Or.inl (hw _ (List.mem_of_getElem? (i := 38) rfl))) (by decide) (t := .long) (t' := .long) (by decide) (by decide))), f6.same W, f7.other W (Or.inr (slot_ne (Or.inl (hw _ (List.mem_of_getElem? (i := 45) rfl))) (Or.inl (hw _ (List.mem_of_getElem? (i := 38) rfl))) (by decide) (t := .long) (t' := .long) (by decide) (by decide)))⟩
theorem Pc.set7 {Z : State} {h h' : Heap} {a : Addr} {v0 v1 v2 v3 v4 v5 v6 v7 : Value} {v : Value} {a0 : Array Value} (hw : ∀ d ∈ tables_1, d.before a0 Z = true) (F : Pc Z h a v0 v1 v2 v3 v4 v5 v6 v7) (W : Wr h h' a (Jvm.RoadKit.slotOf Z "com/example/api_policy_gateway/apipolicygateway/policy/Pace" "nextPart" "J") v) : Pc Z h' a v0 v1 v2 v3 v4 v5 v6 v := by obtain ⟨E, f0, f1, f2, f3, f4, f5, f6, f7⟩ := F; exact ⟨E.wr W, f0.other W (Or.inr (slot_ne (Or.inr (hw _ (List.mem_of_getElem? (i := 17) rfl))) (Or.inl (hw _ (List.mem_of_getElem? (i := 45) rfl))) (by decide) (t := .long) (t' := .long) (by decide) (by decide))), f1.other W (Or.inr (slot_ne (Or.inr (hw _ (List.mem_of_getElem? (i := 19) rfl))) (Or.inl (hw _ (List.mem_of_getElem? (i := 45) rfl))) (by decide) (t := .long) (t' := .long) (by decide) (by decide))), f2.other W (Or.inr (slot_ne (Or.inr (hw _ (List.mem_of_getElem? (i := 21) rfl))) (Or.inl (hw _ (List.mem_of_getElem? (i := 45) rfl))) (by decide) (t := .long) (t' := .long) (by decide) (by decide))), f3.other W (Or.inr (slot_ne (Or.inr (hw _ (List.mem_of_getElem? (i := 32) rfl))) (Or.inl (hw _ (List.mem_of_getElem? (i := 45) rfl))) (by decide) (t := .long) (t' := .long) (by decide) (by decide))), f4.other W (Or.inr (slot_ne (Or.inr (hw _ (List.mem_of_getElem? (i := 34) rfl))) (Or.inl (hw _ (List.mem_of_getElem? (i := 45) rfl))) (by decide) (t := .long) (t' := .long) (by decide) (by decide))), f5.other W (Or.inr (slot_ne (Or.inr (hw _ (List.mem_of_getElem? (i := 36) rfl))) (Or.inl (hw _ (List.mem_of_getElem? (i := 45) rfl))) (by decide) (t := .long) (t' := .long) (by decide) (by decide))), f6.other W (Or.inr (slot_ne (Or.inl (hw _ (List.mem_of_getElem? (i := 38) rfl))) (Or.inl (hw _ (List.mem_of_getElem? (i := 45) rfl))) (by decide) (t := .long) (t' := .long) (by decide) (by decide))), f7.same W⟩
theorem d1_0 : decode jdk_29_method_65_code 0 = .ok (.iload_n 0, 1) := by decide +kernel
theorem d1_1 : decode jdk_29_method_65_code 1 = .ok (.iload_n 1, 1) := by decide +kernel
theorem d1_2 : decode jdk_29_method_65_code 2 = .ok (.if_icmp .lt 7, 3) := by decide +kernel
theorem d1_5 : decode jdk_29_method_65_code 5 = .ok (.iload_n 0, 1) := by decide +kernel
theorem d1_6 : decode jdk_29_method_65_code 6 = .ok (.goto 4, 3) := by decide +kernel
theorem d1_9 : decode jdk_29_method_65_code 9 = .ok (.iload_n 1, 1) := by decide +kernel
theorem d1_10 : decode jdk_29_method_65_code 10 = .ok (.ireturn, 1) := by decide +kernel
theorem ef1_II (m : MethodId) (x0 : Int32) (x1 : Int32) : entryFrame m #[(.int x0), (.int x1)] 2 = mkF m 0 #[.val (.int x0), .val (.int x1)] [] := by first | (simp [entryFrame, mkF, argsToLocals, Value.category]; done) | rfl
def fmax (x : Int32) (y : Int32) : Int32 := if x < y then y else (x)
def rmr1 : Room := { frames := 0, cells := 0, slots := 0, locals := 0 }
set_option maxRecDepth 65536 in
set_option maxHeartbeats 4000000 in
theorem mtmax (l : Launch) (Z : State) (a0 : Array Value) (hw : ∀ d ∈ tables_1, d.before a0 Z = true) (x : Int32) (y : Int32)  (h0 : Heap) : Meth l Z (⟨"java/lang/Math", "max", "(II)I"⟩ : MethodName) jdk_29_method_65_code 2 (some .int) rmr1 #[(.int x), (.int y)] h0 [] (fun vr h' => vr = some (.int (fmax x y)) ∧ h' = h0) := by
  refine Meth.of (Jvm.Free.JP.mathPlain rfl (by decide +kernel)) ?_
  intro p e s m below meth c T B X
  refine Go.entry (ef1_II m x y) ?_
  refine giloadN B X d1_0 rfl (pc' := 1) rfl ?_
  refine giloadN B X d1_1 rfl (pc' := 2) rfl ?_
  by_cases c2_1 : x < y
  · refine gicY B X (pc' := 9) d1_2 (tlt c2_1).1 (by decide) ?_
    refine giloadN B X d1_9 rfl (pc' := 10) rfl ?_
    exact gretI B X d1_10 (by decide) (by decide) (⟨by rw [fmax, if_pos c2_1], rfl⟩)
  · refine gicN B X d1_2 (flt c2_1).1 (pc' := 5) rfl ?_
    refine giloadN B X d1_5 rfl (pc' := 6) rfl ?_
    refine ggoto B X (pc' := 10) d1_6 (by decide) ?_
    exact gretI B X d1_10 (by decide) (by decide) (⟨by rw [fmax, if_neg c2_1], rfl⟩)
theorem d8_0 : decode jdk_29_method_66_code 0 = .ok (.lload_n 0, 1) := by decide +kernel
theorem d8_1 : decode jdk_29_method_66_code 1 = .ok (.lload_n 2, 1) := by decide +kernel
theorem d8_2 : decode jdk_29_method_66_code 2 = .ok (.lcmp, 1) := by decide +kernel
theorem d8_3 : decode jdk_29_method_66_code 3 = .ok (.ifCond .lt 7, 3) := by decide +kernel
theorem d8_6 : decode jdk_29_method_66_code 6 = .ok (.lload_n 0, 1) := by decide +kernel
theorem d8_7 : decode jdk_29_method_66_code 7 = .ok (.goto 4, 3) := by decide +kernel
theorem d8_10 : decode jdk_29_method_66_code 10 = .ok (.lload_n 2, 1) := by decide +kernel
theorem d8_11 : decode jdk_29_method_66_code 11 = .ok (.lreturn, 1) := by decide +kernel
theorem ef8_JJ (m : MethodId) (x0 : Int64) (x1 : Int64) : entryFrame m #[(.long x0), (.long x1)] 4 = mkF m 0 #[.val (.long x0), .second, .val (.long x1), .second] [] := by first | (simp [entryFrame, mkF, argsToLocals, Value.category]; done) | rfl
def fmaxL (x : Int64) (y : Int64) : Int64 := if x < y then y else (x)
def rmr8 : Room := { frames := 0, cells := 0, slots := 0, locals := 0 }
set_option maxRecDepth 65536 in
set_option maxHeartbeats 4000000 in
theorem mtmaxL (l : Launch) (Z : State) (a0 : Array Value) (hw : ∀ d ∈ tables_1, d.before a0 Z = true) (x : Int64) (y : Int64)  (h0 : Heap) : Meth l Z (⟨"java/lang/Math", "max", "(JJ)J"⟩ : MethodName) jdk_29_method_66_code 4 (some .long) rmr8 #[(.long x), (.long y)] h0 [] (fun vr h' => vr = some (.long (fmaxL x y)) ∧ h' = h0) := by
  refine Meth.of (Jvm.Free.JP.mathPlain rfl (by decide +kernel)) ?_
  intro p e s m below meth c T B X
  refine Go.entry (ef8_JJ m x y) ?_
  refine glloadN B X d8_0 rfl (pc' := 1) rfl ?_
  refine glloadN B X d8_1 rfl (pc' := 2) rfl ?_
  refine glcmp B X d8_2 (pc' := 3) rfl ?_
  by_cases c3_2 : x < y
  · refine gifY B X (pc' := 10) d8_3 ((if0 _ _).trans (tlt (((lw_lt x y)).mpr c3_2)).1) (by decide) ?_
    refine glloadN B X d8_10 rfl (pc' := 11) rfl ?_
    exact gretL B X d8_11 (by decide) (by decide) (⟨by rw [fmaxL, if_pos c3_2], rfl⟩)
  · refine gifN B X d8_3 ((if0 _ _).trans (flt (mt ((lw_lt x y)).mp c3_2)).1) (pc' := 6) rfl ?_
    refine glloadN B X d8_6 rfl (pc' := 7) rfl ?_
    refine ggoto B X (pc' := 11) d8_7 (by decide) ?_
    exact gretL B X d8_11 (by decide) (by decide) (⟨by rw [fmaxL, if_neg c3_2], rfl⟩)
theorem d5_0 : decode jdk_29_method_61_code 0 = .ok (.lload_n 0, 1) := by decide +kernel
theorem d5_1 : decode jdk_29_method_61_code 1 = .ok (.lconst 0, 1) := by decide +kernel
theorem d5_2 : decode jdk_29_method_61_code 2 = .ok (.lcmp, 1) := by decide +kernel
theorem d5_3 : decode jdk_29_method_61_code 3 = .ok (.ifCond .ge 8, 3) := by decide +kernel
theorem d5_6 : decode jdk_29_method_61_code 6 = .ok (.lload_n 0, 1) := by decide +kernel
theorem d5_7 : decode jdk_29_method_61_code 7 = .ok (.lneg, 1) := by decide +kernel
theorem d5_8 : decode jdk_29_method_61_code 8 = .ok (.goto 4, 3) := by decide +kernel
theorem d5_11 : decode jdk_29_method_61_code 11 = .ok (.lload_n 0, 1) := by decide +kernel
theorem d5_12 : decode jdk_29_method_61_code 12 = .ok (.lreturn, 1) := by decide +kernel
theorem ef5_J (m : MethodId) (x0 : Int64) : entryFrame m #[(.long x0)] 2 = mkF m 0 #[.val (.long x0), .second] [] := by first | (simp [entryFrame, mkF, argsToLocals, Value.category]; done) | rfl
def fabs (x : Int64) : Int64 := if x < (0 : Int64) then (-x) else (x)
def rmr5 : Room := { frames := 0, cells := 0, slots := 0, locals := 0 }
set_option maxRecDepth 65536 in
set_option maxHeartbeats 4000000 in
theorem mtabs (l : Launch) (Z : State) (a0 : Array Value) (hw : ∀ d ∈ tables_1, d.before a0 Z = true) (x : Int64)  (h0 : Heap) : Meth l Z (⟨"java/lang/Math", "abs", "(J)J"⟩ : MethodName) jdk_29_method_61_code 2 (some .long) rmr5 #[(.long x)] h0 [] (fun vr h' => vr = some (.long (fabs x)) ∧ h' = h0) := by
  refine Meth.of (Jvm.Free.JP.mathPlain rfl (by decide +kernel)) ?_
  intro p e s m below meth c T B X
  refine Go.entry (ef5_J m x) ?_
  refine glloadN B X d5_0 rfl (pc' := 1) rfl ?_
  refine glconst B X d5_1 (v := (0 : Int64)) rfl (pc' := 2) rfl ?_
  refine glcmp B X d5_2 (pc' := 3) rfl ?_
  by_cases c3_3 : x < (0 : Int64)
  · refine gifN B X d5_3 ((if0 _ _).trans (tlt (((lw_lt x (0 : Int64))).mpr c3_3)).2.1) (pc' := 6) rfl ?_
    refine glloadN B X d5_6 rfl (pc' := 7) rfl ?_
    refine glneg B X d5_7 rfl (pc' := 8) rfl ?_
    refine ggoto B X (pc' := 12) d5_8 (by decide) ?_
    exact gretL B X d5_12 (by decide) (by decide) (⟨by rw [fabs, if_pos c3_3], rfl⟩)
  · refine gifY B X (pc' := 11) d5_3 ((if0 _ _).trans (flt (mt ((lw_lt x (0 : Int64))).mp c3_3)).2.1) (by decide) ?_
    refine glloadN B X d5_11 rfl (pc' := 12) rfl ?_
    exact gretL B X d5_12 (by decide) (by decide) (⟨by rw [fabs, if_neg c3_3], rfl⟩)
theorem d4_0 : decode jdk_29_method_30_code 0 = .ok (.lload_n 0, 1) := by decide +kernel
theorem d4_1 : decode jdk_29_method_30_code 1 = .ok (.lload_n 2, 1) := by decide +kernel
theorem d4_2 : decode jdk_29_method_30_code 2 = .ok (.lmul, 1) := by decide +kernel
theorem d4_3 : decode jdk_29_method_30_code 3 = .ok (.lstore 4, 2) := by decide +kernel
theorem d4_5 : decode jdk_29_method_30_code 5 = .ok (.lload_n 0, 1) := by decide +kernel
theorem d4_6 : decode jdk_29_method_30_code 6 = .ok (.invokestatic 122, 3) := by decide +kernel
theorem d4_9 : decode jdk_29_method_30_code 9 = .ok (.lstore 6, 2) := by decide +kernel
theorem d4_11 : decode jdk_29_method_30_code 11 = .ok (.lload_n 2, 1) := by decide +kernel
theorem d4_12 : decode jdk_29_method_30_code 12 = .ok (.invokestatic 122, 3) := by decide +kernel
theorem d4_15 : decode jdk_29_method_30_code 15 = .ok (.lstore 8, 2) := by decide +kernel
theorem d4_17 : decode jdk_29_method_30_code 17 = .ok (.lload 6, 2) := by decide +kernel
theorem d4_19 : decode jdk_29_method_30_code 19 = .ok (.lload 8, 2) := by decide +kernel
theorem d4_21 : decode jdk_29_method_30_code 21 = .ok (.lor, 1) := by decide +kernel
theorem d4_22 : decode jdk_29_method_30_code 22 = .ok (.bipush 31, 2) := by decide +kernel
theorem d4_24 : decode jdk_29_method_30_code 24 = .ok (.lushr, 1) := by decide +kernel
theorem d4_25 : decode jdk_29_method_30_code 25 = .ok (.lconst 0, 1) := by decide +kernel
theorem d4_26 : decode jdk_29_method_30_code 26 = .ok (.lcmp, 1) := by decide +kernel
theorem d4_27 : decode jdk_29_method_30_code 27 = .ok (.ifCond .eq 44, 3) := by decide +kernel
theorem d4_30 : decode jdk_29_method_30_code 30 = .ok (.lload_n 2, 1) := by decide +kernel
theorem d4_31 : decode jdk_29_method_30_code 31 = .ok (.lconst 0, 1) := by decide +kernel
theorem d4_32 : decode jdk_29_method_30_code 32 = .ok (.lcmp, 1) := by decide +kernel
theorem d4_33 : decode jdk_29_method_30_code 33 = .ok (.ifCond .eq 12, 3) := by decide +kernel
theorem d4_36 : decode jdk_29_method_30_code 36 = .ok (.lload 4, 2) := by decide +kernel
theorem d4_38 : decode jdk_29_method_30_code 38 = .ok (.lload_n 2, 1) := by decide +kernel
theorem d4_39 : decode jdk_29_method_30_code 39 = .ok (.ldiv, 1) := by decide +kernel
theorem d4_40 : decode jdk_29_method_30_code 40 = .ok (.lload_n 0, 1) := by decide +kernel
theorem d4_41 : decode jdk_29_method_30_code 41 = .ok (.lcmp, 1) := by decide +kernel
theorem d4_42 : decode jdk_29_method_30_code 42 = .ok (.ifCond .ne 19, 3) := by decide +kernel
theorem d4_45 : decode jdk_29_method_30_code 45 = .ok (.lload_n 0, 1) := by decide +kernel
theorem d4_46 : decode jdk_29_method_30_code 46 = .ok (.ldc2_w 128, 3) := by decide +kernel
theorem d4_49 : decode jdk_29_method_30_code 49 = .ok (.lcmp, 1) := by decide +kernel
theorem d4_50 : decode jdk_29_method_30_code 50 = .ok (.ifCond .ne 21, 3) := by decide +kernel
theorem d4_53 : decode jdk_29_method_30_code 53 = .ok (.lload_n 2, 1) := by decide +kernel
theorem d4_54 : decode jdk_29_method_30_code 54 = .ok (.ldc2_w 130, 3) := by decide +kernel
theorem d4_57 : decode jdk_29_method_30_code 57 = .ok (.lcmp, 1) := by decide +kernel
theorem d4_58 : decode jdk_29_method_30_code 58 = .ok (.ifCond .ne 13, 3) := by decide +kernel
theorem d4_61 : decode jdk_29_method_30_code 61 = .ok (.new 109, 3) := by decide +kernel
theorem d4_64 : decode jdk_29_method_30_code 64 = .ok (.dup, 1) := by decide +kernel
theorem d4_65 : decode jdk_29_method_30_code 65 = .ok (.ldc 116, 2) := by decide +kernel
theorem d4_67 : decode jdk_29_method_30_code 67 = .ok (.invokespecial 113, 3) := by decide +kernel
theorem d4_70 : decode jdk_29_method_30_code 70 = .ok (.athrow, 1) := by decide +kernel
theorem d4_71 : decode jdk_29_method_30_code 71 = .ok (.lload 4, 2) := by decide +kernel
theorem d4_73 : decode jdk_29_method_30_code 73 = .ok (.lreturn, 1) := by decide +kernel
theorem ef4_JJ (m : MethodId) (x0 : Int64) (x1 : Int64) : entryFrame m #[(.long x0), (.long x1)] 10 = mkF m 0 #[.val (.long x0), .second, .val (.long x1), .second, .unset, .unset, .unset, .unset, .unset, .unset] [] := by first | (simp [entryFrame, mkF, argsToLocals, Value.category]; done) | rfl
theorem pd__J_J : parseMethodDescriptor "(J)J" = some ⟨[.long], some .long⟩ := by decide +kernel
def rmr4 : Room := { frames := 1, cells := 0, slots := 0, locals := 13 }
set_option maxRecDepth 65536 in
set_option maxHeartbeats 4000000 in
theorem mtmul (l : Launch) (Z : State) (a0 : Array Value) (hw : ∀ d ∈ tables_1, d.before a0 Z = true) (x : Int64) (y : Int64)  (h0 : Heap) (hx : ¬ x = (-9223372036854775808 : Int64)) (hf : Jvm.Free.XT.fits64 (x.toInt * y.toInt)) : Meth l Z (⟨"java/lang/Math", "multiplyExact", "(JJ)J"⟩ : MethodName) jdk_29_method_30_code 10 (some .long) rmr4 #[(.long x), (.long y)] h0 [] (fun vr h' => vr = some (.long (x * y)) ∧ h' = h0) := by
  refine Meth.of (Jvm.Free.JP.mathPlain rfl (by decide +kernel)) ?_
  intro p e s m below meth c T B X
  refine Go.entry (ef4_JJ m x y) ?_
  refine glloadN B X d4_0 rfl (pc' := 1) rfl ?_
  refine glloadN B X d4_1 rfl (pc' := 2) rfl ?_
  refine glmul B X d4_2 rfl (pc' := 3) rfl ?_
  refine glstore B X d4_3 (Ls' := #[.val (.long x), .second, .val (.long y), .second, .val (.long (x * y)), .second, .unset, .unset, .unset, .unset]) rfl (pc' := 5) rfl ?_
  refine glloadN B X d4_5 rfl (pc' := 6) rfl ?_
  refine gcallS B X (hw _ (List.mem_of_getElem? (i := 25) rfl)) (hw _ (List.mem_of_getElem? (i := 26) rfl)) (hw _ (List.mem_of_getElem? (i := 4) rfl)) (hw _ (List.mem_of_getElem? (i := 27) rfl)) (by decide) (mtabs l Z a0 hw x  h0 ) pd__J_J rfl (argsL := [(.long x)]) (st := []) rfl rfl (W := 0) (Nat.le_of_eq rfl) (by decide) (by decide) (by decide) (by decide) (fun x q => nomatch q) d4_6 (pc' := 9) rfl (pureG rfl rfl fun T4 X5 => ?_)
  refine glstore B X5 d4_9 (Ls' := #[.val (.long x), .second, .val (.long y), .second, .val (.long (x * y)), .second, .val (.long (fabs x)), .second, .unset, .unset]) rfl (pc' := 11) rfl ?_
  refine glloadN B X5 d4_11 rfl (pc' := 12) rfl ?_
  refine gcallS B X5 (hw _ (List.mem_of_getElem? (i := 25) rfl)) (hw _ (List.mem_of_getElem? (i := 26) rfl)) (hw _ (List.mem_of_getElem? (i := 4) rfl)) (hw _ (List.mem_of_getElem? (i := 27) rfl)) (by decide) (mtabs l Z a0 hw y  h0 ) pd__J_J rfl (argsL := [(.long y)]) (st := []) rfl rfl (W := 0) (Nat.le_of_eq rfl) (by decide) (by decide) (by decide) (by decide) (fun x q => nomatch q) d4_12 (pc' := 15) rfl (pureG rfl rfl fun T6 X7 => ?_)
  refine glstore B X7 d4_15 (Ls' := #[.val (.long x), .second, .val (.long y), .second, .val (.long (x * y)), .second, .val (.long (fabs x)), .second, .val (.long (fabs y)), .second]) rfl (pc' := 17) rfl ?_
  refine glload B X7 d4_17 rfl (pc' := 19) rfl ?_
  refine glload B X7 d4_19 rfl (pc' := 21) rfl ?_
  refine glor B X7 d4_21 rfl (pc' := 22) rfl ?_
  refine gbipush B X7 d4_22 (v := (31 : Int32)) rfl (pc' := 24) rfl ?_
  refine glushr B X7 d4_24 rfl (pc' := 25) rfl ?_
  refine glconst B X7 d4_25 (v := (0 : Int64)) rfl (pc' := 26) rfl ?_
  refine glcmp B X7 d4_26 (pc' := 27) rfl ?_
  by_cases c27_8 : ((((fabs x) ||| (fabs y)).toUInt64 >>> ((31 : Int32) &&& 0x3f).toInt64.toUInt64).toInt64) = (0 : Int64)
  · refine gifY B X7 (pc' := 71) d4_27 ((if0 _ _).trans (teq (((lw_eq ((((fabs x) ||| (fabs y)).toUInt64 >>> ((31 : Int32) &&& 0x3f).toInt64.toUInt64).toInt64) (0 : Int64))).mpr c27_8)).1) (by decide) ?_
    refine glload B X7 d4_71 rfl (pc' := 73) rfl ?_
    exact gretL B X7 d4_73 (by decide) (by decide) (⟨rfl, rfl⟩)
  · refine gifN B X7 d4_27 ((if0 _ _).trans (feq (mt ((lw_eq ((((fabs x) ||| (fabs y)).toUInt64 >>> ((31 : Int32) &&& 0x3f).toInt64.toUInt64).toInt64) (0 : Int64))).mp c27_8)).1) (pc' := 30) rfl ?_
    refine glloadN B X7 d4_30 rfl (pc' := 31) rfl ?_
    refine glconst B X7 d4_31 (v := (0 : Int64)) rfl (pc' := 32) rfl ?_
    refine glcmp B X7 d4_32 (pc' := 33) rfl ?_
    by_cases c33_9 : y = (0 : Int64)
    · refine gifY B X7 (pc' := 45) d4_33 ((if0 _ _).trans (teq (((lw_eq y (0 : Int64))).mpr c33_9)).1) (by decide) ?_
      refine glloadN B X7 d4_45 rfl (pc' := 46) rfl ?_
      refine gldc2 B X7 (v := (-9223372036854775808 : Int64)) (hw _ (List.mem_of_getElem? (i := 49) rfl)) d4_46 (pc' := 49) rfl ?_
      refine glcmp B X7 d4_49 (pc' := 50) rfl ?_
      have c50_10 : ¬ (x = (-9223372036854775808 : Int64)) := hx
      refine gifY B X7 (pc' := 71) d4_50 ((if0 _ _).trans (feq (mt ((lw_eq x (-9223372036854775808 : Int64))).mp c50_10)).2) (by decide) ?_
      refine glload B X7 d4_71 rfl (pc' := 73) rfl ?_
      exact gretL B X7 d4_73 (by decide) (by decide) (⟨rfl, rfl⟩)
    · refine gifN B X7 d4_33 ((if0 _ _).trans (feq (mt ((lw_eq y (0 : Int64))).mp c33_9)).1) (pc' := 36) rfl ?_
      refine glload B X7 d4_36 rfl (pc' := 38) rfl ?_
      refine glloadN B X7 d4_38 rfl (pc' := 39) rfl ?_
      refine gldiv B X7 d4_39 c33_9 rfl (pc' := 40) rfl ?_
      refine glloadN B X7 d4_40 rfl (pc' := 41) rfl ?_
      refine glcmp B X7 d4_41 (pc' := 42) rfl ?_
      have c42_11 : ((x * y) / y) = x := Jvm.Free.XT.mulDiv64 hf c33_9
      refine gifN B X7 d4_42 ((if0 _ _).trans (teq (((lw_eq ((x * y) / y) x)).mpr c42_11)).2) (pc' := 45) rfl ?_
      refine glloadN B X7 d4_45 rfl (pc' := 46) rfl ?_
      refine gldc2 B X7 (v := (-9223372036854775808 : Int64)) (hw _ (List.mem_of_getElem? (i := 49) rfl)) d4_46 (pc' := 49) rfl ?_
      refine glcmp B X7 d4_49 (pc' := 50) rfl ?_
      have c50_12 : ¬ (x = (-9223372036854775808 : Int64)) := hx
      refine gifY B X7 (pc' := 71) d4_50 ((if0 _ _).trans (feq (mt ((lw_eq x (-9223372036854775808 : Int64))).mp c50_12)).2) (by decide) ?_
      refine glload B X7 d4_71 rfl (pc' := 73) rfl ?_
      exact gretL B X7 d4_73 (by decide) (by decide) (⟨rfl, rfl⟩)
theorem d6_0 : decode jdk_29_method_25_code 0 = .ok (.lload_n 0, 1) := by decide +kernel
theorem d6_1 : decode jdk_29_method_25_code 1 = .ok (.lload_n 2, 1) := by decide +kernel
theorem d6_2 : decode jdk_29_method_25_code 2 = .ok (.ladd, 1) := by decide +kernel
theorem d6_3 : decode jdk_29_method_25_code 3 = .ok (.lstore 4, 2) := by decide +kernel
theorem d6_5 : decode jdk_29_method_25_code 5 = .ok (.lload_n 0, 1) := by decide +kernel
theorem d6_6 : decode jdk_29_method_25_code 6 = .ok (.lload 4, 2) := by decide +kernel
theorem d6_8 : decode jdk_29_method_25_code 8 = .ok (.lxor, 1) := by decide +kernel
theorem d6_9 : decode jdk_29_method_25_code 9 = .ok (.lload_n 2, 1) := by decide +kernel
theorem d6_10 : decode jdk_29_method_25_code 10 = .ok (.lload 4, 2) := by decide +kernel
theorem d6_12 : decode jdk_29_method_25_code 12 = .ok (.lxor, 1) := by decide +kernel
theorem d6_13 : decode jdk_29_method_25_code 13 = .ok (.land, 1) := by decide +kernel
theorem d6_14 : decode jdk_29_method_25_code 14 = .ok (.lconst 0, 1) := by decide +kernel
theorem d6_15 : decode jdk_29_method_25_code 15 = .ok (.lcmp, 1) := by decide +kernel
theorem d6_16 : decode jdk_29_method_25_code 16 = .ok (.ifCond .ge 13, 3) := by decide +kernel
theorem d6_19 : decode jdk_29_method_25_code 19 = .ok (.new 109, 3) := by decide +kernel
theorem d6_22 : decode jdk_29_method_25_code 22 = .ok (.dup, 1) := by decide +kernel
theorem d6_23 : decode jdk_29_method_25_code 23 = .ok (.ldc 116, 2) := by decide +kernel
theorem d6_25 : decode jdk_29_method_25_code 25 = .ok (.invokespecial 113, 3) := by decide +kernel
theorem d6_28 : decode jdk_29_method_25_code 28 = .ok (.athrow, 1) := by decide +kernel
theorem d6_29 : decode jdk_29_method_25_code 29 = .ok (.lload 4, 2) := by decide +kernel
theorem d6_31 : decode jdk_29_method_25_code 31 = .ok (.lreturn, 1) := by decide +kernel
theorem ef6_JJ (m : MethodId) (x0 : Int64) (x1 : Int64) : entryFrame m #[(.long x0), (.long x1)] 6 = mkF m 0 #[.val (.long x0), .second, .val (.long x1), .second, .unset, .unset] [] := by first | (simp [entryFrame, mkF, argsToLocals, Value.category]; done) | rfl
def rmr6 : Room := { frames := 0, cells := 0, slots := 0, locals := 0 }
set_option maxRecDepth 65536 in
set_option maxHeartbeats 4000000 in
theorem mtadd (l : Launch) (Z : State) (a0 : Array Value) (hw : ∀ d ∈ tables_1, d.before a0 Z = true) (x : Int64) (y : Int64)  (h0 : Heap) (hf : Jvm.Free.XT.fits64 (x.toInt + y.toInt)) : Meth l Z (⟨"java/lang/Math", "addExact", "(JJ)J"⟩ : MethodName) jdk_29_method_25_code 6 (some .long) rmr6 #[(.long x), (.long y)] h0 [] (fun vr h' => vr = some (.long (x + y)) ∧ h' = h0) := by
  refine Meth.of (Jvm.Free.JP.mathPlain rfl (by decide +kernel)) ?_
  intro p e s m below meth c T B X
  refine Go.entry (ef6_JJ m x y) ?_
  refine glloadN B X d6_0 rfl (pc' := 1) rfl ?_
  refine glloadN B X d6_1 rfl (pc' := 2) rfl ?_
  refine gladd B X d6_2 rfl (pc' := 3) rfl ?_
  refine glstore B X d6_3 (Ls' := #[.val (.long x), .second, .val (.long y), .second, .val (.long (x + y)), .second]) rfl (pc' := 5) rfl ?_
  refine glloadN B X d6_5 rfl (pc' := 6) rfl ?_
  refine glload B X d6_6 rfl (pc' := 8) rfl ?_
  refine glxor B X d6_8 rfl (pc' := 9) rfl ?_
  refine glloadN B X d6_9 rfl (pc' := 10) rfl ?_
  refine glload B X d6_10 rfl (pc' := 12) rfl ?_
  refine glxor B X d6_12 rfl (pc' := 13) rfl ?_
  refine gland B X d6_13 rfl (pc' := 14) rfl ?_
  refine glconst B X d6_14 (v := (0 : Int64)) rfl (pc' := 15) rfl ?_
  refine glcmp B X d6_15 (pc' := 16) rfl ?_
  have c16_13 : ¬ (((x ^^^ (x + y)) &&& (y ^^^ (x + y))) < (0 : Int64)) := Jvm.Free.XT.addOk64 hf
  refine gifY B X (pc' := 29) d6_16 ((if0 _ _).trans (flt (mt ((lw_lt ((x ^^^ (x + y)) &&& (y ^^^ (x + y))) (0 : Int64))).mp c16_13)).2.1) (by decide) ?_
  refine glload B X d6_29 rfl (pc' := 31) rfl ?_
  exact gretL B X d6_31 (by decide) (by decide) (⟨rfl, rfl⟩)
theorem d10_0 : decode prog_16_method_4_code 0 = .ok (.aload_n 0, 1) := by decide +kernel
theorem d10_1 : decode prog_16_method_4_code 1 = .ok (.getfield 37, 3) := by decide +kernel
theorem d10_4 : decode prog_16_method_4_code 4 = .ok (.lload_n 1, 1) := by decide +kernel
theorem d10_5 : decode prog_16_method_4_code 5 = .ok (.lsub, 1) := by decide +kernel
theorem d10_6 : decode prog_16_method_4_code 6 = .ok (.lconst 0, 1) := by decide +kernel
theorem d10_7 : decode prog_16_method_4_code 7 = .ok (.lcmp, 1) := by decide +kernel
theorem d10_8 : decode prog_16_method_4_code 8 = .ok (.ifCond .ge 7, 3) := by decide +kernel
theorem d10_11 : decode prog_16_method_4_code 11 = .ok (.iconst 1, 1) := by decide +kernel
theorem d10_12 : decode prog_16_method_4_code 12 = .ok (.goto 4, 3) := by decide +kernel
theorem d10_15 : decode prog_16_method_4_code 15 = .ok (.iconst 0, 1) := by decide +kernel
theorem d10_16 : decode prog_16_method_4_code 16 = .ok (.ireturn, 1) := by decide +kernel
theorem pn10 : plainFor (⟨"com/example/api_policy_gateway/apipolicygateway/policy/Pace", "isFull", "(J)Z"⟩ : MethodName) = true := plainFor_of_name (by first | (simp [plainName, overriddenIn]; done) | decide +kernel)
theorem ef10_RJ (m : MethodId) (x0 : Addr) (x1 : Int64) : entryFrame m #[(.ref x0), (.long x1)] 3 = mkF m 0 #[.val (.ref x0), .val (.long x1), .second] [] := by first | (simp [entryFrame, mkF, argsToLocals, Value.category]; done) | rfl
def ffull (nn : Int64) (t : Int64) : Int32 := if (nn - t) < (0 : Int64) then (1 : Int32) else ((0 : Int32))
def rmr10 : Room := { frames := 0, cells := 0, slots := 0, locals := 0 }
set_option maxRecDepth 65536 in
set_option maxHeartbeats 4000000 in
theorem mtfull (l : Launch) (Z : State) (a0 : Array Value) (hw : ∀ d ∈ tables_1, d.before a0 Z = true) (a : Addr) (t : Int64) (rt iv ip tn tp mw nn np : Int64) (h0 : Heap) (O : Pc Z h0 a (.long rt) (.long iv) (.long ip) (.long tn) (.long tp) (.long mw) (.long nn) (.long np)) : Meth l Z (⟨"com/example/api_policy_gateway/apipolicygateway/policy/Pace", "isFull", "(J)Z"⟩ : MethodName) prog_16_method_4_code 3 (some .boolean) rmr10 #[(.ref a), (.long t)] h0 [] (fun vr h' => vr = some (.int (ffull nn t)) ∧ h' = h0) := by
  refine Meth.of pn10 ?_
  intro p e s m below meth c T B X
  refine Go.entry (ef10_RJ m a t) ?_
  refine galoadN B X d10_0 rfl rfl (pc' := 1) rfl ?_
  refine gget B X (hw _ (List.mem_of_getElem? (i := 37) rfl)) O.2.2.2.2.2.2.2.1 d10_1 (pc' := 4) rfl fun T14 X15 => ?_
  refine glloadN B X15 d10_4 rfl (pc' := 5) rfl ?_
  refine glsub B X15 d10_5 rfl (pc' := 6) rfl ?_
  refine glconst B X15 d10_6 (v := (0 : Int64)) rfl (pc' := 7) rfl ?_
  refine glcmp B X15 d10_7 (pc' := 8) rfl ?_
  by_cases c8_16 : (nn - t) < (0 : Int64)
  · refine gifN B X15 d10_8 ((if0 _ _).trans (tlt (((lw_lt (nn - t) (0 : Int64))).mpr c8_16)).2.1) (pc' := 11) rfl ?_
    refine giconst B X15 d10_11 (v := (1 : Int32)) rfl (pc' := 12) rfl ?_
    refine ggoto B X15 (pc' := 16) d10_12 (by decide) ?_
    exact gretN B X15 (z' := (1 : Int32)) (by simp) (rfl) d10_16 (by decide) (by decide) (⟨by rw [ffull, if_pos c8_16], rfl⟩)
  · refine gifY B X15 (pc' := 15) d10_8 ((if0 _ _).trans (flt (mt ((lw_lt (nn - t) (0 : Int64))).mp c8_16)).2.1) (by decide) ?_
    refine giconst B X15 d10_15 (v := (0 : Int32)) rfl (pc' := 16) rfl ?_
    exact gretN B X15 (z' := (0 : Int32)) (by simp) (rfl) d10_16 (by decide) (by decide) (⟨by rw [ffull, if_neg c8_16], rfl⟩)
theorem d2_0 : decode prog_16_method_1_code 0 = .ok (.aload_n 0, 1) := by decide +kernel
theorem d2_1 : decode prog_16_method_1_code 1 = .ok (.invokespecial 1, 3) := by decide +kernel
theorem d2_4 : decode prog_16_method_1_code 4 = .ok (.aload_n 0, 1) := by decide +kernel
theorem d2_5 : decode prog_16_method_1_code 5 = .ok (.iload_n 3, 1) := by decide +kernel
theorem d2_6 : decode prog_16_method_1_code 6 = .ok (.i2l, 1) := by decide +kernel
theorem d2_7 : decode prog_16_method_1_code 7 = .ok (.putfield 7, 3) := by decide +kernel
theorem d2_10 : decode prog_16_method_1_code 10 = .ok (.aload_n 0, 1) := by decide +kernel
theorem d2_11 : decode prog_16_method_1_code 11 = .ok (.lload_n 1, 1) := by decide +kernel
theorem d2_12 : decode prog_16_method_1_code 12 = .ok (.iload_n 3, 1) := by decide +kernel
theorem d2_13 : decode prog_16_method_1_code 13 = .ok (.i2l, 1) := by decide +kernel
theorem d2_14 : decode prog_16_method_1_code 14 = .ok (.ldiv, 1) := by decide +kernel
theorem d2_15 : decode prog_16_method_1_code 15 = .ok (.putfield 13, 3) := by decide +kernel
theorem d2_18 : decode prog_16_method_1_code 18 = .ok (.aload_n 0, 1) := by decide +kernel
theorem d2_19 : decode prog_16_method_1_code 19 = .ok (.lload_n 1, 1) := by decide +kernel
theorem d2_20 : decode prog_16_method_1_code 20 = .ok (.iload_n 3, 1) := by decide +kernel
theorem d2_21 : decode prog_16_method_1_code 21 = .ok (.i2l, 1) := by decide +kernel
theorem d2_22 : decode prog_16_method_1_code 22 = .ok (.lrem, 1) := by decide +kernel
theorem d2_23 : decode prog_16_method_1_code 23 = .ok (.putfield 16, 3) := by decide +kernel
theorem d2_26 : decode prog_16_method_1_code 26 = .ok (.iload 4, 2) := by decide +kernel
theorem d2_28 : decode prog_16_method_1_code 28 = .ok (.i2l, 1) := by decide +kernel
theorem d2_29 : decode prog_16_method_1_code 29 = .ok (.lconst 1, 1) := by decide +kernel
theorem d2_30 : decode prog_16_method_1_code 30 = .ok (.lsub, 1) := by decide +kernel
theorem d2_31 : decode prog_16_method_1_code 31 = .ok (.aload_n 0, 1) := by decide +kernel
theorem d2_32 : decode prog_16_method_1_code 32 = .ok (.getfield 16, 3) := by decide +kernel
theorem d2_35 : decode prog_16_method_1_code 35 = .ok (.lmul, 1) := by decide +kernel
theorem d2_36 : decode prog_16_method_1_code 36 = .ok (.lstore 9, 2) := by decide +kernel
theorem d2_38 : decode prog_16_method_1_code 38 = .ok (.aload_n 0, 1) := by decide +kernel
theorem d2_39 : decode prog_16_method_1_code 39 = .ok (.iload 4, 2) := by decide +kernel
theorem d2_41 : decode prog_16_method_1_code 41 = .ok (.i2l, 1) := by decide +kernel
theorem d2_42 : decode prog_16_method_1_code 42 = .ok (.lconst 1, 1) := by decide +kernel
theorem d2_43 : decode prog_16_method_1_code 43 = .ok (.lsub, 1) := by decide +kernel
theorem d2_44 : decode prog_16_method_1_code 44 = .ok (.aload_n 0, 1) := by decide +kernel
theorem d2_45 : decode prog_16_method_1_code 45 = .ok (.getfield 13, 3) := by decide +kernel
theorem d2_48 : decode prog_16_method_1_code 48 = .ok (.invokestatic 19, 3) := by decide +kernel
theorem d2_51 : decode prog_16_method_1_code 51 = .ok (.lload 9, 2) := by decide +kernel
theorem d2_53 : decode prog_16_method_1_code 53 = .ok (.iload_n 3, 1) := by decide +kernel
theorem d2_54 : decode prog_16_method_1_code 54 = .ok (.i2l, 1) := by decide +kernel
theorem d2_55 : decode prog_16_method_1_code 55 = .ok (.ldiv, 1) := by decide +kernel
theorem d2_56 : decode prog_16_method_1_code 56 = .ok (.invokestatic 25, 3) := by decide +kernel
theorem d2_59 : decode prog_16_method_1_code 59 = .ok (.putfield 28, 3) := by decide +kernel
theorem d2_62 : decode prog_16_method_1_code 62 = .ok (.aload_n 0, 1) := by decide +kernel
theorem d2_63 : decode prog_16_method_1_code 63 = .ok (.lload 9, 2) := by decide +kernel
theorem d2_65 : decode prog_16_method_1_code 65 = .ok (.iload_n 3, 1) := by decide +kernel
theorem d2_66 : decode prog_16_method_1_code 66 = .ok (.i2l, 1) := by decide +kernel
theorem d2_67 : decode prog_16_method_1_code 67 = .ok (.lrem, 1) := by decide +kernel
theorem d2_68 : decode prog_16_method_1_code 68 = .ok (.putfield 31, 3) := by decide +kernel
theorem d2_71 : decode prog_16_method_1_code 71 = .ok (.aload_n 0, 1) := by decide +kernel
theorem d2_72 : decode prog_16_method_1_code 72 = .ok (.lload 5, 2) := by decide +kernel
theorem d2_74 : decode prog_16_method_1_code 74 = .ok (.putfield 34, 3) := by decide +kernel
theorem d2_77 : decode prog_16_method_1_code 77 = .ok (.aload_n 0, 1) := by decide +kernel
theorem d2_78 : decode prog_16_method_1_code 78 = .ok (.lload 7, 2) := by decide +kernel
theorem d2_80 : decode prog_16_method_1_code 80 = .ok (.putfield 37, 3) := by decide +kernel
theorem d2_83 : decode prog_16_method_1_code 83 = .ok (.return_, 1) := by decide +kernel
theorem pn2 : plainFor (⟨"com/example/api_policy_gateway/apipolicygateway/policy/Pace", "<init>", "(JIIJJ)V"⟩ : MethodName) = true := plainFor_of_name (by first | (simp [plainName, overriddenIn]; done) | decide +kernel)
theorem ef2_RJIIJJ (m : MethodId) (x0 : Addr) (x1 : Int64) (x2 : Int32) (x3 : Int32) (x4 : Int64) (x5 : Int64) : entryFrame m #[(.ref x0), (.long x1), (.int x2), (.int x3), (.long x4), (.long x5)] 11 = mkF m 0 #[.val (.ref x0), .val (.long x1), .second, .val (.int x2), .val (.int x3), .val (.long x4), .second, .val (.long x5), .second, .unset, .unset] [] := by first | (simp [entryFrame, mkF, argsToLocals, Value.category]; done) | rfl
theorem pd__JJ_J : parseMethodDescriptor "(JJ)J" = some ⟨[.long, .long], some .long⟩ := by decide +kernel
def rmr2 : Room := { frames := 2, cells := 0, slots := 0, locals := 35 }
set_option maxRecDepth 65536 in
set_option maxHeartbeats 4000000 in
theorem mt2 (l : Launch) (Z : State) (a0 : Array Value) (hw : ∀ d ∈ tables_1, d.before a0 Z = true) (a : Addr) (q : Int64) (k : Int32) (b : Int32) (mw : Int64) (t : Int64)  (h0 : Heap) (O : Pc Z h0 a (.long 0) (.long 0) (.long 0) (.long 0) (.long 0) (.long 0) (.long 0) (.long 0)) (hk : ¬ k.toInt64 = 0) (hm1 : ¬ (b.toInt64 - (1 : Int64)) = (-9223372036854775808 : Int64)) (hm2 : Jvm.Free.XT.fits64 ((b.toInt64 - (1 : Int64)).toInt * (q / k.toInt64).toInt)) (hm3 : Jvm.Free.XT.fits64 (((b.toInt64 - (1 : Int64)) * (q / k.toInt64)).toInt + (((b.toInt64 - (1 : Int64)) * (q % k.toInt64)) / k.toInt64).toInt)) : Meth l Z (⟨"com/example/api_policy_gateway/apipolicygateway/policy/Pace", "<init>", "(JIIJJ)V"⟩ : MethodName) prog_16_method_1_code 11 none rmr2 #[(.ref a), (.long q), (.int k), (.int b), (.long mw), (.long t)] h0 [a] (fun v h' => v = none ∧ Pc Z h' a (.long k.toInt64) (.long (q / k.toInt64)) (.long (q % k.toInt64)) (.long (((b.toInt64 - (1 : Int64)) * (q / k.toInt64)) + (((b.toInt64 - (1 : Int64)) * (q % k.toInt64)) / k.toInt64))) (.long (((b.toInt64 - (1 : Int64)) * (q % k.toInt64)) % k.toInt64)) (.long mw) (.long t) (.long 0)) := by
  refine Meth.of pn2 ?_
  intro p e s m below meth c T B X
  refine Go.entry (ef2_RJIIJJ m a q k b mw t) ?_
  refine galoadN B X d2_0 rfl rfl (pc' := 1) rfl ?_
  refine ginitO B X (W := 0) (hw _ (List.mem_of_getElem? (i := 13) rfl)) (hw _ (List.mem_of_getElem? (i := 14) rfl)) (hw _ (List.mem_of_getElem? (i := 15) rfl)) rfl (by decide) (Nat.le_of_eq rfl) (by decide) d2_1 (pc' := 4) rfl fun T17 X18 => ?_
  refine galoadN B X18 d2_4 rfl rfl (pc' := 5) rfl ?_
  refine giloadN B X18 d2_5 rfl (pc' := 6) rfl ?_
  refine gi2l B X18 d2_6 rfl (pc' := 7) rfl ?_
  refine gput B X18 (ty := .long) (hw _ (List.mem_of_getElem? (i := 16) rfl)) O.2.1 O.1 (Or.inr ⟨(hw _ (List.mem_of_getElem? (i := 17) rfl)), rfl, rfl⟩) (hw _ (List.mem_of_getElem? (i := 8) rfl)) (by decide) rfl rfl (Or.inl (List.mem_of_getElem? (i := 0) rfl)) d2_7 (pc' := 10) rfl fun T19 h20 X21 W22 => ?_
  have O23 := Pc.set0 hw O W22
  refine galoadN B X21 d2_10 rfl rfl (pc' := 11) rfl ?_
  refine glloadN B X21 d2_11 rfl (pc' := 12) rfl ?_
  refine giloadN B X21 d2_12 rfl (pc' := 13) rfl ?_
  refine gi2l B X21 d2_13 rfl (pc' := 14) rfl ?_
  refine gldiv B X21 d2_14 hk rfl (pc' := 15) rfl ?_
  refine gput B X21 (ty := .long) (hw _ (List.mem_of_getElem? (i := 18) rfl)) O23.2.2.1 O23.1 (Or.inr ⟨(hw _ (List.mem_of_getElem? (i := 19) rfl)), rfl, rfl⟩) (hw _ (List.mem_of_getElem? (i := 8) rfl)) (by decide) rfl rfl (Or.inl (List.mem_of_getElem? (i := 0) rfl)) d2_15 (pc' := 18) rfl fun T24 h25 X26 W27 => ?_
  have O28 := Pc.set1 hw O23 W27
  refine galoadN B X26 d2_18 rfl rfl (pc' := 19) rfl ?_
  refine glloadN B X26 d2_19 rfl (pc' := 20) rfl ?_
  refine giloadN B X26 d2_20 rfl (pc' := 21) rfl ?_
  refine gi2l B X26 d2_21 rfl (pc' := 22) rfl ?_
  refine glrem B X26 d2_22 hk rfl (pc' := 23) rfl ?_
  refine gput B X26 (ty := .long) (hw _ (List.mem_of_getElem? (i := 20) rfl)) O28.2.2.2.1 O28.1 (Or.inr ⟨(hw _ (List.mem_of_getElem? (i := 21) rfl)), rfl, rfl⟩) (hw _ (List.mem_of_getElem? (i := 8) rfl)) (by decide) rfl rfl (Or.inl (List.mem_of_getElem? (i := 0) rfl)) d2_23 (pc' := 26) rfl fun T29 h30 X31 W32 => ?_
  have O33 := Pc.set2 hw O28 W32
  refine giload B X31 d2_26 rfl (pc' := 28) rfl ?_
  refine gi2l B X31 d2_28 rfl (pc' := 29) rfl ?_
  refine glconst B X31 d2_29 (v := (1 : Int64)) rfl (pc' := 30) rfl ?_
  refine glsub B X31 d2_30 rfl (pc' := 31) rfl ?_
  refine galoadN B X31 d2_31 rfl rfl (pc' := 32) rfl ?_
  refine gget B X31 (hw _ (List.mem_of_getElem? (i := 20) rfl)) O33.2.2.2.1 d2_32 (pc' := 35) rfl fun T34 X35 => ?_
  refine glmul B X35 d2_35 rfl (pc' := 36) rfl ?_
  refine glstore B X35 d2_36 (Ls' := #[.val (.ref a), .val (.long q), .second, .val (.int k), .val (.int b), .val (.long mw), .second, .val (.long t), .second, .val (.long ((b.toInt64 - (1 : Int64)) * (q % k.toInt64))), .second]) rfl (pc' := 38) rfl ?_
  refine galoadN B X35 d2_38 rfl rfl (pc' := 39) rfl ?_
  refine giload B X35 d2_39 rfl (pc' := 41) rfl ?_
  refine gi2l B X35 d2_41 rfl (pc' := 42) rfl ?_
  refine glconst B X35 d2_42 (v := (1 : Int64)) rfl (pc' := 43) rfl ?_
  refine glsub B X35 d2_43 rfl (pc' := 44) rfl ?_
  refine galoadN B X35 d2_44 rfl rfl (pc' := 45) rfl ?_
  refine gget B X35 (hw _ (List.mem_of_getElem? (i := 18) rfl)) O33.2.2.1 d2_45 (pc' := 48) rfl fun T36 X37 => ?_
  refine gcallS B X37 (hw _ (List.mem_of_getElem? (i := 22) rfl)) (hw _ (List.mem_of_getElem? (i := 23) rfl)) (hw _ (List.mem_of_getElem? (i := 4) rfl)) (hw _ (List.mem_of_getElem? (i := 24) rfl)) (by decide) (mtmul l Z a0 hw (b.toInt64 - (1 : Int64)) (q / k.toInt64)  h30 hm1 hm2) pd__JJ_J rfl (argsL := [(.long (b.toInt64 - (1 : Int64))), (.long (q / k.toInt64))]) (st := [(.ref a)]) rfl rfl (W := 1) (Nat.le_of_eq rfl) (by decide) (by decide) (by decide) (by decide) (fun x q => nomatch q) d2_48 (pc' := 51) rfl (pureG rfl rfl fun T38 X39 => ?_)
  refine glload B X39 d2_51 rfl (pc' := 53) rfl ?_
  refine giloadN B X39 d2_53 rfl (pc' := 54) rfl ?_
  refine gi2l B X39 d2_54 rfl (pc' := 55) rfl ?_
  refine gldiv B X39 d2_55 hk rfl (pc' := 56) rfl ?_
  refine gcallS B X39 (hw _ (List.mem_of_getElem? (i := 28) rfl)) (hw _ (List.mem_of_getElem? (i := 29) rfl)) (hw _ (List.mem_of_getElem? (i := 4) rfl)) (hw _ (List.mem_of_getElem? (i := 30) rfl)) (by decide) (mtadd l Z a0 hw ((b.toInt64 - (1 : Int64)) * (q / k.toInt64)) (((b.toInt64 - (1 : Int64)) * (q % k.toInt64)) / k.toInt64)  h30 hm3) pd__JJ_J rfl (argsL := [(.long ((b.toInt64 - (1 : Int64)) * (q / k.toInt64))), (.long (((b.toInt64 - (1 : Int64)) * (q % k.toInt64)) / k.toInt64))]) (st := [(.ref a)]) rfl rfl (W := 1) (Nat.le_of_eq rfl) (by decide) (by decide) (by decide) (by decide) (fun x q => nomatch q) d2_56 (pc' := 59) rfl (pureG rfl rfl fun T40 X41 => ?_)
  refine gput B X41 (ty := .long) (hw _ (List.mem_of_getElem? (i := 31) rfl)) O33.2.2.2.2.1 O33.1 (Or.inr ⟨(hw _ (List.mem_of_getElem? (i := 32) rfl)), rfl, rfl⟩) (hw _ (List.mem_of_getElem? (i := 8) rfl)) (by decide) rfl rfl (Or.inl (List.mem_of_getElem? (i := 0) rfl)) d2_59 (pc' := 62) rfl fun T42 h43 X44 W45 => ?_
  have O46 := Pc.set3 hw O33 W45
  refine galoadN B X44 d2_62 rfl rfl (pc' := 63) rfl ?_
  refine glload B X44 d2_63 rfl (pc' := 65) rfl ?_
  refine giloadN B X44 d2_65 rfl (pc' := 66) rfl ?_
  refine gi2l B X44 d2_66 rfl (pc' := 67) rfl ?_
  refine glrem B X44 d2_67 hk rfl (pc' := 68) rfl ?_
  refine gput B X44 (ty := .long) (hw _ (List.mem_of_getElem? (i := 33) rfl)) O46.2.2.2.2.2.1 O46.1 (Or.inr ⟨(hw _ (List.mem_of_getElem? (i := 34) rfl)), rfl, rfl⟩) (hw _ (List.mem_of_getElem? (i := 8) rfl)) (by decide) rfl rfl (Or.inl (List.mem_of_getElem? (i := 0) rfl)) d2_68 (pc' := 71) rfl fun T47 h48 X49 W50 => ?_
  have O51 := Pc.set4 hw O46 W50
  refine galoadN B X49 d2_71 rfl rfl (pc' := 72) rfl ?_
  refine glload B X49 d2_72 rfl (pc' := 74) rfl ?_
  refine gput B X49 (ty := .long) (hw _ (List.mem_of_getElem? (i := 35) rfl)) O51.2.2.2.2.2.2.1 O51.1 (Or.inr ⟨(hw _ (List.mem_of_getElem? (i := 36) rfl)), rfl, rfl⟩) (hw _ (List.mem_of_getElem? (i := 8) rfl)) (by decide) rfl rfl (Or.inl (List.mem_of_getElem? (i := 0) rfl)) d2_74 (pc' := 77) rfl fun T52 h53 X54 W55 => ?_
  have O56 := Pc.set5 hw O51 W55
  refine galoadN B X54 d2_77 rfl rfl (pc' := 78) rfl ?_
  refine glload B X54 d2_78 rfl (pc' := 80) rfl ?_
  refine gput B X54 (ty := .long) (hw _ (List.mem_of_getElem? (i := 37) rfl)) O56.2.2.2.2.2.2.2.1 O56.1 (Or.inl (hw _ (List.mem_of_getElem? (i := 38) rfl))) (hw _ (List.mem_of_getElem? (i := 8) rfl)) (by decide) rfl rfl (Or.inl (List.mem_of_getElem? (i := 0) rfl)) d2_80 (pc' := 83) rfl fun T57 h58 X59 W60 => ?_
  have O61 := Pc.set6 hw O56 W60
  exact gretV B X59 d2_83 (by decide) (by decide) (⟨rfl, O61⟩)
def oN (rt iv ip nn np t : Int64) : Int64 := if (ffull nn t) = (0 : Int32) then (if (np + ip) < rt then nn + iv else nn + iv + (1 : Int64)) else (if ((0 : Int64) + ip) < rt then t + iv else t + iv + (1 : Int64))
def oP (rt iv ip nn np t : Int64) : Int64 := if (ffull nn t) = (0 : Int32) then (if (np + ip) < rt then np + ip else np + ip - rt) else (if ((0 : Int64) + ip) < rt then (0 : Int64) + ip else (0 : Int64) + ip - rt)
theorem d9_0 : decode prog_16_method_3_code 0 = .ok (.aload_n 0, 1) := by decide +kernel
theorem d9_1 : decode prog_16_method_3_code 1 = .ok (.lload_n 1, 1) := by decide +kernel
theorem d9_2 : decode prog_16_method_3_code 2 = .ok (.invokevirtual 48, 3) := by decide +kernel
theorem d9_5 : decode prog_16_method_3_code 5 = .ok (.ifCond .eq 13, 3) := by decide +kernel
theorem d9_8 : decode prog_16_method_3_code 8 = .ok (.aload_n 0, 1) := by decide +kernel
theorem d9_9 : decode prog_16_method_3_code 9 = .ok (.lload_n 1, 1) := by decide +kernel
theorem d9_10 : decode prog_16_method_3_code 10 = .ok (.putfield 37, 3) := by decide +kernel
theorem d9_13 : decode prog_16_method_3_code 13 = .ok (.aload_n 0, 1) := by decide +kernel
theorem d9_14 : decode prog_16_method_3_code 14 = .ok (.lconst 0, 1) := by decide +kernel
theorem d9_15 : decode prog_16_method_3_code 15 = .ok (.putfield 40, 3) := by decide +kernel
theorem d9_18 : decode prog_16_method_3_code 18 = .ok (.aload_n 0, 1) := by decide +kernel
theorem d9_19 : decode prog_16_method_3_code 19 = .ok (.dup, 1) := by decide +kernel
theorem d9_20 : decode prog_16_method_3_code 20 = .ok (.getfield 37, 3) := by decide +kernel
theorem d9_23 : decode prog_16_method_3_code 23 = .ok (.aload_n 0, 1) := by decide +kernel
theorem d9_24 : decode prog_16_method_3_code 24 = .ok (.getfield 13, 3) := by decide +kernel
theorem d9_27 : decode prog_16_method_3_code 27 = .ok (.ladd, 1) := by decide +kernel
theorem d9_28 : decode prog_16_method_3_code 28 = .ok (.putfield 37, 3) := by decide +kernel
theorem d9_31 : decode prog_16_method_3_code 31 = .ok (.aload_n 0, 1) := by decide +kernel
theorem d9_32 : decode prog_16_method_3_code 32 = .ok (.dup, 1) := by decide +kernel
theorem d9_33 : decode prog_16_method_3_code 33 = .ok (.getfield 40, 3) := by decide +kernel
theorem d9_36 : decode prog_16_method_3_code 36 = .ok (.aload_n 0, 1) := by decide +kernel
theorem d9_37 : decode prog_16_method_3_code 37 = .ok (.getfield 16, 3) := by decide +kernel
theorem d9_40 : decode prog_16_method_3_code 40 = .ok (.ladd, 1) := by decide +kernel
theorem d9_41 : decode prog_16_method_3_code 41 = .ok (.putfield 40, 3) := by decide +kernel
theorem d9_44 : decode prog_16_method_3_code 44 = .ok (.aload_n 0, 1) := by decide +kernel
theorem d9_45 : decode prog_16_method_3_code 45 = .ok (.getfield 40, 3) := by decide +kernel
theorem d9_48 : decode prog_16_method_3_code 48 = .ok (.aload_n 0, 1) := by decide +kernel
theorem d9_49 : decode prog_16_method_3_code 49 = .ok (.getfield 7, 3) := by decide +kernel
theorem d9_52 : decode prog_16_method_3_code 52 = .ok (.lcmp, 1) := by decide +kernel
theorem d9_53 : decode prog_16_method_3_code 53 = .ok (.ifCond .lt 26, 3) := by decide +kernel
theorem d9_56 : decode prog_16_method_3_code 56 = .ok (.aload_n 0, 1) := by decide +kernel
theorem d9_57 : decode prog_16_method_3_code 57 = .ok (.dup, 1) := by decide +kernel
theorem d9_58 : decode prog_16_method_3_code 58 = .ok (.getfield 40, 3) := by decide +kernel
theorem d9_61 : decode prog_16_method_3_code 61 = .ok (.aload_n 0, 1) := by decide +kernel
theorem d9_62 : decode prog_16_method_3_code 62 = .ok (.getfield 7, 3) := by decide +kernel
theorem d9_65 : decode prog_16_method_3_code 65 = .ok (.lsub, 1) := by decide +kernel
theorem d9_66 : decode prog_16_method_3_code 66 = .ok (.putfield 40, 3) := by decide +kernel
theorem d9_69 : decode prog_16_method_3_code 69 = .ok (.aload_n 0, 1) := by decide +kernel
theorem d9_70 : decode prog_16_method_3_code 70 = .ok (.dup, 1) := by decide +kernel
theorem d9_71 : decode prog_16_method_3_code 71 = .ok (.getfield 37, 3) := by decide +kernel
theorem d9_74 : decode prog_16_method_3_code 74 = .ok (.lconst 1, 1) := by decide +kernel
theorem d9_75 : decode prog_16_method_3_code 75 = .ok (.ladd, 1) := by decide +kernel
theorem d9_76 : decode prog_16_method_3_code 76 = .ok (.putfield 37, 3) := by decide +kernel
theorem d9_79 : decode prog_16_method_3_code 79 = .ok (.return_, 1) := by decide +kernel
theorem pn9 : plainFor (⟨"com/example/api_policy_gateway/apipolicygateway/policy/Pace", "take", "(J)V"⟩ : MethodName) = true := plainFor_of_name (by first | (simp [plainName, overriddenIn]; done) | decide +kernel)
theorem ef9_RJ (m : MethodId) (x0 : Addr) (x1 : Int64) : entryFrame m #[(.ref x0), (.long x1)] 3 = mkF m 0 #[.val (.ref x0), .val (.long x1), .second] [] := by first | (simp [entryFrame, mkF, argsToLocals, Value.category]; done) | rfl
theorem pd__J_Z : parseMethodDescriptor "(J)Z" = some ⟨[.long], some .boolean⟩ := by decide +kernel
def rmr9 : Room := { frames := 1, cells := 0, slots := 0, locals := 14 }
set_option maxRecDepth 65536 in
set_option maxHeartbeats 4000000 in
theorem mt9 (l : Launch) (Z : State) (a0 : Array Value) (hw : ∀ d ∈ tables_1, d.before a0 Z = true) (a : Addr) (t : Int64) (rt iv ip tn tp mw nn np : Int64) (h0 : Heap) (O : Pc Z h0 a (.long rt) (.long iv) (.long ip) (.long tn) (.long tp) (.long mw) (.long nn) (.long np)) : Meth l Z (⟨"com/example/api_policy_gateway/apipolicygateway/policy/Pace", "take", "(J)V"⟩ : MethodName) prog_16_method_3_code 3 none rmr9 #[(.ref a), (.long t)] h0 [a] (fun v h' => v = none ∧ Pc Z h' a (.long rt) (.long iv) (.long ip) (.long tn) (.long tp) (.long mw) (.long (oN rt iv ip nn np t)) (.long (oP rt iv ip nn np t))) := by
  refine Meth.of pn9 ?_
  intro p e s m below meth c T B X
  refine Go.entry (ef9_RJ m a t) ?_
  refine galoadN B X d9_0 rfl rfl (pc' := 1) rfl ?_
  refine glloadN B X d9_1 rfl (pc' := 2) rfl ?_
  refine gcallV B X O.1 (hw _ (List.mem_of_getElem? (i := 55) rfl)) (hw _ (List.mem_of_getElem? (i := 56) rfl)) (hw _ (List.mem_of_getElem? (i := 58) rfl)) (hw _ (List.mem_of_getElem? (i := 57) rfl)) (hw _ (List.mem_of_getElem? (i := 9) rfl)) (hw _ (List.mem_of_getElem? (i := 59) rfl)) rfl (by decide) (mtfull l Z a0 hw a t rt iv ip tn tp mw nn np h0 O) pd__J_Z rfl (argsL := [(.long t)]) (st := []) rfl rfl (W := 0) (Nat.le_of_eq rfl) (by decide) (by decide) (by decide) (by decide) (fun x q => nomatch q) d9_2 (pc' := 5) rfl (pureG rfl rfl fun T62 X63 => ?_)
  by_cases c5_64 : (ffull nn t) = (0 : Int32)
  · refine gifY B X63 (pc' := 18) d9_5 ((if0 _ _).trans (teq c5_64).1) (by decide) ?_
    refine galoadN B X63 d9_18 rfl rfl (pc' := 19) rfl ?_
    refine gdup B X63 d9_19 rfl (pc' := 20) rfl ?_
    refine gget B X63 (hw _ (List.mem_of_getElem? (i := 37) rfl)) O.2.2.2.2.2.2.2.1 d9_20 (pc' := 23) rfl fun T65 X66 => ?_
    refine galoadN B X66 d9_23 rfl rfl (pc' := 24) rfl ?_
    refine gget B X66 (hw _ (List.mem_of_getElem? (i := 18) rfl)) O.2.2.1 d9_24 (pc' := 27) rfl fun T67 X68 => ?_
    refine gladd B X68 d9_27 rfl (pc' := 28) rfl ?_
    refine gput B X68 (ty := .long) (hw _ (List.mem_of_getElem? (i := 37) rfl)) O.2.2.2.2.2.2.2.1 O.1 (Or.inl (hw _ (List.mem_of_getElem? (i := 38) rfl))) (hw _ (List.mem_of_getElem? (i := 8) rfl)) (by decide) rfl rfl (Or.inl (List.mem_of_getElem? (i := 0) rfl)) d9_28 (pc' := 31) rfl fun T69 h70 X71 W72 => ?_
    have O73 := Pc.set6 hw O W72
    refine galoadN B X71 d9_31 rfl rfl (pc' := 32) rfl ?_
    refine gdup B X71 d9_32 rfl (pc' := 33) rfl ?_
    refine gget B X71 (hw _ (List.mem_of_getElem? (i := 44) rfl)) O73.2.2.2.2.2.2.2.2 d9_33 (pc' := 36) rfl fun T74 X75 => ?_
    refine galoadN B X75 d9_36 rfl rfl (pc' := 37) rfl ?_
    refine gget B X75 (hw _ (List.mem_of_getElem? (i := 20) rfl)) O73.2.2.2.1 d9_37 (pc' := 40) rfl fun T76 X77 => ?_
    refine gladd B X77 d9_40 rfl (pc' := 41) rfl ?_
    refine gput B X77 (ty := .long) (hw _ (List.mem_of_getElem? (i := 44) rfl)) O73.2.2.2.2.2.2.2.2 O73.1 (Or.inl (hw _ (List.mem_of_getElem? (i := 45) rfl))) (hw _ (List.mem_of_getElem? (i := 8) rfl)) (by decide) rfl rfl (Or.inl (List.mem_of_getElem? (i := 0) rfl)) d9_41 (pc' := 44) rfl fun T78 h79 X80 W81 => ?_
    have O82 := Pc.set7 hw O73 W81
    refine galoadN B X80 d9_44 rfl rfl (pc' := 45) rfl ?_
    refine gget B X80 (hw _ (List.mem_of_getElem? (i := 44) rfl)) O82.2.2.2.2.2.2.2.2 d9_45 (pc' := 48) rfl fun T83 X84 => ?_
    refine galoadN B X84 d9_48 rfl rfl (pc' := 49) rfl ?_
    refine gget B X84 (hw _ (List.mem_of_getElem? (i := 16) rfl)) O82.2.1 d9_49 (pc' := 52) rfl fun T85 X86 => ?_
    refine glcmp B X86 d9_52 (pc' := 53) rfl ?_
    by_cases c53_87 : (np + ip) < rt
    · refine gifY B X86 (pc' := 79) d9_53 ((if0 _ _).trans (tlt (((lw_lt (np + ip) rt)).mpr c53_87)).1) (by decide) ?_
      exact gretV B X86 d9_79 (by decide) (by decide) (⟨rfl, by rw [oN, oP, if_pos c5_64, if_pos c53_87, if_pos c5_64, if_pos c53_87]; exact O82⟩)
    · refine gifN B X86 d9_53 ((if0 _ _).trans (flt (mt ((lw_lt (np + ip) rt)).mp c53_87)).1) (pc' := 56) rfl ?_
      refine galoadN B X86 d9_56 rfl rfl (pc' := 57) rfl ?_
      refine gdup B X86 d9_57 rfl (pc' := 58) rfl ?_
      refine gget B X86 (hw _ (List.mem_of_getElem? (i := 44) rfl)) O82.2.2.2.2.2.2.2.2 d9_58 (pc' := 61) rfl fun T88 X89 => ?_
      refine galoadN B X89 d9_61 rfl rfl (pc' := 62) rfl ?_
      refine gget B X89 (hw _ (List.mem_of_getElem? (i := 16) rfl)) O82.2.1 d9_62 (pc' := 65) rfl fun T90 X91 => ?_
      refine glsub B X91 d9_65 rfl (pc' := 66) rfl ?_
      refine gput B X91 (ty := .long) (hw _ (List.mem_of_getElem? (i := 44) rfl)) O82.2.2.2.2.2.2.2.2 O82.1 (Or.inl (hw _ (List.mem_of_getElem? (i := 45) rfl))) (hw _ (List.mem_of_getElem? (i := 8) rfl)) (by decide) rfl rfl (Or.inl (List.mem_of_getElem? (i := 0) rfl)) d9_66 (pc' := 69) rfl fun T92 h93 X94 W95 => ?_
      have O96 := Pc.set7 hw O82 W95
      refine galoadN B X94 d9_69 rfl rfl (pc' := 70) rfl ?_
      refine gdup B X94 d9_70 rfl (pc' := 71) rfl ?_
      refine gget B X94 (hw _ (List.mem_of_getElem? (i := 37) rfl)) O96.2.2.2.2.2.2.2.1 d9_71 (pc' := 74) rfl fun T97 X98 => ?_
      refine glconst B X98 d9_74 (v := (1 : Int64)) rfl (pc' := 75) rfl ?_
      refine gladd B X98 d9_75 rfl (pc' := 76) rfl ?_
      refine gput B X98 (ty := .long) (hw _ (List.mem_of_getElem? (i := 37) rfl)) O96.2.2.2.2.2.2.2.1 O96.1 (Or.inl (hw _ (List.mem_of_getElem? (i := 38) rfl))) (hw _ (List.mem_of_getElem? (i := 8) rfl)) (by decide) rfl rfl (Or.inl (List.mem_of_getElem? (i := 0) rfl)) d9_76 (pc' := 79) rfl fun T99 h100 X101 W102 => ?_
      have O103 := Pc.set6 hw O96 W102
      exact gretV B X101 d9_79 (by decide) (by decide) (⟨rfl, by rw [oN, oP, if_pos c5_64, if_neg c53_87, if_pos c5_64, if_neg c53_87]; exact O103⟩)
  · refine gifN B X63 d9_5 ((if0 _ _).trans (feq c5_64).1) (pc' := 8) rfl ?_
    refine galoadN B X63 d9_8 rfl rfl (pc' := 9) rfl ?_
    refine glloadN B X63 d9_9 rfl (pc' := 10) rfl ?_
    refine gput B X63 (ty := .long) (hw _ (List.mem_of_getElem? (i := 37) rfl)) O.2.2.2.2.2.2.2.1 O.1 (Or.inl (hw _ (List.mem_of_getElem? (i := 38) rfl))) (hw _ (List.mem_of_getElem? (i := 8) rfl)) (by decide) rfl rfl (Or.inl (List.mem_of_getElem? (i := 0) rfl)) d9_10 (pc' := 13) rfl fun T104 h105 X106 W107 => ?_
    have O108 := Pc.set6 hw O W107
    refine galoadN B X106 d9_13 rfl rfl (pc' := 14) rfl ?_
    refine glconst B X106 d9_14 (v := (0 : Int64)) rfl (pc' := 15) rfl ?_
    refine gput B X106 (ty := .long) (hw _ (List.mem_of_getElem? (i := 44) rfl)) O108.2.2.2.2.2.2.2.2 O108.1 (Or.inl (hw _ (List.mem_of_getElem? (i := 45) rfl))) (hw _ (List.mem_of_getElem? (i := 8) rfl)) (by decide) rfl rfl (Or.inl (List.mem_of_getElem? (i := 0) rfl)) d9_15 (pc' := 18) rfl fun T109 h110 X111 W112 => ?_
    have O113 := Pc.set7 hw O108 W112
    refine galoadN B X111 d9_18 rfl rfl (pc' := 19) rfl ?_
    refine gdup B X111 d9_19 rfl (pc' := 20) rfl ?_
    refine gget B X111 (hw _ (List.mem_of_getElem? (i := 37) rfl)) O113.2.2.2.2.2.2.2.1 d9_20 (pc' := 23) rfl fun T114 X115 => ?_
    refine galoadN B X115 d9_23 rfl rfl (pc' := 24) rfl ?_
    refine gget B X115 (hw _ (List.mem_of_getElem? (i := 18) rfl)) O113.2.2.1 d9_24 (pc' := 27) rfl fun T116 X117 => ?_
    refine gladd B X117 d9_27 rfl (pc' := 28) rfl ?_
    refine gput B X117 (ty := .long) (hw _ (List.mem_of_getElem? (i := 37) rfl)) O113.2.2.2.2.2.2.2.1 O113.1 (Or.inl (hw _ (List.mem_of_getElem? (i := 38) rfl))) (hw _ (List.mem_of_getElem? (i := 8) rfl)) (by decide) rfl rfl (Or.inl (List.mem_of_getElem? (i := 0) rfl)) d9_28 (pc' := 31) rfl fun T118 h119 X120 W121 => ?_
    have O122 := Pc.set6 hw O113 W121
    refine galoadN B X120 d9_31 rfl rfl (pc' := 32) rfl ?_
    refine gdup B X120 d9_32 rfl (pc' := 33) rfl ?_
    refine gget B X120 (hw _ (List.mem_of_getElem? (i := 44) rfl)) O122.2.2.2.2.2.2.2.2 d9_33 (pc' := 36) rfl fun T123 X124 => ?_
    refine galoadN B X124 d9_36 rfl rfl (pc' := 37) rfl ?_
    refine gget B X124 (hw _ (List.mem_of_getElem? (i := 20) rfl)) O122.2.2.2.1 d9_37 (pc' := 40) rfl fun T125 X126 => ?_
    refine gladd B X126 d9_40 rfl (pc' := 41) rfl ?_
    refine gput B X126 (ty := .long) (hw _ (List.mem_of_getElem? (i := 44) rfl)) O122.2.2.2.2.2.2.2.2 O122.1 (Or.inl (hw _ (List.mem_of_getElem? (i := 45) rfl))) (hw _ (List.mem_of_getElem? (i := 8) rfl)) (by decide) rfl rfl (Or.inl (List.mem_of_getElem? (i := 0) rfl)) d9_41 (pc' := 44) rfl fun T127 h128 X129 W130 => ?_
    have O131 := Pc.set7 hw O122 W130
    refine galoadN B X129 d9_44 rfl rfl (pc' := 45) rfl ?_
    refine gget B X129 (hw _ (List.mem_of_getElem? (i := 44) rfl)) O131.2.2.2.2.2.2.2.2 d9_45 (pc' := 48) rfl fun T132 X133 => ?_
    refine galoadN B X133 d9_48 rfl rfl (pc' := 49) rfl ?_
    refine gget B X133 (hw _ (List.mem_of_getElem? (i := 16) rfl)) O131.2.1 d9_49 (pc' := 52) rfl fun T134 X135 => ?_
    refine glcmp B X135 d9_52 (pc' := 53) rfl ?_
    by_cases c53_136 : ((0 : Int64) + ip) < rt
    · refine gifY B X135 (pc' := 79) d9_53 ((if0 _ _).trans (tlt (((lw_lt ((0 : Int64) + ip) rt)).mpr c53_136)).1) (by decide) ?_
      exact gretV B X135 d9_79 (by decide) (by decide) (⟨rfl, by rw [oN, oP, if_neg c5_64, if_pos c53_136, if_neg c5_64, if_pos c53_136]; exact O131⟩)
    · refine gifN B X135 d9_53 ((if0 _ _).trans (flt (mt ((lw_lt ((0 : Int64) + ip) rt)).mp c53_136)).1) (pc' := 56) rfl ?_
      refine galoadN B X135 d9_56 rfl rfl (pc' := 57) rfl ?_
      refine gdup B X135 d9_57 rfl (pc' := 58) rfl ?_
      refine gget B X135 (hw _ (List.mem_of_getElem? (i := 44) rfl)) O131.2.2.2.2.2.2.2.2 d9_58 (pc' := 61) rfl fun T137 X138 => ?_
      refine galoadN B X138 d9_61 rfl rfl (pc' := 62) rfl ?_
      refine gget B X138 (hw _ (List.mem_of_getElem? (i := 16) rfl)) O131.2.1 d9_62 (pc' := 65) rfl fun T139 X140 => ?_
      refine glsub B X140 d9_65 rfl (pc' := 66) rfl ?_
      refine gput B X140 (ty := .long) (hw _ (List.mem_of_getElem? (i := 44) rfl)) O131.2.2.2.2.2.2.2.2 O131.1 (Or.inl (hw _ (List.mem_of_getElem? (i := 45) rfl))) (hw _ (List.mem_of_getElem? (i := 8) rfl)) (by decide) rfl rfl (Or.inl (List.mem_of_getElem? (i := 0) rfl)) d9_66 (pc' := 69) rfl fun T141 h142 X143 W144 => ?_
      have O145 := Pc.set7 hw O131 W144
      refine galoadN B X143 d9_69 rfl rfl (pc' := 70) rfl ?_
      refine gdup B X143 d9_70 rfl (pc' := 71) rfl ?_
      refine gget B X143 (hw _ (List.mem_of_getElem? (i := 37) rfl)) O145.2.2.2.2.2.2.2.1 d9_71 (pc' := 74) rfl fun T146 X147 => ?_
      refine glconst B X147 d9_74 (v := (1 : Int64)) rfl (pc' := 75) rfl ?_
      refine gladd B X147 d9_75 rfl (pc' := 76) rfl ?_
      refine gput B X147 (ty := .long) (hw _ (List.mem_of_getElem? (i := 37) rfl)) O145.2.2.2.2.2.2.2.1 O145.1 (Or.inl (hw _ (List.mem_of_getElem? (i := 38) rfl))) (hw _ (List.mem_of_getElem? (i := 8) rfl)) (by decide) rfl rfl (Or.inl (List.mem_of_getElem? (i := 0) rfl)) d9_76 (pc' := 79) rfl fun T148 h149 X150 W151 => ?_
      have O152 := Pc.set6 hw O145 W151
      exact gretV B X150 d9_79 (by decide) (by decide) (⟨rfl, by rw [oN, oP, if_neg c5_64, if_neg c53_136, if_neg c5_64, if_neg c53_136]; exact O152⟩)
theorem d7_0 : decode prog_16_method_2_code 0 = .ok (.aload_n 0, 1) := by decide +kernel
theorem d7_1 : decode prog_16_method_2_code 1 = .ok (.getfield 37, 3) := by decide +kernel
theorem d7_4 : decode prog_16_method_2_code 4 = .ok (.aload_n 0, 1) := by decide +kernel
theorem d7_5 : decode prog_16_method_2_code 5 = .ok (.getfield 28, 3) := by decide +kernel
theorem d7_8 : decode prog_16_method_2_code 8 = .ok (.lsub, 1) := by decide +kernel
theorem d7_9 : decode prog_16_method_2_code 9 = .ok (.lstore_n 3, 1) := by decide +kernel
theorem d7_10 : decode prog_16_method_2_code 10 = .ok (.aload_n 0, 1) := by decide +kernel
theorem d7_11 : decode prog_16_method_2_code 11 = .ok (.getfield 40, 3) := by decide +kernel
theorem d7_14 : decode prog_16_method_2_code 14 = .ok (.aload_n 0, 1) := by decide +kernel
theorem d7_15 : decode prog_16_method_2_code 15 = .ok (.getfield 31, 3) := by decide +kernel
theorem d7_18 : decode prog_16_method_2_code 18 = .ok (.lsub, 1) := by decide +kernel
theorem d7_19 : decode prog_16_method_2_code 19 = .ok (.lstore 5, 2) := by decide +kernel
theorem d7_21 : decode prog_16_method_2_code 21 = .ok (.lload 5, 2) := by decide +kernel
theorem d7_23 : decode prog_16_method_2_code 23 = .ok (.lconst 0, 1) := by decide +kernel
theorem d7_24 : decode prog_16_method_2_code 24 = .ok (.lcmp, 1) := by decide +kernel
theorem d7_25 : decode prog_16_method_2_code 25 = .ok (.ifCond .ge 16, 3) := by decide +kernel
theorem d7_28 : decode prog_16_method_2_code 28 = .ok (.lload 5, 2) := by decide +kernel
theorem d7_30 : decode prog_16_method_2_code 30 = .ok (.aload_n 0, 1) := by decide +kernel
theorem d7_31 : decode prog_16_method_2_code 31 = .ok (.getfield 7, 3) := by decide +kernel
theorem d7_34 : decode prog_16_method_2_code 34 = .ok (.ladd, 1) := by decide +kernel
theorem d7_35 : decode prog_16_method_2_code 35 = .ok (.lstore 5, 2) := by decide +kernel
theorem d7_37 : decode prog_16_method_2_code 37 = .ok (.lload_n 3, 1) := by decide +kernel
theorem d7_38 : decode prog_16_method_2_code 38 = .ok (.lconst 1, 1) := by decide +kernel
theorem d7_39 : decode prog_16_method_2_code 39 = .ok (.lsub, 1) := by decide +kernel
theorem d7_40 : decode prog_16_method_2_code 40 = .ok (.lstore_n 3, 1) := by decide +kernel
theorem d7_41 : decode prog_16_method_2_code 41 = .ok (.lconst 0, 1) := by decide +kernel
theorem d7_42 : decode prog_16_method_2_code 42 = .ok (.lload_n 3, 1) := by decide +kernel
theorem d7_43 : decode prog_16_method_2_code 43 = .ok (.lload_n 1, 1) := by decide +kernel
theorem d7_44 : decode prog_16_method_2_code 44 = .ok (.lsub, 1) := by decide +kernel
theorem d7_45 : decode prog_16_method_2_code 45 = .ok (.lload 5, 2) := by decide +kernel
theorem d7_47 : decode prog_16_method_2_code 47 = .ok (.lconst 0, 1) := by decide +kernel
theorem d7_48 : decode prog_16_method_2_code 48 = .ok (.lcmp, 1) := by decide +kernel
theorem d7_49 : decode prog_16_method_2_code 49 = .ok (.ifCond .le 7, 3) := by decide +kernel
theorem d7_52 : decode prog_16_method_2_code 52 = .ok (.iconst 1, 1) := by decide +kernel
theorem d7_53 : decode prog_16_method_2_code 53 = .ok (.goto 4, 3) := by decide +kernel
theorem d7_56 : decode prog_16_method_2_code 56 = .ok (.iconst 0, 1) := by decide +kernel
theorem d7_57 : decode prog_16_method_2_code 57 = .ok (.i2l, 1) := by decide +kernel
theorem d7_58 : decode prog_16_method_2_code 58 = .ok (.ladd, 1) := by decide +kernel
theorem d7_59 : decode prog_16_method_2_code 59 = .ok (.invokestatic 43, 3) := by decide +kernel
theorem d7_62 : decode prog_16_method_2_code 62 = .ok (.lstore 7, 2) := by decide +kernel
theorem d7_64 : decode prog_16_method_2_code 64 = .ok (.lload 7, 2) := by decide +kernel
theorem d7_66 : decode prog_16_method_2_code 66 = .ok (.aload_n 0, 1) := by decide +kernel
theorem d7_67 : decode prog_16_method_2_code 67 = .ok (.getfield 34, 3) := by decide +kernel
theorem d7_70 : decode prog_16_method_2_code 70 = .ok (.lcmp, 1) := by decide +kernel
theorem d7_71 : decode prog_16_method_2_code 71 = .ok (.ifCond .le 9, 3) := by decide +kernel
theorem d7_74 : decode prog_16_method_2_code 74 = .ok (.ldc2_w 46, 3) := by decide +kernel
theorem d7_77 : decode prog_16_method_2_code 77 = .ok (.goto 5, 3) := by decide +kernel
theorem d7_80 : decode prog_16_method_2_code 80 = .ok (.lload 7, 2) := by decide +kernel
theorem d7_82 : decode prog_16_method_2_code 82 = .ok (.lreturn, 1) := by decide +kernel
theorem pn7 : plainFor (⟨"com/example/api_policy_gateway/apipolicygateway/policy/Pace", "untilTurn", "(J)J"⟩ : MethodName) = true := plainFor_of_name (by first | (simp [plainName, overriddenIn]; done) | decide +kernel)
theorem ef7_RJ (m : MethodId) (x0 : Addr) (x1 : Int64) : entryFrame m #[(.ref x0), (.long x1)] 9 = mkF m 0 #[.val (.ref x0), .val (.long x1), .second, .unset, .unset, .unset, .unset, .unset, .unset] [] := by first | (simp [entryFrame, mkF, argsToLocals, Value.category]; done) | rfl
def fut (rt : Int64) (tn : Int64) (tp : Int64) (mw : Int64) (nn : Int64) (np : Int64) (t : Int64) : Int64 := if (np - tp) < (0 : Int64) then (if (0 : Int64) < ((np - tp) + rt) then (if mw < (fmaxL (0 : Int64) ((((nn - tn) - (1 : Int64)) - t) + (1 : Int64))) then (-1 : Int64) else ((fmaxL (0 : Int64) ((((nn - tn) - (1 : Int64)) - t) + (1 : Int64))))) else (if mw < (fmaxL (0 : Int64) ((((nn - tn) - (1 : Int64)) - t) + (0 : Int64))) then (-1 : Int64) else ((fmaxL (0 : Int64) ((((nn - tn) - (1 : Int64)) - t) + (0 : Int64)))))) else (if (0 : Int64) < (np - tp) then (if mw < (fmaxL (0 : Int64) (((nn - tn) - t) + (1 : Int64))) then (-1 : Int64) else ((fmaxL (0 : Int64) (((nn - tn) - t) + (1 : Int64))))) else (if mw < (fmaxL (0 : Int64) (((nn - tn) - t) + (0 : Int64))) then (-1 : Int64) else ((fmaxL (0 : Int64) (((nn - tn) - t) + (0 : Int64))))))
def rmr7 : Room := { frames := 1, cells := 0, slots := 0, locals := 15 }
set_option maxRecDepth 65536 in
set_option maxHeartbeats 4000000 in
theorem mtut (l : Launch) (Z : State) (a0 : Array Value) (hw : ∀ d ∈ tables_1, d.before a0 Z = true) (a : Addr) (t : Int64) (rt iv ip tn tp mw nn np : Int64) (h0 : Heap) (O : Pc Z h0 a (.long rt) (.long iv) (.long ip) (.long tn) (.long tp) (.long mw) (.long nn) (.long np)) : Meth l Z (⟨"com/example/api_policy_gateway/apipolicygateway/policy/Pace", "untilTurn", "(J)J"⟩ : MethodName) prog_16_method_2_code 9 (some .long) rmr7 #[(.ref a), (.long t)] h0 [] (fun vr h' => vr = some (.long (fut rt tn tp mw nn np t)) ∧ h' = h0) := by
  refine Meth.of pn7 ?_
  intro p e s m below meth c T B X
  refine Go.entry (ef7_RJ m a t) ?_
  refine galoadN B X d7_0 rfl rfl (pc' := 1) rfl ?_
  refine gget B X (hw _ (List.mem_of_getElem? (i := 37) rfl)) O.2.2.2.2.2.2.2.1 d7_1 (pc' := 4) rfl fun T153 X154 => ?_
  refine galoadN B X154 d7_4 rfl rfl (pc' := 5) rfl ?_
  refine gget B X154 (hw _ (List.mem_of_getElem? (i := 31) rfl)) O.2.2.2.2.1 d7_5 (pc' := 8) rfl fun T155 X156 => ?_
  refine glsub B X156 d7_8 rfl (pc' := 9) rfl ?_
  refine glstoreN B X156 d7_9 (Ls' := #[.val (.ref a), .val (.long t), .second, .val (.long (nn - tn)), .second, .unset, .unset, .unset, .unset]) rfl (pc' := 10) rfl ?_
  refine galoadN B X156 d7_10 rfl rfl (pc' := 11) rfl ?_
  refine gget B X156 (hw _ (List.mem_of_getElem? (i := 44) rfl)) O.2.2.2.2.2.2.2.2 d7_11 (pc' := 14) rfl fun T157 X158 => ?_
  refine galoadN B X158 d7_14 rfl rfl (pc' := 15) rfl ?_
  refine gget B X158 (hw _ (List.mem_of_getElem? (i := 33) rfl)) O.2.2.2.2.2.1 d7_15 (pc' := 18) rfl fun T159 X160 => ?_
  refine glsub B X160 d7_18 rfl (pc' := 19) rfl ?_
  refine glstore B X160 d7_19 (Ls' := #[.val (.ref a), .val (.long t), .second, .val (.long (nn - tn)), .second, .val (.long (np - tp)), .second, .unset, .unset]) rfl (pc' := 21) rfl ?_
  refine glload B X160 d7_21 rfl (pc' := 23) rfl ?_
  refine glconst B X160 d7_23 (v := (0 : Int64)) rfl (pc' := 24) rfl ?_
  refine glcmp B X160 d7_24 (pc' := 25) rfl ?_
  by_cases c25_161 : (np - tp) < (0 : Int64)
  · refine gifN B X160 d7_25 ((if0 _ _).trans (tlt (((lw_lt (np - tp) (0 : Int64))).mpr c25_161)).2.1) (pc' := 28) rfl ?_
    refine glload B X160 d7_28 rfl (pc' := 30) rfl ?_
    refine galoadN B X160 d7_30 rfl rfl (pc' := 31) rfl ?_
    refine gget B X160 (hw _ (List.mem_of_getElem? (i := 16) rfl)) O.2.1 d7_31 (pc' := 34) rfl fun T162 X163 => ?_
    refine gladd B X163 d7_34 rfl (pc' := 35) rfl ?_
    refine glstore B X163 d7_35 (Ls' := #[.val (.ref a), .val (.long t), .second, .val (.long (nn - tn)), .second, .val (.long ((np - tp) + rt)), .second, .unset, .unset]) rfl (pc' := 37) rfl ?_
    refine glloadN B X163 d7_37 rfl (pc' := 38) rfl ?_
    refine glconst B X163 d7_38 (v := (1 : Int64)) rfl (pc' := 39) rfl ?_
    refine glsub B X163 d7_39 rfl (pc' := 40) rfl ?_
    refine glstoreN B X163 d7_40 (Ls' := #[.val (.ref a), .val (.long t), .second, .val (.long ((nn - tn) - (1 : Int64))), .second, .val (.long ((np - tp) + rt)), .second, .unset, .unset]) rfl (pc' := 41) rfl ?_
    refine glconst B X163 d7_41 (v := (0 : Int64)) rfl (pc' := 42) rfl ?_
    refine glloadN B X163 d7_42 rfl (pc' := 43) rfl ?_
    refine glloadN B X163 d7_43 rfl (pc' := 44) rfl ?_
    refine glsub B X163 d7_44 rfl (pc' := 45) rfl ?_
    refine glload B X163 d7_45 rfl (pc' := 47) rfl ?_
    refine glconst B X163 d7_47 (v := (0 : Int64)) rfl (pc' := 48) rfl ?_
    refine glcmp B X163 d7_48 (pc' := 49) rfl ?_
    by_cases c49_164 : (0 : Int64) < ((np - tp) + rt)
    · refine gifN B X163 d7_49 ((if0 _ _).trans (tlt (((lw_gt ((np - tp) + rt) (0 : Int64))).mpr c49_164)).2.2.2) (pc' := 52) rfl ?_
      refine giconst B X163 d7_52 (v := (1 : Int32)) rfl (pc' := 53) rfl ?_
      refine ggoto B X163 (pc' := 57) d7_53 (by decide) ?_
      refine gi2l B X163 d7_57 (v := (1 : Int64)) (by decide) (pc' := 58) rfl ?_
      refine gladd B X163 d7_58 rfl (pc' := 59) rfl ?_
      refine gcallS B X163 (hw _ (List.mem_of_getElem? (i := 46) rfl)) (hw _ (List.mem_of_getElem? (i := 47) rfl)) (hw _ (List.mem_of_getElem? (i := 4) rfl)) (hw _ (List.mem_of_getElem? (i := 48) rfl)) (by decide) (mtmaxL l Z a0 hw (0 : Int64) ((((nn - tn) - (1 : Int64)) - t) + (1 : Int64))  h0 ) pd__JJ_J rfl (argsL := [(.long (0 : Int64)), (.long ((((nn - tn) - (1 : Int64)) - t) + (1 : Int64)))]) (st := []) rfl rfl (W := 0) (Nat.le_of_eq rfl) (by decide) (by decide) (by decide) (by decide) (fun x q => nomatch q) d7_59 (pc' := 62) rfl (pureG rfl rfl fun T165 X166 => ?_)
      refine glstore B X166 d7_62 (Ls' := #[.val (.ref a), .val (.long t), .second, .val (.long ((nn - tn) - (1 : Int64))), .second, .val (.long ((np - tp) + rt)), .second, .val (.long (fmaxL (0 : Int64) ((((nn - tn) - (1 : Int64)) - t) + (1 : Int64)))), .second]) rfl (pc' := 64) rfl ?_
      refine glload B X166 d7_64 rfl (pc' := 66) rfl ?_
      refine galoadN B X166 d7_66 rfl rfl (pc' := 67) rfl ?_
      refine gget B X166 (hw _ (List.mem_of_getElem? (i := 35) rfl)) O.2.2.2.2.2.2.1 d7_67 (pc' := 70) rfl fun T167 X168 => ?_
      refine glcmp B X168 d7_70 (pc' := 71) rfl ?_
      by_cases c71_169 : mw < (fmaxL (0 : Int64) ((((nn - tn) - (1 : Int64)) - t) + (1 : Int64)))
      · refine gifN B X168 d7_71 ((if0 _ _).trans (tlt (((lw_gt (fmaxL (0 : Int64) ((((nn - tn) - (1 : Int64)) - t) + (1 : Int64))) mw)).mpr c71_169)).2.2.2) (pc' := 74) rfl ?_
        refine gldc2 B X168 (v := (-1 : Int64)) (hw _ (List.mem_of_getElem? (i := 60) rfl)) d7_74 (pc' := 77) rfl ?_
        refine ggoto B X168 (pc' := 82) d7_77 (by decide) ?_
        exact gretL B X168 d7_82 (by decide) (by decide) (⟨by rw [fut, if_pos c25_161, if_pos c49_164, if_pos c71_169], rfl⟩)
      · refine gifY B X168 (pc' := 80) d7_71 ((if0 _ _).trans (flt (mt ((lw_gt (fmaxL (0 : Int64) ((((nn - tn) - (1 : Int64)) - t) + (1 : Int64))) mw)).mp c71_169)).2.2.2) (by decide) ?_
        refine glload B X168 d7_80 rfl (pc' := 82) rfl ?_
        exact gretL B X168 d7_82 (by decide) (by decide) (⟨by rw [fut, if_pos c25_161, if_pos c49_164, if_neg c71_169], rfl⟩)
    · refine gifY B X163 (pc' := 56) d7_49 ((if0 _ _).trans (flt (mt ((lw_gt ((np - tp) + rt) (0 : Int64))).mp c49_164)).2.2.2) (by decide) ?_
      refine giconst B X163 d7_56 (v := (0 : Int32)) rfl (pc' := 57) rfl ?_
      refine gi2l B X163 d7_57 (v := (0 : Int64)) (by decide) (pc' := 58) rfl ?_
      refine gladd B X163 d7_58 rfl (pc' := 59) rfl ?_
      refine gcallS B X163 (hw _ (List.mem_of_getElem? (i := 46) rfl)) (hw _ (List.mem_of_getElem? (i := 47) rfl)) (hw _ (List.mem_of_getElem? (i := 4) rfl)) (hw _ (List.mem_of_getElem? (i := 48) rfl)) (by decide) (mtmaxL l Z a0 hw (0 : Int64) ((((nn - tn) - (1 : Int64)) - t) + (0 : Int64))  h0 ) pd__JJ_J rfl (argsL := [(.long (0 : Int64)), (.long ((((nn - tn) - (1 : Int64)) - t) + (0 : Int64)))]) (st := []) rfl rfl (W := 0) (Nat.le_of_eq rfl) (by decide) (by decide) (by decide) (by decide) (fun x q => nomatch q) d7_59 (pc' := 62) rfl (pureG rfl rfl fun T170 X171 => ?_)
      refine glstore B X171 d7_62 (Ls' := #[.val (.ref a), .val (.long t), .second, .val (.long ((nn - tn) - (1 : Int64))), .second, .val (.long ((np - tp) + rt)), .second, .val (.long (fmaxL (0 : Int64) ((((nn - tn) - (1 : Int64)) - t) + (0 : Int64)))), .second]) rfl (pc' := 64) rfl ?_
      refine glload B X171 d7_64 rfl (pc' := 66) rfl ?_
      refine galoadN B X171 d7_66 rfl rfl (pc' := 67) rfl ?_
      refine gget B X171 (hw _ (List.mem_of_getElem? (i := 35) rfl)) O.2.2.2.2.2.2.1 d7_67 (pc' := 70) rfl fun T172 X173 => ?_
      refine glcmp B X173 d7_70 (pc' := 71) rfl ?_
      by_cases c71_174 : mw < (fmaxL (0 : Int64) ((((nn - tn) - (1 : Int64)) - t) + (0 : Int64)))
      · refine gifN B X173 d7_71 ((if0 _ _).trans (tlt (((lw_gt (fmaxL (0 : Int64) ((((nn - tn) - (1 : Int64)) - t) + (0 : Int64))) mw)).mpr c71_174)).2.2.2) (pc' := 74) rfl ?_
        refine gldc2 B X173 (v := (-1 : Int64)) (hw _ (List.mem_of_getElem? (i := 60) rfl)) d7_74 (pc' := 77) rfl ?_
        refine ggoto B X173 (pc' := 82) d7_77 (by decide) ?_
        exact gretL B X173 d7_82 (by decide) (by decide) (⟨by rw [fut, if_pos c25_161, if_neg c49_164, if_pos c71_174], rfl⟩)
      · refine gifY B X173 (pc' := 80) d7_71 ((if0 _ _).trans (flt (mt ((lw_gt (fmaxL (0 : Int64) ((((nn - tn) - (1 : Int64)) - t) + (0 : Int64))) mw)).mp c71_174)).2.2.2) (by decide) ?_
        refine glload B X173 d7_80 rfl (pc' := 82) rfl ?_
        exact gretL B X173 d7_82 (by decide) (by decide) (⟨by rw [fut, if_pos c25_161, if_neg c49_164, if_neg c71_174], rfl⟩)
  · refine gifY B X160 (pc' := 41) d7_25 ((if0 _ _).trans (flt (mt ((lw_lt (np - tp) (0 : Int64))).mp c25_161)).2.1) (by decide) ?_
    refine glconst B X160 d7_41 (v := (0 : Int64)) rfl (pc' := 42) rfl ?_
    refine glloadN B X160 d7_42 rfl (pc' := 43) rfl ?_
    refine glloadN B X160 d7_43 rfl (pc' := 44) rfl ?_
    refine glsub B X160 d7_44 rfl (pc' := 45) rfl ?_
    refine glload B X160 d7_45 rfl (pc' := 47) rfl ?_
    refine glconst B X160 d7_47 (v := (0 : Int64)) rfl (pc' := 48) rfl ?_
    refine glcmp B X160 d7_48 (pc' := 49) rfl ?_
    by_cases c49_175 : (0 : Int64) < (np - tp)
    · refine gifN B X160 d7_49 ((if0 _ _).trans (tlt (((lw_gt (np - tp) (0 : Int64))).mpr c49_175)).2.2.2) (pc' := 52) rfl ?_
      refine giconst B X160 d7_52 (v := (1 : Int32)) rfl (pc' := 53) rfl ?_
      refine ggoto B X160 (pc' := 57) d7_53 (by decide) ?_
      refine gi2l B X160 d7_57 (v := (1 : Int64)) (by decide) (pc' := 58) rfl ?_
      refine gladd B X160 d7_58 rfl (pc' := 59) rfl ?_
      refine gcallS B X160 (hw _ (List.mem_of_getElem? (i := 46) rfl)) (hw _ (List.mem_of_getElem? (i := 47) rfl)) (hw _ (List.mem_of_getElem? (i := 4) rfl)) (hw _ (List.mem_of_getElem? (i := 48) rfl)) (by decide) (mtmaxL l Z a0 hw (0 : Int64) (((nn - tn) - t) + (1 : Int64))  h0 ) pd__JJ_J rfl (argsL := [(.long (0 : Int64)), (.long (((nn - tn) - t) + (1 : Int64)))]) (st := []) rfl rfl (W := 0) (Nat.le_of_eq rfl) (by decide) (by decide) (by decide) (by decide) (fun x q => nomatch q) d7_59 (pc' := 62) rfl (pureG rfl rfl fun T176 X177 => ?_)
      refine glstore B X177 d7_62 (Ls' := #[.val (.ref a), .val (.long t), .second, .val (.long (nn - tn)), .second, .val (.long (np - tp)), .second, .val (.long (fmaxL (0 : Int64) (((nn - tn) - t) + (1 : Int64)))), .second]) rfl (pc' := 64) rfl ?_
      refine glload B X177 d7_64 rfl (pc' := 66) rfl ?_
      refine galoadN B X177 d7_66 rfl rfl (pc' := 67) rfl ?_
      refine gget B X177 (hw _ (List.mem_of_getElem? (i := 35) rfl)) O.2.2.2.2.2.2.1 d7_67 (pc' := 70) rfl fun T178 X179 => ?_
      refine glcmp B X179 d7_70 (pc' := 71) rfl ?_
      by_cases c71_180 : mw < (fmaxL (0 : Int64) (((nn - tn) - t) + (1 : Int64)))
      · refine gifN B X179 d7_71 ((if0 _ _).trans (tlt (((lw_gt (fmaxL (0 : Int64) (((nn - tn) - t) + (1 : Int64))) mw)).mpr c71_180)).2.2.2) (pc' := 74) rfl ?_
        refine gldc2 B X179 (v := (-1 : Int64)) (hw _ (List.mem_of_getElem? (i := 60) rfl)) d7_74 (pc' := 77) rfl ?_
        refine ggoto B X179 (pc' := 82) d7_77 (by decide) ?_
        exact gretL B X179 d7_82 (by decide) (by decide) (⟨by rw [fut, if_neg c25_161, if_pos c49_175, if_pos c71_180], rfl⟩)
      · refine gifY B X179 (pc' := 80) d7_71 ((if0 _ _).trans (flt (mt ((lw_gt (fmaxL (0 : Int64) (((nn - tn) - t) + (1 : Int64))) mw)).mp c71_180)).2.2.2) (by decide) ?_
        refine glload B X179 d7_80 rfl (pc' := 82) rfl ?_
        exact gretL B X179 d7_82 (by decide) (by decide) (⟨by rw [fut, if_neg c25_161, if_pos c49_175, if_neg c71_180], rfl⟩)
    · refine gifY B X160 (pc' := 56) d7_49 ((if0 _ _).trans (flt (mt ((lw_gt (np - tp) (0 : Int64))).mp c49_175)).2.2.2) (by decide) ?_
      refine giconst B X160 d7_56 (v := (0 : Int32)) rfl (pc' := 57) rfl ?_
      refine gi2l B X160 d7_57 (v := (0 : Int64)) (by decide) (pc' := 58) rfl ?_
      refine gladd B X160 d7_58 rfl (pc' := 59) rfl ?_
      refine gcallS B X160 (hw _ (List.mem_of_getElem? (i := 46) rfl)) (hw _ (List.mem_of_getElem? (i := 47) rfl)) (hw _ (List.mem_of_getElem? (i := 4) rfl)) (hw _ (List.mem_of_getElem? (i := 48) rfl)) (by decide) (mtmaxL l Z a0 hw (0 : Int64) (((nn - tn) - t) + (0 : Int64))  h0 ) pd__JJ_J rfl (argsL := [(.long (0 : Int64)), (.long (((nn - tn) - t) + (0 : Int64)))]) (st := []) rfl rfl (W := 0) (Nat.le_of_eq rfl) (by decide) (by decide) (by decide) (by decide) (fun x q => nomatch q) d7_59 (pc' := 62) rfl (pureG rfl rfl fun T181 X182 => ?_)
      refine glstore B X182 d7_62 (Ls' := #[.val (.ref a), .val (.long t), .second, .val (.long (nn - tn)), .second, .val (.long (np - tp)), .second, .val (.long (fmaxL (0 : Int64) (((nn - tn) - t) + (0 : Int64)))), .second]) rfl (pc' := 64) rfl ?_
      refine glload B X182 d7_64 rfl (pc' := 66) rfl ?_
      refine galoadN B X182 d7_66 rfl rfl (pc' := 67) rfl ?_
      refine gget B X182 (hw _ (List.mem_of_getElem? (i := 35) rfl)) O.2.2.2.2.2.2.1 d7_67 (pc' := 70) rfl fun T183 X184 => ?_
      refine glcmp B X184 d7_70 (pc' := 71) rfl ?_
      by_cases c71_185 : mw < (fmaxL (0 : Int64) (((nn - tn) - t) + (0 : Int64)))
      · refine gifN B X184 d7_71 ((if0 _ _).trans (tlt (((lw_gt (fmaxL (0 : Int64) (((nn - tn) - t) + (0 : Int64))) mw)).mpr c71_185)).2.2.2) (pc' := 74) rfl ?_
        refine gldc2 B X184 (v := (-1 : Int64)) (hw _ (List.mem_of_getElem? (i := 60) rfl)) d7_74 (pc' := 77) rfl ?_
        refine ggoto B X184 (pc' := 82) d7_77 (by decide) ?_
        exact gretL B X184 d7_82 (by decide) (by decide) (⟨by rw [fut, if_neg c25_161, if_neg c49_175, if_pos c71_185], rfl⟩)
      · refine gifY B X184 (pc' := 80) d7_71 ((if0 _ _).trans (flt (mt ((lw_gt (fmaxL (0 : Int64) (((nn - tn) - t) + (0 : Int64))) mw)).mp c71_185)).2.2.2) (by decide) ?_
        refine glload B X184 d7_80 rfl (pc' := 82) rfl ?_
        exact gretL B X184 d7_82 (by decide) (by decide) (⟨by rw [fut, if_neg c25_161, if_neg c49_175, if_neg c71_185], rfl⟩)
theorem own_lsub {x y : Int64} (h1 : -9223372036854775808 ≤ x.toInt - y.toInt) (h2 : x.toInt - y.toInt < 9223372036854775808) : (x - y).toInt = x.toInt - y.toInt := by
  have := c_lsub x y; have := rng64 (x - y); omega
theorem own_ladd {x y : Int64} (h1 : -9223372036854775808 ≤ x.toInt + y.toInt) (h2 : x.toInt + y.toInt < 9223372036854775808) : (x + y).toInt = x.toInt + y.toInt := by
  have := c_ladd x y; have := rng64 (x + y); omega
theorem own_lmul {x y : Int64} (h1 : -9223372036854775808 ≤ x.toInt * y.toInt) (h2 : x.toInt * y.toInt < 9223372036854775808) : (x * y).toInt = x.toInt * y.toInt := by
  have := c_lmul x y; have := rng64 (x * y); omega
theorem own_ldiv {x y : Int64} (hx : 0 ≤ x.toInt) (hy : 0 < y.toInt) : (x / y).toInt = x.toInt / y.toInt := by
  have hn : y ≠ -1 := fun e => by rw [e] at hy; exact absurd hy (by decide)
  exact (c_ldiv x y y.toInt rfl hn).1 hx
theorem own_lmod {x y : Int64} (hx : 0 ≤ x.toInt) : (x % y).toInt = x.toInt % y.toInt := by
  rw [Int64.toInt_mod]; exact Int.tmod_eq_emod_of_nonneg hx
theorem own_rate (x : Int32) : 0 < (fmax 1 (x &&& 2147483647)).toInt := by
  unfold fmax
  split
  · rename_i h; rw [Int32.lt_iff_toInt_lt] at h; have : (1 : Int32).toInt = 1 := rfl; omega
  · decide
theorem own_wide (k : Int32) : k.toInt64.toInt = k.toInt := c_i2l k
theorem own_nz {k : Int32} (h : 0 < k.toInt) : ¬ k.toInt64 = 0 := fun e => by
  have := c_i2l k; rw [e] at this; have z : (0 : Int64).toInt = 0 := rfl; omega
/-- what the pace keeps, seen from the instant t0: (next - t0) turns and a part, in 1/rate, are j periods -/
def Inv (t0 p r nn np : Int64) (j : Int) : Prop := 0 ≤ (nn - t0).toInt ∧ (nn - t0).toInt ≤ 5764607523034234880 ∧ 0 ≤ np.toInt ∧ np.toInt < r.toInt ∧ (nn - t0).toInt * r.toInt + np.toInt = j * p.toInt
theorem own_inv0 (t0 p r : Int64) (hr : 0 < r.toInt) : Inv t0 p r t0 0 0 := by
  have e : t0 - t0 = 0 := by rw [Int64.sub_self]
  unfold Inv
  rw [e]
  have z : (0 : Int64).toInt = 0 := rfl
  rw [z]; omega
theorem own_notfull {nn t : Int64} (h : 0 ≤ (nn - t).toInt) : ffull nn t = 0 := by
  unfold ffull
  rw [if_neg]
  rw [Int64.lt_iff_toInt_lt]; have z : (0 : Int64).toInt = 0 := rfl; omega
theorem own_step {t0 p r nn np : Int64} {j : Int} (hr : 0 < r.toInt) (hr2 : r.toInt < 2147483648) (hp : 0 ≤ p.toInt) (hp2 : p.toInt ≤ 1152921504606846976) (t : Int64) (hf : ffull nn t = 0) (hD : (nn - t0).toInt ≤ 3458764513820540928) (I : Inv t0 p r nn np j) : Inv t0 p r (oN r (p / r) (p % r) nn np t) (oP r (p / r) (p % r) nn np t) (j + 1) := by
  obtain ⟨h1, h2, h3, h4, h5⟩ := I
  have ei := own_ldiv (x := p) (y := r) hp hr
  have em := own_lmod (x := p) (y := r) hp
  have m0 := Int.emod_nonneg p.toInt (show r.toInt ≠ 0 by omega)
  have m1 := Int.emod_lt_of_pos p.toInt hr
  have dm := Int.mul_ediv_add_emod p.toInt r.toInt
  have d0 : 0 ≤ p.toInt / r.toInt := Int.ediv_nonneg hp (by omega)
  have d1 : p.toInt / r.toInt ≤ p.toInt := Int.ediv_le_self _ hp
  rw [← ei] at d0 d1 dm
  rw [← em] at m0 m1 dm
  have e1 : nn + p / r - t0 = (nn - t0) + p / r := by
    rw [Int64.sub_eq_add_neg, Int64.sub_eq_add_neg, Int64.add_assoc, Int64.add_comm (p / r), ← Int64.add_assoc]
  have e2 : nn + p / r + 1 - t0 = (nn - t0) + p / r + 1 := by
    rw [← e1]
    rw [Int64.sub_eq_add_neg, Int64.sub_eq_add_neg, Int64.add_assoc, Int64.add_comm 1, ← Int64.add_assoc]
  have s1 := own_ladd (x := nn - t0) (y := p / r) (by omega) (by omega)
  have s2 := own_ladd (x := (nn - t0) + p / r) (y := 1) (by have z : (1 : Int64).toInt = 1 := rfl; omega) (by have z : (1 : Int64).toInt = 1 := rfl; omega)
  have s3 := own_ladd (x := np) (y := p % r) (by omega) (by omega)
  have s4 := own_lsub (x := np + p % r) (y := r) (by omega) (by omega)
  have z : (1 : Int64).toInt = 1 := rfl
  rw [z] at s2
  have key : ((nn - t0).toInt + (p / r).toInt) * r.toInt + (np.toInt + (p % r).toInt) = (j + 1) * p.toInt := by
    rw [Int.add_mul, Int.add_mul, Int.one_mul, ← h5, Int.mul_comm (p / r).toInt r.toInt]; omega
  unfold oN oP
  rw [if_pos hf, if_pos hf]
  by_cases c : np + p % r < r
  · rw [if_pos c, if_pos c]
    rw [Int64.lt_iff_toInt_lt, s3] at c
    refine ⟨?_, ?_, ?_, ?_, ?_⟩
    · rw [e1, s1]; omega
    · rw [e1, s1]; omega
    · rw [s3]; omega
    · rw [s3]; omega
    · rw [e1, s1, s3]; exact key
  · rw [if_neg c, if_neg c]
    rw [Int64.lt_iff_toInt_lt, s3] at c
    refine ⟨?_, ?_, ?_, ?_, ?_⟩
    · rw [e2, s2, s1]; omega
    · rw [e2, s2, s1]; omega
    · rw [s4, s3]; omega
    · rw [s4, s3]; omega
    · rw [e2, s2, s1, s4, s3, Int.add_mul, Int.one_mul]; omega
theorem own_bound {t0 p r nn np : Int64} {j : Int} (hr : 0 < r.toInt) (hp : 0 ≤ p.toInt) (hp2 : p.toInt ≤ 1152921504606846976) (h0 : 0 ≤ j) (hj : j ≤ 3) (I : Inv t0 p r nn np j) : (nn - t0).toInt ≤ 3458764513820540928 := by
  obtain ⟨h1, h2, h3, h4, h5⟩ := I
  have a1 : (nn - t0).toInt * 1 ≤ (nn - t0).toInt * r.toInt := Int.mul_le_mul_of_nonneg_left (by omega) h1
  have a2 : j * p.toInt ≤ 3 * p.toInt := Int.mul_le_mul_of_nonneg_right hj hp
  omega
theorem own_div {t0 p r nn np : Int64} {j : Int} (I : Inv t0 p r nn np j) (hr : 0 < r.toInt) : (nn - t0).toInt = j * p.toInt / r.toInt ∧ np.toInt = j * p.toInt % r.toInt := by
  obtain ⟨h1, h2, h3, h4, h5⟩ := I
  rw [← h5]
  constructor
  · rw [Int.add_comm, Int.add_mul_ediv_right _ _ (by omega), Int.ediv_eq_zero_of_lt h3 h4]; omega
  · rw [Int.add_comm, Int.add_mul_emod_self_right, Int.emod_eq_of_lt h3 h4]
theorem own_ceil (M m r : Int) (hr : 0 < r) (h1 : -r < m) (h2 : m < r) : (if M * r + m ≤ 0 then 0 else (M * r + m + r - 1) / r) = if m ≤ 0 then (if 0 < M then M else 0) else (if 0 < M + 1 then M + 1 else 0) := by
  by_cases a : m ≤ 0
  · rw [if_pos a]
    by_cases b : 0 < M
    · have : 1 * r ≤ M * r := Int.mul_le_mul_of_nonneg_right (by omega) (by omega)
      rw [if_pos b, if_neg (by omega), show M * r + m + r - 1 = (m + r - 1) + M * r by omega, Int.add_mul_ediv_right _ _ (by omega), Int.ediv_eq_zero_of_lt (by omega) (by omega)]; omega
    · have : M * r ≤ 0 * r := Int.mul_le_mul_of_nonneg_right (by omega) (by omega)
      rw [if_neg b, if_pos (by omega)]
  · rw [if_neg a]
    by_cases b : 0 < M + 1
    · have : 0 * r ≤ M * r := Int.mul_le_mul_of_nonneg_right (by omega) (by omega)
      rw [if_pos b, if_neg (by omega), show M * r + m + r - 1 = (m - 1) + (M + 1) * r by rw [Int.add_mul]; omega, Int.add_mul_ediv_right _ _ (by omega), Int.ediv_eq_zero_of_lt (by omega) (by omega)]; omega
    · have : M * r ≤ (-1) * r := Int.mul_le_mul_of_nonneg_right (by omega) (by omega)
      rw [if_neg b, if_pos (by omega)]
theorem own_max (z : Int64) : (fmaxL 0 z).toInt = if 0 < z.toInt then z.toInt else 0 := by
  have e : (0 : Int64).toInt = 0 := rfl
  unfold fmaxL
  by_cases h : (0 : Int64) < z
  · rw [if_pos h]; rw [Int64.lt_iff_toInt_lt, e] at h; rw [if_pos h]
  · rw [if_neg h]; rw [Int64.lt_iff_toInt_lt, e] at h; rw [if_neg h]; rfl
theorem own_ut {rt tn tp mw nn np t t0 : Int64} {N : Int} (hr : 0 < rt.toInt) (hr2 : rt.toInt < 2147483648) (hnp : 0 ≤ np.toInt ∧ np.toInt < rt.toInt) (htp : 0 ≤ tp.toInt ∧ tp.toInt < rt.toInt) (hD : 0 ≤ (nn - t0).toInt ∧ (nn - t0).toInt ≤ 5764607523034234880) (ht : 0 ≤ tn.toInt ∧ tn.toInt ≤ 1152921504606846991) (he : -1152921504606846976 ≤ (t - t0).toInt ∧ (t - t0).toInt ≤ 1152921504606846976)
    (hN : ((nn - t0).toInt - tn.toInt - (t - t0).toInt) * rt.toInt + (np.toInt - tp.toInt) = N) (w : Int64) (hw : w.toInt = if N ≤ 0 then 0 else (N + rt.toInt - 1) / rt.toInt) : fut rt tn tp mw nn np t = if mw < w then -1 else w := by
  have z0 : (0 : Int64).toInt = 0 := rfl
  have z1 : (1 : Int64).toInt = 1 := rfl
  have a1 := c_lsub nn tn; have a2 := c_lsub (nn - tn) t; have a3 := c_lsub nn t0; have a4 := c_lsub t t0
  have b1 := c_lsub (nn - tn) 1; have b2 := c_lsub (nn - tn - 1) t; have b3 := c_ladd (nn - tn - 1 - t) 1; have b4 := c_ladd (nn - tn - t) 1; have b5 := c_ladd (nn - tn - t) 0
  rw [z1] at b1 b3 b4; rw [z0] at b5
  have r3 := rng64 (nn - tn - 1 - t + 1); have r4 := rng64 (nn - tn - t + 1); have r5 := rng64 (nn - tn - t + 0)
  have m1 := own_lsub (x := np) (y := tp) (by omega) (by omega)
  have m2 := own_ladd (x := np - tp) (y := rt) (by omega) (by omega)
  rw [← hN, own_ceil _ _ _ hr (by omega) (by omega)] at hw
  generalize hM : (nn - t0).toInt - tn.toInt - (t - t0).toInt = M at *
  have e3 : (nn - tn - 1 - t + 1).toInt = M := by omega
  have e4 : (nn - tn - t + 1).toInt = M + 1 := by omega
  have e5 : (nn - tn - t + 0).toInt = M := by omega
  have x3 : np.toInt - tp.toInt ≤ 0 → fmaxL 0 (nn - tn - 1 - t + 1) = w := fun q => Int64.toInt_inj.mp (by rw [own_max, e3, hw, if_pos q])
  have x4 : ¬ np.toInt - tp.toInt ≤ 0 → fmaxL 0 (nn - tn - t + 1) = w := fun q => Int64.toInt_inj.mp (by rw [own_max, e4, hw, if_neg q])
  have x5 : np.toInt - tp.toInt ≤ 0 → fmaxL 0 (nn - tn - t + 0) = w := fun q => Int64.toInt_inj.mp (by rw [own_max, e5, hw, if_pos q])
  unfold fut
  by_cases c1 : np - tp < 0
  · rw [if_pos c1]
    rw [Int64.lt_iff_toInt_lt, m1, z0] at c1
    rw [if_pos (by rw [Int64.lt_iff_toInt_lt, m2, m1, z0]; omega), x3 (by omega)]
  · rw [if_neg c1]
    rw [Int64.lt_iff_toInt_lt, m1, z0] at c1
    by_cases c2 : 0 < np - tp
    · rw [if_pos c2]
      rw [Int64.lt_iff_toInt_lt, m1, z0] at c2
      rw [x4 (by omega)]
    · rw [if_neg c2]
      rw [Int64.lt_iff_toInt_lt, m1, z0] at c2
      rw [x5 (by omega)]
/-- the tolerance: (b - 1) periods -/
theorem own_tol (q : Int64) (k b : Int32) (hq : 0 ≤ q.toInt) (hq2 : q.toInt ≤ 576460752303423488) (hk : 0 < k.toInt) (hb1 : 1 ≤ b.toInt) (hb2 : b.toInt ≤ 16) (hbq : (b.toInt - 1) * q.toInt ≤ 1152921504606846976) :
    (¬ (b.toInt64 - 1) = (-9223372036854775808 : Int64) ∧ Jvm.Free.XT.fits64 ((b.toInt64 - 1).toInt * (q / k.toInt64).toInt) ∧ Jvm.Free.XT.fits64 (((b.toInt64 - 1) * (q / k.toInt64)).toInt + (((b.toInt64 - 1) * (q % k.toInt64)) / k.toInt64).toInt)) ∧
    (0 ≤ (((b.toInt64 - 1) * (q % k.toInt64)) % k.toInt64).toInt ∧ (((b.toInt64 - 1) * (q % k.toInt64)) % k.toInt64).toInt < k.toInt64.toInt) ∧
    (0 ≤ (((b.toInt64 - 1) * (q / k.toInt64)) + (((b.toInt64 - 1) * (q % k.toInt64)) / k.toInt64)).toInt ∧ (((b.toInt64 - 1) * (q / k.toInt64)) + (((b.toInt64 - 1) * (q % k.toInt64)) / k.toInt64)).toInt ≤ 1152921504606846991) ∧
    (((b.toInt64 - 1) * (q / k.toInt64)) + (((b.toInt64 - 1) * (q % k.toInt64)) / k.toInt64)).toInt * k.toInt64.toInt + (((b.toInt64 - 1) * (q % k.toInt64)) % k.toInt64).toInt = (b.toInt - 1) * q.toInt := by
  have z : (1 : Int64).toInt = 1 := rfl
  have wb := c_i2l b; have wk := c_i2l k; have rk := rng32 k
  have s := own_lsub (x := b.toInt64) (y := 1) (by omega) (by omega)
  rw [z, wb] at s
  have dv := own_ldiv (x := q) (y := k.toInt64) (by omega) (by omega)
  have md := own_lmod (x := q) (y := k.toInt64) (by omega)
  have d0 : 0 ≤ q.toInt / k.toInt64.toInt := Int.ediv_nonneg (by omega) (by omega)
  have d1 : q.toInt / k.toInt64.toInt ≤ q.toInt := Int.ediv_le_self _ (by omega)
  have m0 := Int.emod_nonneg q.toInt (show k.toInt64.toInt ≠ 0 by omega)
  have m1 := Int.emod_lt_of_pos q.toInt (show 0 < k.toInt64.toInt by omega)
  have dm := Int.mul_ediv_add_emod q.toInt k.toInt64.toInt
  rw [← dv] at d0 d1 dm
  rw [← md] at m0 m1 dm
  have p0 : 0 ≤ (b.toInt64 - 1).toInt * (q / k.toInt64).toInt := Int.mul_nonneg (by omega) d0
  have p1 : (b.toInt64 - 1).toInt * (q / k.toInt64).toInt ≤ (b.toInt - 1) * q.toInt := by
    have h := Int.mul_le_mul_of_nonneg_left d1 (show 0 ≤ (b.toInt64 - 1).toInt by omega)
    rw [s] at h ⊢; exact h
  have q0 : 0 ≤ (b.toInt64 - 1).toInt * (q % k.toInt64).toInt := Int.mul_nonneg (by omega) m0
  have q1 : (b.toInt64 - 1).toInt * (q % k.toInt64).toInt ≤ 15 * (q % k.toInt64).toInt := Int.mul_le_mul_of_nonneg_right (by omega) m0
  have e1 := own_lmul (x := b.toInt64 - 1) (y := q / k.toInt64) (by omega) (by omega)
  have e2 := own_lmul (x := b.toInt64 - 1) (y := q % k.toInt64) (by omega) (by omega)
  have e3 := own_ldiv (x := (b.toInt64 - 1) * (q % k.toInt64)) (y := k.toInt64) (by omega) (by omega)
  have e4 := own_lmod (x := (b.toInt64 - 1) * (q % k.toInt64)) (y := k.toInt64) (by omega)
  have f0 : 0 ≤ ((b.toInt64 - 1) * (q % k.toInt64)).toInt / k.toInt64.toInt := Int.ediv_nonneg (by omega) (by omega)
  have f1 : ((b.toInt64 - 1) * (q % k.toInt64)).toInt / k.toInt64.toInt ≤ 15 := by
    have h : ((b.toInt64 - 1) * (q % k.toInt64)).toInt < 16 * k.toInt64.toInt := by omega
    have := Int.ediv_lt_of_lt_mul (show 0 < k.toInt64.toInt by omega) h
    omega
  have g0 := Int.emod_nonneg ((b.toInt64 - 1) * (q % k.toInt64)).toInt (show k.toInt64.toInt ≠ 0 by omega)
  have g1 := Int.emod_lt_of_pos ((b.toInt64 - 1) * (q % k.toInt64)).toInt (show 0 < k.toInt64.toInt by omega)
  have gm := Int.mul_ediv_add_emod ((b.toInt64 - 1) * (q % k.toInt64)).toInt k.toInt64.toInt
  have s2 := own_ladd (x := (b.toInt64 - 1) * (q / k.toInt64)) (y := ((b.toInt64 - 1) * (q % k.toInt64)) / k.toInt64) (by omega) (by omega)
  have fin : ((b.toInt64 - 1) * (q / k.toInt64)).toInt * k.toInt64.toInt + ((b.toInt64 - 1) * (q % k.toInt64)).toInt = (b.toInt - 1) * q.toInt := by
    rw [e1, e2, s, ← dm, Int.mul_add, Int.mul_assoc, Int.mul_comm (q / k.toInt64).toInt]
  refine ⟨⟨fun e => ?_, ⟨by omega, by omega⟩, ⟨by omega, by omega⟩⟩, ⟨by omega, by omega⟩, ⟨by omega, by omega⟩, ?_⟩
  · rw [e] at s
    have : (-9223372036854775808 : Int64).toInt = -9223372036854775808 := rfl
    omega
  · rw [s2, Int.add_mul, e3, e4, ← fin, Int.mul_comm (((b.toInt64 - 1) * (q % k.toInt64)).toInt / k.toInt64.toInt)]; omega
theorem own_p (x : Int64) : 0 ≤ (x &&& 72057594037927935).toInt ∧ (x &&& 72057594037927935).toInt ≤ 72057594037927935 := by
  have h := c_maskL x 72057594037927935 56 (by decide) (by decide)
  rw [h]; omega
theorem own_bq {q : Int64} {b : Int32} (h1 : 0 ≤ q.toInt) (h2 : q.toInt ≤ 72057594037927935) (h3 : 1 ≤ b.toInt) (h4 : b.toInt ≤ 16) : (b.toInt - 1) * q.toInt ≤ 1152921504606846976 := by
  have : (b.toInt - 1) * q.toInt ≤ 15 * q.toInt := Int.mul_le_mul_of_nonneg_right (by omega) h1
  omega
theorem own_b (x : Int32) : 1 ≤ (1 + (x &&& 15)).toInt ∧ (1 + (x &&& 15)).toInt ≤ 16 := by
  have h := c_mask x 15 4 (by decide) (by decide)
  have s := c_iadd 1 (x &&& 15)
  have r := rng32 (1 + (x &&& 15))
  have z : (1 : Int32).toInt = 1 := rfl
  rw [h, z] at s; omega
theorem own_and3 (x : Int32) : x &&& 3 = 0 ∨ x &&& 3 = 1 ∨ x &&& 3 = 2 ∨ x &&& 3 = 3 := by
  have h := c_mask x 3 2 (by decide) (by decide)
  simp only [← Int32.toInt_inj, h, Int32.reduceToInt]; omega
def oW (n r : Int64) : Int64 := if (0 : Int64) < n then ((n + r) - (1 : Int64)) / r else (0 : Int64)
def oX (mw w : Int64) : Int64 := if mw < w then (-1 : Int64) else w
theorem own_fin {t0 p nn np mw : Int64} {k r b d : Int32} (hr : 0 < r.toInt) (hp : 0 ≤ p.toInt) (hp2 : p.toInt ≤ 72057594037927935) (hb1 : 1 ≤ b.toInt) (hb2 : b.toInt ≤ 16) (hk : 0 ≤ k.toInt ∧ k.toInt ≤ 3) (I : Inv t0 p r.toInt64 nn np k.toInt) :
    fut r.toInt64 (((b.toInt64 - 1) * (p / r.toInt64)) + (((b.toInt64 - 1) * (p % r.toInt64)) / r.toInt64)) (((b.toInt64 - 1) * (p % r.toInt64)) % r.toInt64) mw nn np (t0 + d.toInt64) = oX mw (oW (((k.toInt64 - (b.toInt64 - 1)) * p) - (d.toInt64 * r.toInt64)) r.toInt64) := by
  have hbq : (b.toInt - 1) * p.toInt ≤ 1152921504606846976 := by
    have : (b.toInt - 1) * p.toInt ≤ 15 * p.toInt := Int.mul_le_mul_of_nonneg_right (by omega) hp
    omega
  have hbq0 : 0 ≤ (b.toInt - 1) * p.toInt := Int.mul_nonneg (by omega) hp
  obtain ⟨-, htp, htn, hT⟩ := own_tol p r b hp (by omega) hr hb1 hb2 hbq
  have wr := c_i2l r; have wk := c_i2l k; have wb := c_i2l b; have wd := c_i2l d; have rr := rng32 r; have rd := rng32 d
  have I0 := I
  obtain ⟨h1, h2, h3, h4, h5⟩ := I
  have et : (t0 + d.toInt64 - t0).toInt = d.toInt := by
    have a := c_lsub (t0 + d.toInt64) t0; have b := c_ladd t0 d.toInt64; have c := rng64 (t0 + d.toInt64 - t0); omega
  generalize (((b.toInt64 - 1) * (p / r.toInt64)) + (((b.toInt64 - 1) * (p % r.toInt64)) / r.toInt64)) = tn at *
  generalize (((b.toInt64 - 1) * (p % r.toInt64)) % r.toInt64) = tp at *
  have z : (1 : Int64).toInt = 1 := rfl
  have z0 : (0 : Int64).toInt = 0 := rfl
  have s1 := own_lsub (x := b.toInt64) (y := 1) (by omega) (by omega)
  have s2 := own_lsub (x := k.toInt64) (y := b.toInt64 - 1) (by omega) (by omega)
  have kp0 : 0 ≤ k.toInt * p.toInt := Int.mul_nonneg hk.1 hp
  have kp1 : k.toInt * p.toInt ≤ 3 * p.toInt := Int.mul_le_mul_of_nonneg_right hk.2 hp
  have e0 : (k.toInt64 - (b.toInt64 - 1)).toInt * p.toInt = k.toInt * p.toInt - (b.toInt - 1) * p.toInt := by rw [s2, s1, z, wk, wb, Int.sub_mul]
  have s3 := own_lmul (x := k.toInt64 - (b.toInt64 - 1)) (y := p) (by rw [e0]; omega) (by rw [e0]; omega)
  have dr : -4611686018427387904 ≤ d.toInt * r.toInt ∧ d.toInt * r.toInt ≤ 4611686018427387904 := by
    have a := Int.mul_le_mul_of_nonneg_right (show d.toInt ≤ 2147483648 by omega) (show 0 ≤ r.toInt by omega)
    have b := Int.mul_le_mul_of_nonneg_right (show -2147483648 ≤ d.toInt by omega) (show 0 ≤ r.toInt by omega)
    omega
  have s4 := own_lmul (x := d.toInt64) (y := r.toInt64) (by rw [wd, wr]; omega) (by rw [wd, wr]; omega)
  have s5 := own_lsub (x := (k.toInt64 - (b.toInt64 - 1)) * p) (y := d.toInt64 * r.toInt64) (by rw [s3, s4, e0, wd, wr]; omega) (by rw [s3, s4, e0, wd, wr]; omega)
  rw [s3, s4, e0, wd, wr] at s5
  refine own_ut (t0 := t0) (N := (((k.toInt64 - (b.toInt64 - 1)) * p) - (d.toInt64 * r.toInt64)).toInt) (by omega) (by omega) ⟨h3, h4⟩ htp ⟨h1, h2⟩ htn (by omega) ?_ _ ?_
  · rw [et, s5, Int.sub_mul, Int.sub_mul, ← hT, ← h5, wr]; omega
  · generalize (((k.toInt64 - (b.toInt64 - 1)) * p) - (d.toInt64 * r.toInt64)) = n at *
    unfold oW
    by_cases c : (0 : Int64) < n
    · rw [if_pos c]
      rw [Int64.lt_iff_toInt_lt, z0] at c
      have a1 := own_ladd (x := n) (y := r.toInt64) (by omega) (by omega)
      have a2 := own_lsub (x := n + r.toInt64) (y := 1) (by omega) (by omega)
      rw [if_neg (by omega), own_ldiv (by omega) (by omega), a2, a1, z]
    · rw [if_neg c]
      rw [Int64.lt_iff_toInt_lt, z0] at c
      rw [if_pos (by omega)]; rfl
theorem pn0 : plainFor (⟨"com/example/api_policy_gateway/apipolicygateway/policy/PaceUntilTurnPinLaw", "law", "(JIIJJI)Z"⟩ : MethodName) = true := plainFor_of_name (by first | (simp [plainName, overriddenIn]; done) | decide +kernel)
theorem ef0_JIIJJI (m : MethodId) (x0 : Int64) (x1 : Int32) (x2 : Int32) (x3 : Int64) (x4 : Int64) (x5 : Int32) : entryFrame m #[(.long x0), (.int x1), (.int x2), (.long x3), (.long x4), (.int x5)] 27 = mkF m 0 #[.val (.long x0), .second, .val (.int x1), .val (.int x2), .val (.long x3), .second, .val (.long x4), .second, .val (.int x5), .unset, .unset, .unset, .unset, .unset, .unset, .unset, .unset, .unset, .unset, .unset, .unset, .unset, .unset, .unset, .unset, .unset, .unset] [] := by first | (simp [entryFrame, mkF, argsToLocals, Value.category]; done) | rfl
theorem pd__II_I : parseMethodDescriptor "(II)I" = some ⟨[.int, .int], some .int⟩ := by decide +kernel
theorem pd__JIIJJ_V : parseMethodDescriptor "(JIIJJ)V" = some ⟨[.long, .int, .int, .long, .long], none⟩ := by decide +kernel
theorem pd__J_V : parseMethodDescriptor "(J)V" = some ⟨[.long], none⟩ := by decide +kernel
set_option maxRecDepth 65536 in
set_option maxHeartbeats 4000000 in
theorem mt0 (l : Launch) (Z : State) (a0 : Array Value) (hw : ∀ d ∈ tables_1, d.before a0 Z = true) (p0 : Int64) (p1 : Int32) (p2 : Int32) (p3 : Int64) (p4 : Int64) (p5 : Int32) (h0 : Heap) : Meth l Z x code maxLocals ret room_1 #[(.long p0), (.int p1), (.int p2), (.long p3), (.long p4), (.int p5)] h0 [] (fun v h' => v = some (.int 1)) := by
  refine Meth.of pn0 ?_
  intro p e s m below meth c T B X
  have B : Fix p Z s m meth c code 27 "com/example/api_policy_gateway/apipolicygateway/policy/PaceUntilTurnPinLaw" "law" (some .boolean) := B
  refine Go.entry (ef0_JIIJJI m p0 p1 p2 p3 p4 p5) ?_
  refine glloadN B X at_0 rfl (pc' := 1) rfl ?_
  refine gldc2 B X (v := (72057594037927935 : Int64)) (hw _ (List.mem_of_getElem? (i := 0) rfl)) at_1 (pc' := 4) rfl ?_
  refine gland B X at_4 rfl (pc' := 5) rfl ?_
  generalize e_qp : (p0 &&& (72057594037927935 : Int64)) = qp
  refine glstore B X at_5 (Ls' := #[.val (.long p0), .second, .val (.int p1), .val (.int p2), .val (.long p3), .second, .val (.long p4), .second, .val (.int p5), .val (.long qp), .second, .unset, .unset, .unset, .unset, .unset, .unset, .unset, .unset, .unset, .unset, .unset, .unset, .unset, .unset, .unset, .unset]) rfl (pc' := 7) rfl ?_
  have hp := own_p p0; rw [e_qp] at hp
  refine giconst B X at_7 (v := (1 : Int32)) rfl (pc' := 8) rfl ?_
  refine giloadN B X at_8 rfl (pc' := 9) rfl ?_
  refine gldc B X (v := (2147483647 : Int32)) (hw _ (List.mem_of_getElem? (i := 1) rfl)) at_9 (pc' := 11) rfl ?_
  refine giand B X at_11 rfl (pc' := 12) rfl ?_
  refine gcallS B X (hw _ (List.mem_of_getElem? (i := 2) rfl)) (hw _ (List.mem_of_getElem? (i := 3) rfl)) (hw _ (List.mem_of_getElem? (i := 4) rfl)) (hw _ (List.mem_of_getElem? (i := 5) rfl)) (by decide) (mtmax l Z a0 hw (1 : Int32) (p1 &&& (2147483647 : Int32))  h0 ) pd__II_I rfl (argsL := [(.int (1 : Int32)), (.int (p1 &&& (2147483647 : Int32)))]) (st := []) rfl rfl (W := 0) (Nat.le_of_eq rfl) (by decide) (by decide) (by decide) (by decide) (fun x q => nomatch q) at_12 (pc' := 15) rfl (pureG rfl rfl fun T186 X187 => ?_)
  generalize e_qr : (fmax (1 : Int32) (p1 &&& (2147483647 : Int32))) = qr
  refine gistore B X187 at_15 (Ls' := #[.val (.long p0), .second, .val (.int p1), .val (.int p2), .val (.long p3), .second, .val (.long p4), .second, .val (.int p5), .val (.long qp), .second, .val (.int qr), .unset, .unset, .unset, .unset, .unset, .unset, .unset, .unset, .unset, .unset, .unset, .unset, .unset, .unset, .unset]) rfl (pc' := 17) rfl ?_
  have hr1 := own_rate p1; rw [e_qr] at hr1
  refine giconst B X187 at_17 (v := (1 : Int32)) rfl (pc' := 18) rfl ?_
  refine giloadN B X187 at_18 rfl (pc' := 19) rfl ?_
  refine gbipush B X187 at_19 (v := (15 : Int32)) rfl (pc' := 21) rfl ?_
  refine giand B X187 at_21 rfl (pc' := 22) rfl ?_
  refine giadd B X187 at_22 rfl (pc' := 23) rfl ?_
  generalize e_qb : ((1 : Int32) + (p2 &&& (15 : Int32))) = qb
  refine gistore B X187 at_23 (Ls' := #[.val (.long p0), .second, .val (.int p1), .val (.int p2), .val (.long p3), .second, .val (.long p4), .second, .val (.int p5), .val (.long qp), .second, .val (.int qr), .val (.int qb), .unset, .unset, .unset, .unset, .unset, .unset, .unset, .unset, .unset, .unset, .unset, .unset, .unset, .unset]) rfl (pc' := 25) rfl ?_
  have hb := own_b p2; rw [e_qb] at hb
  refine giloadN B X187 at_25 rfl (pc' := 26) rfl ?_
  refine giconst B X187 at_26 (v := (4 : Int32)) rfl (pc' := 27) rfl ?_
  refine giushr B X187 at_27 rfl (pc' := 28) rfl ?_
  refine giconst B X187 at_28 (v := (3 : Int32)) rfl (pc' := 29) rfl ?_
  refine giand B X187 at_29 rfl (pc' := 30) rfl ?_
  rcases own_and3 ((p2.toUInt32 >>> ((4 : Int32) &&& 31).toUInt32).toInt32) with e4 | e4 | e4 | e4
  · rw [e4]
    refine gistore B X187 at_30 (Ls' := #[.val (.long p0), .second, .val (.int p1), .val (.int p2), .val (.long p3), .second, .val (.long p4), .second, .val (.int p5), .val (.long qp), .second, .val (.int qr), .val (.int qb), .val (.int (0 : Int32)), .unset, .unset, .unset, .unset, .unset, .unset, .unset, .unset, .unset, .unset, .unset, .unset, .unset]) rfl (pc' := 32) rfl ?_
    refine glload B X187 at_32 rfl (pc' := 34) rfl ?_
    refine gldc2 B X187 (v := (9223372036854775807 : Int64)) (hw _ (List.mem_of_getElem? (i := 6) rfl)) at_34 (pc' := 37) rfl ?_
    refine gland B X187 at_37 rfl (pc' := 38) rfl ?_
    generalize e_qw : (p3 &&& (9223372036854775807 : Int64)) = qw
    refine glstore B X187 at_38 (Ls' := #[.val (.long p0), .second, .val (.int p1), .val (.int p2), .val (.long p3), .second, .val (.long p4), .second, .val (.int p5), .val (.long qp), .second, .val (.int qr), .val (.int qb), .val (.int (0 : Int32)), .val (.long qw), .second, .unset, .unset, .unset, .unset, .unset, .unset, .unset, .unset, .unset, .unset, .unset]) rfl (pc' := 40) rfl ?_
    refine gnew B X187 (hw _ (List.mem_of_getElem? (i := 7) rfl)) (hw _ (List.mem_of_getElem? (i := 8) rfl)) (hw _ (List.mem_of_getElem? (i := 9) rfl)) (by decide) (by decide) at_40 (pc' := 43) rfl fun T188 h189 a190 X191 q192 E193 z_a190 A194 D195 => ?_
    have O196 : Pc Z h189 a190 (.long (0 : Int64)) (.long (0 : Int64)) (.long (0 : Int64)) (.long (0 : Int64)) (.long (0 : Int64)) (.long (0 : Int64)) (.long (0 : Int64)) (.long (0 : Int64)) := ⟨A194, D195 (Or.inr (hw _ (List.mem_of_getElem? (i := 17) rfl))) (ty := .long) (by decide), D195 (Or.inr (hw _ (List.mem_of_getElem? (i := 19) rfl))) (ty := .long) (by decide), D195 (Or.inr (hw _ (List.mem_of_getElem? (i := 21) rfl))) (ty := .long) (by decide), D195 (Or.inr (hw _ (List.mem_of_getElem? (i := 32) rfl))) (ty := .long) (by decide), D195 (Or.inr (hw _ (List.mem_of_getElem? (i := 34) rfl))) (ty := .long) (by decide), D195 (Or.inr (hw _ (List.mem_of_getElem? (i := 36) rfl))) (ty := .long) (by decide), D195 (Or.inl (hw _ (List.mem_of_getElem? (i := 38) rfl))) (ty := .long) (by decide), D195 (Or.inl (hw _ (List.mem_of_getElem? (i := 45) rfl))) (ty := .long) (by decide)⟩
    refine gdup B X191 at_43 rfl (pc' := 44) rfl ?_
    refine glload B X191 at_44 rfl (pc' := 46) rfl ?_
    refine giload B X191 at_46 rfl (pc' := 48) rfl ?_
    refine giload B X191 at_48 rfl (pc' := 50) rfl ?_
    refine glload B X191 at_50 rfl (pc' := 52) rfl ?_
    refine glload B X191 at_52 rfl (pc' := 54) rfl ?_
    have hc := (own_tol qp qr qb hp.1 (by omega) hr1 hb.1 hb.2 (own_bq hp.1 hp.2 hb.1 hb.2)).1
    refine gcallI B X191 rfl rfl (hw _ (List.mem_of_getElem? (i := 10) rfl)) (hw _ (List.mem_of_getElem? (i := 11) rfl)) (hw _ (List.mem_of_getElem? (i := 9) rfl)) (hw _ (List.mem_of_getElem? (i := 12) rfl)) (by decide) (mt2 l Z a0 hw a190 qp qr qb qw p4  h189 O196 (own_nz hr1) hc.1 hc.2.1 hc.2.2) pd__JIIJJ_V rfl (argsL := [(.long qp), (.int qr), (.int qb), (.long qw), (.long p4)]) (st := [(.ref a190)]) rfl rfl (W := 1) (Nat.le_of_eq rfl) (by decide) (by decide) (by decide) (by decide) (allS (Or.inr z_a190) all0) at_54 (pc' := 57) rfl fun T197 h198 v199 X200 K201 Q202 => ?_
    obtain ⟨rfl, O203⟩ := Q202
    show Go p e below s _ _ _ _ _ T197 (mkF m 57 #[.val (.long p0), .second, .val (.int p1), .val (.int p2), .val (.long p3), .second, .val (.long p4), .second, .val (.int p5), .val (.long qp), .second, .val (.int qr), .val (.int qb), .val (.int (0 : Int32)), .val (.long qw), .second, .unset, .unset, .unset, .unset, .unset, .unset, .unset, .unset, .unset, .unset, .unset] [(.ref a190)])
    have hR : 0 < qr.toInt64.toInt := by rw [own_wide]; exact hr1
    have hR2 : qr.toInt64.toInt < 2147483648 := by rw [own_wide]; exact (rng32 qr).2
    have hP1 : 0 ≤ qp.toInt := hp.1
    have hP2 : qp.toInt ≤ 1152921504606846976 := by omega
    have I0 := own_inv0 p4 qp qr.toInt64 hR
    refine gastore B X200 at_57 rfl (Ls' := #[.val (.long p0), .second, .val (.int p1), .val (.int p2), .val (.long p3), .second, .val (.long p4), .second, .val (.int p5), .val (.long qp), .second, .val (.int qr), .val (.int qb), .val (.int (0 : Int32)), .val (.long qw), .second, .val (.ref a190), .unset, .unset, .unset, .unset, .unset, .unset, .unset, .unset, .unset, .unset]) rfl (pc' := 59) rfl ?_
    refine giload B X200 at_59 rfl (pc' := 61) rfl ?_
    refine giconst B X200 at_61 (v := (1 : Int32)) rfl (pc' := 62) rfl ?_
    have c62_204 : (0 : Int32) < (1 : Int32) := (by decide)
    refine gicY B X200 (pc' := 72) at_62 (tlt c62_204).1 (by decide) ?_
    refine giload B X200 at_72 rfl (pc' := 74) rfl ?_
    refine giconst B X200 at_74 (v := (2 : Int32)) rfl (pc' := 75) rfl ?_
    have c75_205 : (0 : Int32) < (2 : Int32) := (by decide)
    refine gicY B X200 (pc' := 85) at_75 (tlt c75_205).1 (by decide) ?_
    refine giload B X200 at_85 rfl (pc' := 87) rfl ?_
    refine giconst B X200 at_87 (v := (3 : Int32)) rfl (pc' := 88) rfl ?_
    have c88_206 : (0 : Int32) < (3 : Int32) := (by decide)
    refine gicY B X200 (pc' := 98) at_88 (tlt c88_206).1 (by decide) ?_
    refine glload B X200 at_98 rfl (pc' := 100) rfl ?_
    refine giload B X200 at_100 rfl (pc' := 102) rfl ?_
    refine gi2l B X200 at_102 rfl (pc' := 103) rfl ?_
    refine gladd B X200 at_103 rfl (pc' := 104) rfl ?_
    refine glstore B X200 at_104 (Ls' := #[.val (.long p0), .second, .val (.int p1), .val (.int p2), .val (.long p3), .second, .val (.long p4), .second, .val (.int p5), .val (.long qp), .second, .val (.int qr), .val (.int qb), .val (.int (0 : Int32)), .val (.long qw), .second, .val (.ref a190), .val (.long (p4 + p5.toInt64)), .second, .unset, .unset, .unset, .unset, .unset, .unset, .unset, .unset]) rfl (pc' := 106) rfl ?_
    refine gaload B X200 at_106 rfl rfl (pc' := 108) rfl ?_
    refine glload B X200 at_108 rfl (pc' := 110) rfl ?_
    refine gcallV B X200 O203.1 (hw _ (List.mem_of_getElem? (i := 39) rfl)) (hw _ (List.mem_of_getElem? (i := 40) rfl)) (hw _ (List.mem_of_getElem? (i := 42) rfl)) (hw _ (List.mem_of_getElem? (i := 41) rfl)) (hw _ (List.mem_of_getElem? (i := 9) rfl)) (hw _ (List.mem_of_getElem? (i := 43) rfl)) rfl (by decide) (mtut l Z a0 hw a190 (p4 + p5.toInt64) qr.toInt64 (qp / qr.toInt64) (qp % qr.toInt64) (((qb.toInt64 - (1 : Int64)) * (qp / qr.toInt64)) + (((qb.toInt64 - (1 : Int64)) * (qp % qr.toInt64)) / qr.toInt64)) (((qb.toInt64 - (1 : Int64)) * (qp % qr.toInt64)) % qr.toInt64) qw p4 (0 : Int64) h198 O203) pd__J_J rfl (argsL := [(.long (p4 + p5.toInt64))]) (st := []) rfl rfl (W := 0) (Nat.le_of_eq rfl) (by decide) (by decide) (by decide) (by decide) (fun x q => nomatch q) at_110 (pc' := 113) rfl (pureG rfl rfl fun T207 X208 => ?_)
    refine glstore B X208 at_113 (Ls' := #[.val (.long p0), .second, .val (.int p1), .val (.int p2), .val (.long p3), .second, .val (.long p4), .second, .val (.int p5), .val (.long qp), .second, .val (.int qr), .val (.int qb), .val (.int (0 : Int32)), .val (.long qw), .second, .val (.ref a190), .val (.long (p4 + p5.toInt64)), .second, .val (.long (fut qr.toInt64 (((qb.toInt64 - (1 : Int64)) * (qp / qr.toInt64)) + (((qb.toInt64 - (1 : Int64)) * (qp % qr.toInt64)) / qr.toInt64)) (((qb.toInt64 - (1 : Int64)) * (qp % qr.toInt64)) % qr.toInt64) qw p4 (0 : Int64) (p4 + p5.toInt64))), .second, .unset, .unset, .unset, .unset, .unset, .unset]) rfl (pc' := 115) rfl ?_
    refine giload B X208 at_115 rfl (pc' := 117) rfl ?_
    refine gi2l B X208 at_117 rfl (pc' := 118) rfl ?_
    refine giload B X208 at_118 rfl (pc' := 120) rfl ?_
    refine gi2l B X208 at_120 rfl (pc' := 121) rfl ?_
    refine glconst B X208 at_121 (v := (1 : Int64)) rfl (pc' := 122) rfl ?_
    refine glsub B X208 at_122 rfl (pc' := 123) rfl ?_
    refine glsub B X208 at_123 rfl (pc' := 124) rfl ?_
    refine glload B X208 at_124 rfl (pc' := 126) rfl ?_
    refine glmul B X208 at_126 rfl (pc' := 127) rfl ?_
    refine giload B X208 at_127 rfl (pc' := 129) rfl ?_
    refine gi2l B X208 at_129 rfl (pc' := 130) rfl ?_
    refine giload B X208 at_130 rfl (pc' := 132) rfl ?_
    refine gi2l B X208 at_132 rfl (pc' := 133) rfl ?_
    refine glmul B X208 at_133 rfl (pc' := 134) rfl ?_
    refine glsub B X208 at_134 rfl (pc' := 135) rfl ?_
    refine glstore B X208 at_135 (Ls' := #[.val (.long p0), .second, .val (.int p1), .val (.int p2), .val (.long p3), .second, .val (.long p4), .second, .val (.int p5), .val (.long qp), .second, .val (.int qr), .val (.int qb), .val (.int (0 : Int32)), .val (.long qw), .second, .val (.ref a190), .val (.long (p4 + p5.toInt64)), .second, .val (.long (fut qr.toInt64 (((qb.toInt64 - (1 : Int64)) * (qp / qr.toInt64)) + (((qb.toInt64 - (1 : Int64)) * (qp % qr.toInt64)) / qr.toInt64)) (((qb.toInt64 - (1 : Int64)) * (qp % qr.toInt64)) % qr.toInt64) qw p4 (0 : Int64) (p4 + p5.toInt64))), .second, .val (.long ((((0 : Int32).toInt64 - (qb.toInt64 - (1 : Int64))) * qp) - (p5.toInt64 * qr.toInt64))), .second, .unset, .unset, .unset, .unset]) rfl (pc' := 137) rfl ?_
    refine joinG B X208 (F := fun z => (mkF m 160 #[.val (.long p0), .second, .val (.int p1), .val (.int p2), .val (.long p3), .second, .val (.long p4), .second, .val (.int p5), .val (.long qp), .second, .val (.int qr), .val (.int qb), .val (.int (0 : Int32)), .val (.long qw), .second, .val (.ref a190), .val (.long (p4 + p5.toInt64)), .second, .val (.long (fut qr.toInt64 (((qb.toInt64 - (1 : Int64)) * (qp / qr.toInt64)) + (((qb.toInt64 - (1 : Int64)) * (qp % qr.toInt64)) / qr.toInt64)) (((qb.toInt64 - (1 : Int64)) * (qp % qr.toInt64)) % qr.toInt64) qw p4 (0 : Int64) (p4 + p5.toInt64))), .second, .val (.long ((((0 : Int32).toInt64 - (qb.toInt64 - (1 : Int64))) * qp) - (p5.toInt64 * qr.toInt64))), .second, .unset, .unset, .unset, .unset] [(.long z)])) (r := (oW ((((0 : Int32).toInt64 - (qb.toInt64 - (1 : Int64))) * qp) - (p5.toInt64 * qr.toInt64)) qr.toInt64)) (fun J => ?_) ?_
    · refine glload B X208 at_137 rfl (pc' := 139) rfl ?_
      refine glconst B X208 at_139 (v := (0 : Int64)) rfl (pc' := 140) rfl ?_
      refine glcmp B X208 at_140 (pc' := 141) rfl ?_
      by_cases c141_209 : (0 : Int64) < ((((0 : Int32).toInt64 - (qb.toInt64 - (1 : Int64))) * qp) - (p5.toInt64 * qr.toInt64))
      · refine gifY B X208 (pc' := 148) at_141 ((if0 _ _).trans (tlt (((lw_gt ((((0 : Int32).toInt64 - (qb.toInt64 - (1 : Int64))) * qp) - (p5.toInt64 * qr.toInt64)) (0 : Int64))).mpr c141_209)).2.2.1) (by decide) ?_
        refine glload B X208 at_148 rfl (pc' := 150) rfl ?_
        refine giload B X208 at_150 rfl (pc' := 152) rfl ?_
        refine gi2l B X208 at_152 rfl (pc' := 153) rfl ?_
        refine gladd B X208 at_153 rfl (pc' := 154) rfl ?_
        refine glconst B X208 at_154 (v := (1 : Int64)) rfl (pc' := 155) rfl ?_
        refine glsub B X208 at_155 rfl (pc' := 156) rfl ?_
        refine giload B X208 at_156 rfl (pc' := 158) rfl ?_
        refine gi2l B X208 at_158 rfl (pc' := 159) rfl ?_
        refine gldiv B X208 at_159 (own_nz hr1) rfl (pc' := 160) rfl ?_
        have e_J : (oW ((((0 : Int32).toInt64 - (qb.toInt64 - (1 : Int64))) * qp) - (p5.toInt64 * qr.toInt64)) qr.toInt64) = (((((((0 : Int32).toInt64 - (qb.toInt64 - (1 : Int64))) * qp) - (p5.toInt64 * qr.toInt64)) + qr.toInt64) - (1 : Int64)) / qr.toInt64) := by rw [oW, if_pos c141_209]
        rw [e_J] at J
        exact J _ X208
      · refine gifN B X208 at_141 ((if0 _ _).trans (flt (mt ((lw_gt ((((0 : Int32).toInt64 - (qb.toInt64 - (1 : Int64))) * qp) - (p5.toInt64 * qr.toInt64)) (0 : Int64))).mp c141_209)).2.2.1) (pc' := 144) rfl ?_
        refine glconst B X208 at_144 (v := (0 : Int64)) rfl (pc' := 145) rfl ?_
        refine ggoto B X208 (pc' := 160) at_145 (by decide) ?_
        have e_J : (oW ((((0 : Int32).toInt64 - (qb.toInt64 - (1 : Int64))) * qp) - (p5.toInt64 * qr.toInt64)) qr.toInt64) = (0 : Int64) := by rw [oW, if_neg c141_209]
        rw [e_J] at J
        exact J _ X208
    intro T210 X211
    show Go p e below s _ _ _ _ _ T210 (mkF m 160 #[.val (.long p0), .second, .val (.int p1), .val (.int p2), .val (.long p3), .second, .val (.long p4), .second, .val (.int p5), .val (.long qp), .second, .val (.int qr), .val (.int qb), .val (.int (0 : Int32)), .val (.long qw), .second, .val (.ref a190), .val (.long (p4 + p5.toInt64)), .second, .val (.long (fut qr.toInt64 (((qb.toInt64 - (1 : Int64)) * (qp / qr.toInt64)) + (((qb.toInt64 - (1 : Int64)) * (qp % qr.toInt64)) / qr.toInt64)) (((qb.toInt64 - (1 : Int64)) * (qp % qr.toInt64)) % qr.toInt64) qw p4 (0 : Int64) (p4 + p5.toInt64))), .second, .val (.long ((((0 : Int32).toInt64 - (qb.toInt64 - (1 : Int64))) * qp) - (p5.toInt64 * qr.toInt64))), .second, .unset, .unset, .unset, .unset] [(.long (oW ((((0 : Int32).toInt64 - (qb.toInt64 - (1 : Int64))) * qp) - (p5.toInt64 * qr.toInt64)) qr.toInt64))])
    refine glstore B X211 at_160 (Ls' := #[.val (.long p0), .second, .val (.int p1), .val (.int p2), .val (.long p3), .second, .val (.long p4), .second, .val (.int p5), .val (.long qp), .second, .val (.int qr), .val (.int qb), .val (.int (0 : Int32)), .val (.long qw), .second, .val (.ref a190), .val (.long (p4 + p5.toInt64)), .second, .val (.long (fut qr.toInt64 (((qb.toInt64 - (1 : Int64)) * (qp / qr.toInt64)) + (((qb.toInt64 - (1 : Int64)) * (qp % qr.toInt64)) / qr.toInt64)) (((qb.toInt64 - (1 : Int64)) * (qp % qr.toInt64)) % qr.toInt64) qw p4 (0 : Int64) (p4 + p5.toInt64))), .second, .val (.long ((((0 : Int32).toInt64 - (qb.toInt64 - (1 : Int64))) * qp) - (p5.toInt64 * qr.toInt64))), .second, .val (.long (oW ((((0 : Int32).toInt64 - (qb.toInt64 - (1 : Int64))) * qp) - (p5.toInt64 * qr.toInt64)) qr.toInt64)), .second, .unset, .unset]) rfl (pc' := 162) rfl ?_
    refine joinG B X211 (F := fun z => (mkF m 178 #[.val (.long p0), .second, .val (.int p1), .val (.int p2), .val (.long p3), .second, .val (.long p4), .second, .val (.int p5), .val (.long qp), .second, .val (.int qr), .val (.int qb), .val (.int (0 : Int32)), .val (.long qw), .second, .val (.ref a190), .val (.long (p4 + p5.toInt64)), .second, .val (.long (fut qr.toInt64 (((qb.toInt64 - (1 : Int64)) * (qp / qr.toInt64)) + (((qb.toInt64 - (1 : Int64)) * (qp % qr.toInt64)) / qr.toInt64)) (((qb.toInt64 - (1 : Int64)) * (qp % qr.toInt64)) % qr.toInt64) qw p4 (0 : Int64) (p4 + p5.toInt64))), .second, .val (.long ((((0 : Int32).toInt64 - (qb.toInt64 - (1 : Int64))) * qp) - (p5.toInt64 * qr.toInt64))), .second, .val (.long (oW ((((0 : Int32).toInt64 - (qb.toInt64 - (1 : Int64))) * qp) - (p5.toInt64 * qr.toInt64)) qr.toInt64)), .second, .unset, .unset] [(.long z)])) (r := (oX qw (oW ((((0 : Int32).toInt64 - (qb.toInt64 - (1 : Int64))) * qp) - (p5.toInt64 * qr.toInt64)) qr.toInt64))) (fun J => ?_) ?_
    · refine glload B X211 at_162 rfl (pc' := 164) rfl ?_
      refine glload B X211 at_164 rfl (pc' := 166) rfl ?_
      refine glcmp B X211 at_166 (pc' := 167) rfl ?_
      by_cases c167_212 : qw < (oW ((((0 : Int32).toInt64 - (qb.toInt64 - (1 : Int64))) * qp) - (p5.toInt64 * qr.toInt64)) qr.toInt64)
      · refine gifN B X211 at_167 ((if0 _ _).trans (tlt (((lw_gt (oW ((((0 : Int32).toInt64 - (qb.toInt64 - (1 : Int64))) * qp) - (p5.toInt64 * qr.toInt64)) qr.toInt64) qw)).mpr c167_212)).2.2.2) (pc' := 170) rfl ?_
        refine gldc2 B X211 (v := (-1 : Int64)) (hw _ (List.mem_of_getElem? (i := 61) rfl)) at_170 (pc' := 173) rfl ?_
        refine ggoto B X211 (pc' := 178) at_173 (by decide) ?_
        have e_J : (oX qw (oW ((((0 : Int32).toInt64 - (qb.toInt64 - (1 : Int64))) * qp) - (p5.toInt64 * qr.toInt64)) qr.toInt64)) = (-1 : Int64) := by rw [oX, if_pos c167_212]
        rw [e_J] at J
        exact J _ X211
      · refine gifY B X211 (pc' := 176) at_167 ((if0 _ _).trans (flt (mt ((lw_gt (oW ((((0 : Int32).toInt64 - (qb.toInt64 - (1 : Int64))) * qp) - (p5.toInt64 * qr.toInt64)) qr.toInt64) qw)).mp c167_212)).2.2.2) (by decide) ?_
        refine glload B X211 at_176 rfl (pc' := 178) rfl ?_
        have e_J : (oX qw (oW ((((0 : Int32).toInt64 - (qb.toInt64 - (1 : Int64))) * qp) - (p5.toInt64 * qr.toInt64)) qr.toInt64)) = (oW ((((0 : Int32).toInt64 - (qb.toInt64 - (1 : Int64))) * qp) - (p5.toInt64 * qr.toInt64)) qr.toInt64) := by rw [oX, if_neg c167_212]
        rw [e_J] at J
        exact J _ X211
    intro T213 X214
    show Go p e below s _ _ _ _ _ T213 (mkF m 178 #[.val (.long p0), .second, .val (.int p1), .val (.int p2), .val (.long p3), .second, .val (.long p4), .second, .val (.int p5), .val (.long qp), .second, .val (.int qr), .val (.int qb), .val (.int (0 : Int32)), .val (.long qw), .second, .val (.ref a190), .val (.long (p4 + p5.toInt64)), .second, .val (.long (fut qr.toInt64 (((qb.toInt64 - (1 : Int64)) * (qp / qr.toInt64)) + (((qb.toInt64 - (1 : Int64)) * (qp % qr.toInt64)) / qr.toInt64)) (((qb.toInt64 - (1 : Int64)) * (qp % qr.toInt64)) % qr.toInt64) qw p4 (0 : Int64) (p4 + p5.toInt64))), .second, .val (.long ((((0 : Int32).toInt64 - (qb.toInt64 - (1 : Int64))) * qp) - (p5.toInt64 * qr.toInt64))), .second, .val (.long (oW ((((0 : Int32).toInt64 - (qb.toInt64 - (1 : Int64))) * qp) - (p5.toInt64 * qr.toInt64)) qr.toInt64)), .second, .unset, .unset] [(.long (oX qw (oW ((((0 : Int32).toInt64 - (qb.toInt64 - (1 : Int64))) * qp) - (p5.toInt64 * qr.toInt64)) qr.toInt64)))])
    refine glstore B X214 at_178 (Ls' := #[.val (.long p0), .second, .val (.int p1), .val (.int p2), .val (.long p3), .second, .val (.long p4), .second, .val (.int p5), .val (.long qp), .second, .val (.int qr), .val (.int qb), .val (.int (0 : Int32)), .val (.long qw), .second, .val (.ref a190), .val (.long (p4 + p5.toInt64)), .second, .val (.long (fut qr.toInt64 (((qb.toInt64 - (1 : Int64)) * (qp / qr.toInt64)) + (((qb.toInt64 - (1 : Int64)) * (qp % qr.toInt64)) / qr.toInt64)) (((qb.toInt64 - (1 : Int64)) * (qp % qr.toInt64)) % qr.toInt64) qw p4 (0 : Int64) (p4 + p5.toInt64))), .second, .val (.long ((((0 : Int32).toInt64 - (qb.toInt64 - (1 : Int64))) * qp) - (p5.toInt64 * qr.toInt64))), .second, .val (.long (oW ((((0 : Int32).toInt64 - (qb.toInt64 - (1 : Int64))) * qp) - (p5.toInt64 * qr.toInt64)) qr.toInt64)), .second, .val (.long (oX qw (oW ((((0 : Int32).toInt64 - (qb.toInt64 - (1 : Int64))) * qp) - (p5.toInt64 * qr.toInt64)) qr.toInt64))), .second]) rfl (pc' := 180) rfl ?_
    refine glload B X214 at_180 rfl (pc' := 182) rfl ?_
    refine glload B X214 at_182 rfl (pc' := 184) rfl ?_
    refine glcmp B X214 at_184 (pc' := 185) rfl ?_
    have c185_215 : (fut qr.toInt64 (((qb.toInt64 - (1 : Int64)) * (qp / qr.toInt64)) + (((qb.toInt64 - (1 : Int64)) * (qp % qr.toInt64)) / qr.toInt64)) (((qb.toInt64 - (1 : Int64)) * (qp % qr.toInt64)) % qr.toInt64) qw p4 (0 : Int64) (p4 + p5.toInt64)) = (oX qw (oW ((((0 : Int32).toInt64 - (qb.toInt64 - (1 : Int64))) * qp) - (p5.toInt64 * qr.toInt64)) qr.toInt64)) := own_fin (k := (0 : Int32)) hr1 hp.1 hp.2 hb.1 hb.2 (by decide) I0
    refine gifN B X214 at_185 ((if0 _ _).trans (teq (((lw_eq (fut qr.toInt64 (((qb.toInt64 - (1 : Int64)) * (qp / qr.toInt64)) + (((qb.toInt64 - (1 : Int64)) * (qp % qr.toInt64)) / qr.toInt64)) (((qb.toInt64 - (1 : Int64)) * (qp % qr.toInt64)) % qr.toInt64) qw p4 (0 : Int64) (p4 + p5.toInt64)) (oX qw (oW ((((0 : Int32).toInt64 - (qb.toInt64 - (1 : Int64))) * qp) - (p5.toInt64 * qr.toInt64)) qr.toInt64)))).mpr c185_215)).2) (pc' := 188) rfl ?_
    refine giconst B X214 at_188 (v := (1 : Int32)) rfl (pc' := 189) rfl ?_
    refine ggoto B X214 (pc' := 193) at_189 (by decide) ?_
    exact gretN B X214 (z' := (1 : Int32)) (by simp) (rfl) at_193 (by decide) (by decide) (rfl)
  · rw [e4]
    refine gistore B X187 at_30 (Ls' := #[.val (.long p0), .second, .val (.int p1), .val (.int p2), .val (.long p3), .second, .val (.long p4), .second, .val (.int p5), .val (.long qp), .second, .val (.int qr), .val (.int qb), .val (.int (1 : Int32)), .unset, .unset, .unset, .unset, .unset, .unset, .unset, .unset, .unset, .unset, .unset, .unset, .unset]) rfl (pc' := 32) rfl ?_
    refine glload B X187 at_32 rfl (pc' := 34) rfl ?_
    refine gldc2 B X187 (v := (9223372036854775807 : Int64)) (hw _ (List.mem_of_getElem? (i := 6) rfl)) at_34 (pc' := 37) rfl ?_
    refine gland B X187 at_37 rfl (pc' := 38) rfl ?_
    generalize e_qw : (p3 &&& (9223372036854775807 : Int64)) = qw
    refine glstore B X187 at_38 (Ls' := #[.val (.long p0), .second, .val (.int p1), .val (.int p2), .val (.long p3), .second, .val (.long p4), .second, .val (.int p5), .val (.long qp), .second, .val (.int qr), .val (.int qb), .val (.int (1 : Int32)), .val (.long qw), .second, .unset, .unset, .unset, .unset, .unset, .unset, .unset, .unset, .unset, .unset, .unset]) rfl (pc' := 40) rfl ?_
    refine gnew B X187 (hw _ (List.mem_of_getElem? (i := 7) rfl)) (hw _ (List.mem_of_getElem? (i := 8) rfl)) (hw _ (List.mem_of_getElem? (i := 9) rfl)) (by decide) (by decide) at_40 (pc' := 43) rfl fun T216 h217 a218 X219 q220 E221 z_a218 A222 D223 => ?_
    have O224 : Pc Z h217 a218 (.long (0 : Int64)) (.long (0 : Int64)) (.long (0 : Int64)) (.long (0 : Int64)) (.long (0 : Int64)) (.long (0 : Int64)) (.long (0 : Int64)) (.long (0 : Int64)) := ⟨A222, D223 (Or.inr (hw _ (List.mem_of_getElem? (i := 17) rfl))) (ty := .long) (by decide), D223 (Or.inr (hw _ (List.mem_of_getElem? (i := 19) rfl))) (ty := .long) (by decide), D223 (Or.inr (hw _ (List.mem_of_getElem? (i := 21) rfl))) (ty := .long) (by decide), D223 (Or.inr (hw _ (List.mem_of_getElem? (i := 32) rfl))) (ty := .long) (by decide), D223 (Or.inr (hw _ (List.mem_of_getElem? (i := 34) rfl))) (ty := .long) (by decide), D223 (Or.inr (hw _ (List.mem_of_getElem? (i := 36) rfl))) (ty := .long) (by decide), D223 (Or.inl (hw _ (List.mem_of_getElem? (i := 38) rfl))) (ty := .long) (by decide), D223 (Or.inl (hw _ (List.mem_of_getElem? (i := 45) rfl))) (ty := .long) (by decide)⟩
    refine gdup B X219 at_43 rfl (pc' := 44) rfl ?_
    refine glload B X219 at_44 rfl (pc' := 46) rfl ?_
    refine giload B X219 at_46 rfl (pc' := 48) rfl ?_
    refine giload B X219 at_48 rfl (pc' := 50) rfl ?_
    refine glload B X219 at_50 rfl (pc' := 52) rfl ?_
    refine glload B X219 at_52 rfl (pc' := 54) rfl ?_
    have hc := (own_tol qp qr qb hp.1 (by omega) hr1 hb.1 hb.2 (own_bq hp.1 hp.2 hb.1 hb.2)).1
    refine gcallI B X219 rfl rfl (hw _ (List.mem_of_getElem? (i := 10) rfl)) (hw _ (List.mem_of_getElem? (i := 11) rfl)) (hw _ (List.mem_of_getElem? (i := 9) rfl)) (hw _ (List.mem_of_getElem? (i := 12) rfl)) (by decide) (mt2 l Z a0 hw a218 qp qr qb qw p4  h217 O224 (own_nz hr1) hc.1 hc.2.1 hc.2.2) pd__JIIJJ_V rfl (argsL := [(.long qp), (.int qr), (.int qb), (.long qw), (.long p4)]) (st := [(.ref a218)]) rfl rfl (W := 1) (Nat.le_of_eq rfl) (by decide) (by decide) (by decide) (by decide) (allS (Or.inr z_a218) all0) at_54 (pc' := 57) rfl fun T225 h226 v227 X228 K229 Q230 => ?_
    obtain ⟨rfl, O231⟩ := Q230
    show Go p e below s _ _ _ _ _ T225 (mkF m 57 #[.val (.long p0), .second, .val (.int p1), .val (.int p2), .val (.long p3), .second, .val (.long p4), .second, .val (.int p5), .val (.long qp), .second, .val (.int qr), .val (.int qb), .val (.int (1 : Int32)), .val (.long qw), .second, .unset, .unset, .unset, .unset, .unset, .unset, .unset, .unset, .unset, .unset, .unset] [(.ref a218)])
    have hR : 0 < qr.toInt64.toInt := by rw [own_wide]; exact hr1
    have hR2 : qr.toInt64.toInt < 2147483648 := by rw [own_wide]; exact (rng32 qr).2
    have hP1 : 0 ≤ qp.toInt := hp.1
    have hP2 : qp.toInt ≤ 1152921504606846976 := by omega
    have I0 := own_inv0 p4 qp qr.toInt64 hR
    refine gastore B X228 at_57 rfl (Ls' := #[.val (.long p0), .second, .val (.int p1), .val (.int p2), .val (.long p3), .second, .val (.long p4), .second, .val (.int p5), .val (.long qp), .second, .val (.int qr), .val (.int qb), .val (.int (1 : Int32)), .val (.long qw), .second, .val (.ref a218), .unset, .unset, .unset, .unset, .unset, .unset, .unset, .unset, .unset, .unset]) rfl (pc' := 59) rfl ?_
    refine giload B X228 at_59 rfl (pc' := 61) rfl ?_
    refine giconst B X228 at_61 (v := (1 : Int32)) rfl (pc' := 62) rfl ?_
    have c62_232 : ¬ ((1 : Int32) < (1 : Int32)) := (by decide)
    refine gicN B X228 at_62 (flt c62_232).1 (pc' := 65) rfl ?_
    refine gaload B X228 at_65 rfl rfl (pc' := 67) rfl ?_
    refine glload B X228 at_67 rfl (pc' := 69) rfl ?_
    refine gcallV B X228 O231.1 (hw _ (List.mem_of_getElem? (i := 50) rfl)) (hw _ (List.mem_of_getElem? (i := 51) rfl)) (hw _ (List.mem_of_getElem? (i := 53) rfl)) (hw _ (List.mem_of_getElem? (i := 52) rfl)) (hw _ (List.mem_of_getElem? (i := 9) rfl)) (hw _ (List.mem_of_getElem? (i := 54) rfl)) rfl (by decide) (mt9 l Z a0 hw a218 p4 qr.toInt64 (qp / qr.toInt64) (qp % qr.toInt64) (((qb.toInt64 - (1 : Int64)) * (qp / qr.toInt64)) + (((qb.toInt64 - (1 : Int64)) * (qp % qr.toInt64)) / qr.toInt64)) (((qb.toInt64 - (1 : Int64)) * (qp % qr.toInt64)) % qr.toInt64) qw p4 (0 : Int64) h226 O231) pd__J_V rfl (argsL := [(.long p4)]) (st := []) rfl rfl (W := 0) (Nat.le_of_eq rfl) (by decide) (by decide) (by decide) (by decide) (allS (Or.inr z_a218) all0) at_69 (pc' := 72) rfl fun T233 h234 v235 X236 K237 Q238 => ?_
    obtain ⟨rfl, O239⟩ := Q238
    have I242 := own_step (j := 0) hR hR2 hP1 hP2 p4 (own_notfull I0.1) (own_bound hR hP1 hP2 (by decide) (by decide) I0) I0
    generalize (oN qr.toInt64 (qp / qr.toInt64) (qp % qr.toInt64) p4 (0 : Int64) p4) = nn240 at O239 I242
    generalize (oP qr.toInt64 (qp / qr.toInt64) (qp % qr.toInt64) p4 (0 : Int64) p4) = np241 at O239 I242
    show Go p e below s _ _ _ _ _ T233 (mkF m 72 #[.val (.long p0), .second, .val (.int p1), .val (.int p2), .val (.long p3), .second, .val (.long p4), .second, .val (.int p5), .val (.long qp), .second, .val (.int qr), .val (.int qb), .val (.int (1 : Int32)), .val (.long qw), .second, .val (.ref a218), .unset, .unset, .unset, .unset, .unset, .unset, .unset, .unset, .unset, .unset] [])
    refine giload B X236 at_72 rfl (pc' := 74) rfl ?_
    refine giconst B X236 at_74 (v := (2 : Int32)) rfl (pc' := 75) rfl ?_
    have c75_243 : (1 : Int32) < (2 : Int32) := (by decide)
    refine gicY B X236 (pc' := 85) at_75 (tlt c75_243).1 (by decide) ?_
    refine giload B X236 at_85 rfl (pc' := 87) rfl ?_
    refine giconst B X236 at_87 (v := (3 : Int32)) rfl (pc' := 88) rfl ?_
    have c88_244 : (1 : Int32) < (3 : Int32) := (by decide)
    refine gicY B X236 (pc' := 98) at_88 (tlt c88_244).1 (by decide) ?_
    refine glload B X236 at_98 rfl (pc' := 100) rfl ?_
    refine giload B X236 at_100 rfl (pc' := 102) rfl ?_
    refine gi2l B X236 at_102 rfl (pc' := 103) rfl ?_
    refine gladd B X236 at_103 rfl (pc' := 104) rfl ?_
    refine glstore B X236 at_104 (Ls' := #[.val (.long p0), .second, .val (.int p1), .val (.int p2), .val (.long p3), .second, .val (.long p4), .second, .val (.int p5), .val (.long qp), .second, .val (.int qr), .val (.int qb), .val (.int (1 : Int32)), .val (.long qw), .second, .val (.ref a218), .val (.long (p4 + p5.toInt64)), .second, .unset, .unset, .unset, .unset, .unset, .unset, .unset, .unset]) rfl (pc' := 106) rfl ?_
    refine gaload B X236 at_106 rfl rfl (pc' := 108) rfl ?_
    refine glload B X236 at_108 rfl (pc' := 110) rfl ?_
    refine gcallV B X236 O239.1 (hw _ (List.mem_of_getElem? (i := 39) rfl)) (hw _ (List.mem_of_getElem? (i := 40) rfl)) (hw _ (List.mem_of_getElem? (i := 42) rfl)) (hw _ (List.mem_of_getElem? (i := 41) rfl)) (hw _ (List.mem_of_getElem? (i := 9) rfl)) (hw _ (List.mem_of_getElem? (i := 43) rfl)) rfl (by decide) (mtut l Z a0 hw a218 (p4 + p5.toInt64) qr.toInt64 (qp / qr.toInt64) (qp % qr.toInt64) (((qb.toInt64 - (1 : Int64)) * (qp / qr.toInt64)) + (((qb.toInt64 - (1 : Int64)) * (qp % qr.toInt64)) / qr.toInt64)) (((qb.toInt64 - (1 : Int64)) * (qp % qr.toInt64)) % qr.toInt64) qw nn240 np241 h234 O239) pd__J_J rfl (argsL := [(.long (p4 + p5.toInt64))]) (st := []) rfl rfl (W := 0) (Nat.le_of_eq rfl) (by decide) (by decide) (by decide) (by decide) (fun x q => nomatch q) at_110 (pc' := 113) rfl (pureG rfl rfl fun T245 X246 => ?_)
    refine glstore B X246 at_113 (Ls' := #[.val (.long p0), .second, .val (.int p1), .val (.int p2), .val (.long p3), .second, .val (.long p4), .second, .val (.int p5), .val (.long qp), .second, .val (.int qr), .val (.int qb), .val (.int (1 : Int32)), .val (.long qw), .second, .val (.ref a218), .val (.long (p4 + p5.toInt64)), .second, .val (.long (fut qr.toInt64 (((qb.toInt64 - (1 : Int64)) * (qp / qr.toInt64)) + (((qb.toInt64 - (1 : Int64)) * (qp % qr.toInt64)) / qr.toInt64)) (((qb.toInt64 - (1 : Int64)) * (qp % qr.toInt64)) % qr.toInt64) qw nn240 np241 (p4 + p5.toInt64))), .second, .unset, .unset, .unset, .unset, .unset, .unset]) rfl (pc' := 115) rfl ?_
    refine giload B X246 at_115 rfl (pc' := 117) rfl ?_
    refine gi2l B X246 at_117 rfl (pc' := 118) rfl ?_
    refine giload B X246 at_118 rfl (pc' := 120) rfl ?_
    refine gi2l B X246 at_120 rfl (pc' := 121) rfl ?_
    refine glconst B X246 at_121 (v := (1 : Int64)) rfl (pc' := 122) rfl ?_
    refine glsub B X246 at_122 rfl (pc' := 123) rfl ?_
    refine glsub B X246 at_123 rfl (pc' := 124) rfl ?_
    refine glload B X246 at_124 rfl (pc' := 126) rfl ?_
    refine glmul B X246 at_126 rfl (pc' := 127) rfl ?_
    refine giload B X246 at_127 rfl (pc' := 129) rfl ?_
    refine gi2l B X246 at_129 rfl (pc' := 130) rfl ?_
    refine giload B X246 at_130 rfl (pc' := 132) rfl ?_
    refine gi2l B X246 at_132 rfl (pc' := 133) rfl ?_
    refine glmul B X246 at_133 rfl (pc' := 134) rfl ?_
    refine glsub B X246 at_134 rfl (pc' := 135) rfl ?_
    refine glstore B X246 at_135 (Ls' := #[.val (.long p0), .second, .val (.int p1), .val (.int p2), .val (.long p3), .second, .val (.long p4), .second, .val (.int p5), .val (.long qp), .second, .val (.int qr), .val (.int qb), .val (.int (1 : Int32)), .val (.long qw), .second, .val (.ref a218), .val (.long (p4 + p5.toInt64)), .second, .val (.long (fut qr.toInt64 (((qb.toInt64 - (1 : Int64)) * (qp / qr.toInt64)) + (((qb.toInt64 - (1 : Int64)) * (qp % qr.toInt64)) / qr.toInt64)) (((qb.toInt64 - (1 : Int64)) * (qp % qr.toInt64)) % qr.toInt64) qw nn240 np241 (p4 + p5.toInt64))), .second, .val (.long ((((1 : Int32).toInt64 - (qb.toInt64 - (1 : Int64))) * qp) - (p5.toInt64 * qr.toInt64))), .second, .unset, .unset, .unset, .unset]) rfl (pc' := 137) rfl ?_
    refine joinG B X246 (F := fun z => (mkF m 160 #[.val (.long p0), .second, .val (.int p1), .val (.int p2), .val (.long p3), .second, .val (.long p4), .second, .val (.int p5), .val (.long qp), .second, .val (.int qr), .val (.int qb), .val (.int (1 : Int32)), .val (.long qw), .second, .val (.ref a218), .val (.long (p4 + p5.toInt64)), .second, .val (.long (fut qr.toInt64 (((qb.toInt64 - (1 : Int64)) * (qp / qr.toInt64)) + (((qb.toInt64 - (1 : Int64)) * (qp % qr.toInt64)) / qr.toInt64)) (((qb.toInt64 - (1 : Int64)) * (qp % qr.toInt64)) % qr.toInt64) qw nn240 np241 (p4 + p5.toInt64))), .second, .val (.long ((((1 : Int32).toInt64 - (qb.toInt64 - (1 : Int64))) * qp) - (p5.toInt64 * qr.toInt64))), .second, .unset, .unset, .unset, .unset] [(.long z)])) (r := (oW ((((1 : Int32).toInt64 - (qb.toInt64 - (1 : Int64))) * qp) - (p5.toInt64 * qr.toInt64)) qr.toInt64)) (fun J => ?_) ?_
    · refine glload B X246 at_137 rfl (pc' := 139) rfl ?_
      refine glconst B X246 at_139 (v := (0 : Int64)) rfl (pc' := 140) rfl ?_
      refine glcmp B X246 at_140 (pc' := 141) rfl ?_
      by_cases c141_247 : (0 : Int64) < ((((1 : Int32).toInt64 - (qb.toInt64 - (1 : Int64))) * qp) - (p5.toInt64 * qr.toInt64))
      · refine gifY B X246 (pc' := 148) at_141 ((if0 _ _).trans (tlt (((lw_gt ((((1 : Int32).toInt64 - (qb.toInt64 - (1 : Int64))) * qp) - (p5.toInt64 * qr.toInt64)) (0 : Int64))).mpr c141_247)).2.2.1) (by decide) ?_
        refine glload B X246 at_148 rfl (pc' := 150) rfl ?_
        refine giload B X246 at_150 rfl (pc' := 152) rfl ?_
        refine gi2l B X246 at_152 rfl (pc' := 153) rfl ?_
        refine gladd B X246 at_153 rfl (pc' := 154) rfl ?_
        refine glconst B X246 at_154 (v := (1 : Int64)) rfl (pc' := 155) rfl ?_
        refine glsub B X246 at_155 rfl (pc' := 156) rfl ?_
        refine giload B X246 at_156 rfl (pc' := 158) rfl ?_
        refine gi2l B X246 at_158 rfl (pc' := 159) rfl ?_
        refine gldiv B X246 at_159 (own_nz hr1) rfl (pc' := 160) rfl ?_
        have e_J : (oW ((((1 : Int32).toInt64 - (qb.toInt64 - (1 : Int64))) * qp) - (p5.toInt64 * qr.toInt64)) qr.toInt64) = (((((((1 : Int32).toInt64 - (qb.toInt64 - (1 : Int64))) * qp) - (p5.toInt64 * qr.toInt64)) + qr.toInt64) - (1 : Int64)) / qr.toInt64) := by rw [oW, if_pos c141_247]
        rw [e_J] at J
        exact J _ X246
      · refine gifN B X246 at_141 ((if0 _ _).trans (flt (mt ((lw_gt ((((1 : Int32).toInt64 - (qb.toInt64 - (1 : Int64))) * qp) - (p5.toInt64 * qr.toInt64)) (0 : Int64))).mp c141_247)).2.2.1) (pc' := 144) rfl ?_
        refine glconst B X246 at_144 (v := (0 : Int64)) rfl (pc' := 145) rfl ?_
        refine ggoto B X246 (pc' := 160) at_145 (by decide) ?_
        have e_J : (oW ((((1 : Int32).toInt64 - (qb.toInt64 - (1 : Int64))) * qp) - (p5.toInt64 * qr.toInt64)) qr.toInt64) = (0 : Int64) := by rw [oW, if_neg c141_247]
        rw [e_J] at J
        exact J _ X246
    intro T248 X249
    show Go p e below s _ _ _ _ _ T248 (mkF m 160 #[.val (.long p0), .second, .val (.int p1), .val (.int p2), .val (.long p3), .second, .val (.long p4), .second, .val (.int p5), .val (.long qp), .second, .val (.int qr), .val (.int qb), .val (.int (1 : Int32)), .val (.long qw), .second, .val (.ref a218), .val (.long (p4 + p5.toInt64)), .second, .val (.long (fut qr.toInt64 (((qb.toInt64 - (1 : Int64)) * (qp / qr.toInt64)) + (((qb.toInt64 - (1 : Int64)) * (qp % qr.toInt64)) / qr.toInt64)) (((qb.toInt64 - (1 : Int64)) * (qp % qr.toInt64)) % qr.toInt64) qw nn240 np241 (p4 + p5.toInt64))), .second, .val (.long ((((1 : Int32).toInt64 - (qb.toInt64 - (1 : Int64))) * qp) - (p5.toInt64 * qr.toInt64))), .second, .unset, .unset, .unset, .unset] [(.long (oW ((((1 : Int32).toInt64 - (qb.toInt64 - (1 : Int64))) * qp) - (p5.toInt64 * qr.toInt64)) qr.toInt64))])
    refine glstore B X249 at_160 (Ls' := #[.val (.long p0), .second, .val (.int p1), .val (.int p2), .val (.long p3), .second, .val (.long p4), .second, .val (.int p5), .val (.long qp), .second, .val (.int qr), .val (.int qb), .val (.int (1 : Int32)), .val (.long qw), .second, .val (.ref a218), .val (.long (p4 + p5.toInt64)), .second, .val (.long (fut qr.toInt64 (((qb.toInt64 - (1 : Int64)) * (qp / qr.toInt64)) + (((qb.toInt64 - (1 : Int64)) * (qp % qr.toInt64)) / qr.toInt64)) (((qb.toInt64 - (1 : Int64)) * (qp % qr.toInt64)) % qr.toInt64) qw nn240 np241 (p4 + p5.toInt64))), .second, .val (.long ((((1 : Int32).toInt64 - (qb.toInt64 - (1 : Int64))) * qp) - (p5.toInt64 * qr.toInt64))), .second, .val (.long (oW ((((1 : Int32).toInt64 - (qb.toInt64 - (1 : Int64))) * qp) - (p5.toInt64 * qr.toInt64)) qr.toInt64)), .second, .unset, .unset]) rfl (pc' := 162) rfl ?_
    refine joinG B X249 (F := fun z => (mkF m 178 #[.val (.long p0), .second, .val (.int p1), .val (.int p2), .val (.long p3), .second, .val (.long p4), .second, .val (.int p5), .val (.long qp), .second, .val (.int qr), .val (.int qb), .val (.int (1 : Int32)), .val (.long qw), .second, .val (.ref a218), .val (.long (p4 + p5.toInt64)), .second, .val (.long (fut qr.toInt64 (((qb.toInt64 - (1 : Int64)) * (qp / qr.toInt64)) + (((qb.toInt64 - (1 : Int64)) * (qp % qr.toInt64)) / qr.toInt64)) (((qb.toInt64 - (1 : Int64)) * (qp % qr.toInt64)) % qr.toInt64) qw nn240 np241 (p4 + p5.toInt64))), .second, .val (.long ((((1 : Int32).toInt64 - (qb.toInt64 - (1 : Int64))) * qp) - (p5.toInt64 * qr.toInt64))), .second, .val (.long (oW ((((1 : Int32).toInt64 - (qb.toInt64 - (1 : Int64))) * qp) - (p5.toInt64 * qr.toInt64)) qr.toInt64)), .second, .unset, .unset] [(.long z)])) (r := (oX qw (oW ((((1 : Int32).toInt64 - (qb.toInt64 - (1 : Int64))) * qp) - (p5.toInt64 * qr.toInt64)) qr.toInt64))) (fun J => ?_) ?_
    · refine glload B X249 at_162 rfl (pc' := 164) rfl ?_
      refine glload B X249 at_164 rfl (pc' := 166) rfl ?_
      refine glcmp B X249 at_166 (pc' := 167) rfl ?_
      by_cases c167_250 : qw < (oW ((((1 : Int32).toInt64 - (qb.toInt64 - (1 : Int64))) * qp) - (p5.toInt64 * qr.toInt64)) qr.toInt64)
      · refine gifN B X249 at_167 ((if0 _ _).trans (tlt (((lw_gt (oW ((((1 : Int32).toInt64 - (qb.toInt64 - (1 : Int64))) * qp) - (p5.toInt64 * qr.toInt64)) qr.toInt64) qw)).mpr c167_250)).2.2.2) (pc' := 170) rfl ?_
        refine gldc2 B X249 (v := (-1 : Int64)) (hw _ (List.mem_of_getElem? (i := 61) rfl)) at_170 (pc' := 173) rfl ?_
        refine ggoto B X249 (pc' := 178) at_173 (by decide) ?_
        have e_J : (oX qw (oW ((((1 : Int32).toInt64 - (qb.toInt64 - (1 : Int64))) * qp) - (p5.toInt64 * qr.toInt64)) qr.toInt64)) = (-1 : Int64) := by rw [oX, if_pos c167_250]
        rw [e_J] at J
        exact J _ X249
      · refine gifY B X249 (pc' := 176) at_167 ((if0 _ _).trans (flt (mt ((lw_gt (oW ((((1 : Int32).toInt64 - (qb.toInt64 - (1 : Int64))) * qp) - (p5.toInt64 * qr.toInt64)) qr.toInt64) qw)).mp c167_250)).2.2.2) (by decide) ?_
        refine glload B X249 at_176 rfl (pc' := 178) rfl ?_
        have e_J : (oX qw (oW ((((1 : Int32).toInt64 - (qb.toInt64 - (1 : Int64))) * qp) - (p5.toInt64 * qr.toInt64)) qr.toInt64)) = (oW ((((1 : Int32).toInt64 - (qb.toInt64 - (1 : Int64))) * qp) - (p5.toInt64 * qr.toInt64)) qr.toInt64) := by rw [oX, if_neg c167_250]
        rw [e_J] at J
        exact J _ X249
    intro T251 X252
    show Go p e below s _ _ _ _ _ T251 (mkF m 178 #[.val (.long p0), .second, .val (.int p1), .val (.int p2), .val (.long p3), .second, .val (.long p4), .second, .val (.int p5), .val (.long qp), .second, .val (.int qr), .val (.int qb), .val (.int (1 : Int32)), .val (.long qw), .second, .val (.ref a218), .val (.long (p4 + p5.toInt64)), .second, .val (.long (fut qr.toInt64 (((qb.toInt64 - (1 : Int64)) * (qp / qr.toInt64)) + (((qb.toInt64 - (1 : Int64)) * (qp % qr.toInt64)) / qr.toInt64)) (((qb.toInt64 - (1 : Int64)) * (qp % qr.toInt64)) % qr.toInt64) qw nn240 np241 (p4 + p5.toInt64))), .second, .val (.long ((((1 : Int32).toInt64 - (qb.toInt64 - (1 : Int64))) * qp) - (p5.toInt64 * qr.toInt64))), .second, .val (.long (oW ((((1 : Int32).toInt64 - (qb.toInt64 - (1 : Int64))) * qp) - (p5.toInt64 * qr.toInt64)) qr.toInt64)), .second, .unset, .unset] [(.long (oX qw (oW ((((1 : Int32).toInt64 - (qb.toInt64 - (1 : Int64))) * qp) - (p5.toInt64 * qr.toInt64)) qr.toInt64)))])
    refine glstore B X252 at_178 (Ls' := #[.val (.long p0), .second, .val (.int p1), .val (.int p2), .val (.long p3), .second, .val (.long p4), .second, .val (.int p5), .val (.long qp), .second, .val (.int qr), .val (.int qb), .val (.int (1 : Int32)), .val (.long qw), .second, .val (.ref a218), .val (.long (p4 + p5.toInt64)), .second, .val (.long (fut qr.toInt64 (((qb.toInt64 - (1 : Int64)) * (qp / qr.toInt64)) + (((qb.toInt64 - (1 : Int64)) * (qp % qr.toInt64)) / qr.toInt64)) (((qb.toInt64 - (1 : Int64)) * (qp % qr.toInt64)) % qr.toInt64) qw nn240 np241 (p4 + p5.toInt64))), .second, .val (.long ((((1 : Int32).toInt64 - (qb.toInt64 - (1 : Int64))) * qp) - (p5.toInt64 * qr.toInt64))), .second, .val (.long (oW ((((1 : Int32).toInt64 - (qb.toInt64 - (1 : Int64))) * qp) - (p5.toInt64 * qr.toInt64)) qr.toInt64)), .second, .val (.long (oX qw (oW ((((1 : Int32).toInt64 - (qb.toInt64 - (1 : Int64))) * qp) - (p5.toInt64 * qr.toInt64)) qr.toInt64))), .second]) rfl (pc' := 180) rfl ?_
    refine glload B X252 at_180 rfl (pc' := 182) rfl ?_
    refine glload B X252 at_182 rfl (pc' := 184) rfl ?_
    refine glcmp B X252 at_184 (pc' := 185) rfl ?_
    have c185_253 : (fut qr.toInt64 (((qb.toInt64 - (1 : Int64)) * (qp / qr.toInt64)) + (((qb.toInt64 - (1 : Int64)) * (qp % qr.toInt64)) / qr.toInt64)) (((qb.toInt64 - (1 : Int64)) * (qp % qr.toInt64)) % qr.toInt64) qw nn240 np241 (p4 + p5.toInt64)) = (oX qw (oW ((((1 : Int32).toInt64 - (qb.toInt64 - (1 : Int64))) * qp) - (p5.toInt64 * qr.toInt64)) qr.toInt64)) := own_fin (k := (1 : Int32)) hr1 hp.1 hp.2 hb.1 hb.2 (by decide) I242
    refine gifN B X252 at_185 ((if0 _ _).trans (teq (((lw_eq (fut qr.toInt64 (((qb.toInt64 - (1 : Int64)) * (qp / qr.toInt64)) + (((qb.toInt64 - (1 : Int64)) * (qp % qr.toInt64)) / qr.toInt64)) (((qb.toInt64 - (1 : Int64)) * (qp % qr.toInt64)) % qr.toInt64) qw nn240 np241 (p4 + p5.toInt64)) (oX qw (oW ((((1 : Int32).toInt64 - (qb.toInt64 - (1 : Int64))) * qp) - (p5.toInt64 * qr.toInt64)) qr.toInt64)))).mpr c185_253)).2) (pc' := 188) rfl ?_
    refine giconst B X252 at_188 (v := (1 : Int32)) rfl (pc' := 189) rfl ?_
    refine ggoto B X252 (pc' := 193) at_189 (by decide) ?_
    exact gretN B X252 (z' := (1 : Int32)) (by simp) (rfl) at_193 (by decide) (by decide) (rfl)
  · rw [e4]
    refine gistore B X187 at_30 (Ls' := #[.val (.long p0), .second, .val (.int p1), .val (.int p2), .val (.long p3), .second, .val (.long p4), .second, .val (.int p5), .val (.long qp), .second, .val (.int qr), .val (.int qb), .val (.int (2 : Int32)), .unset, .unset, .unset, .unset, .unset, .unset, .unset, .unset, .unset, .unset, .unset, .unset, .unset]) rfl (pc' := 32) rfl ?_
    refine glload B X187 at_32 rfl (pc' := 34) rfl ?_
    refine gldc2 B X187 (v := (9223372036854775807 : Int64)) (hw _ (List.mem_of_getElem? (i := 6) rfl)) at_34 (pc' := 37) rfl ?_
    refine gland B X187 at_37 rfl (pc' := 38) rfl ?_
    generalize e_qw : (p3 &&& (9223372036854775807 : Int64)) = qw
    refine glstore B X187 at_38 (Ls' := #[.val (.long p0), .second, .val (.int p1), .val (.int p2), .val (.long p3), .second, .val (.long p4), .second, .val (.int p5), .val (.long qp), .second, .val (.int qr), .val (.int qb), .val (.int (2 : Int32)), .val (.long qw), .second, .unset, .unset, .unset, .unset, .unset, .unset, .unset, .unset, .unset, .unset, .unset]) rfl (pc' := 40) rfl ?_
    refine gnew B X187 (hw _ (List.mem_of_getElem? (i := 7) rfl)) (hw _ (List.mem_of_getElem? (i := 8) rfl)) (hw _ (List.mem_of_getElem? (i := 9) rfl)) (by decide) (by decide) at_40 (pc' := 43) rfl fun T254 h255 a256 X257 q258 E259 z_a256 A260 D261 => ?_
    have O262 : Pc Z h255 a256 (.long (0 : Int64)) (.long (0 : Int64)) (.long (0 : Int64)) (.long (0 : Int64)) (.long (0 : Int64)) (.long (0 : Int64)) (.long (0 : Int64)) (.long (0 : Int64)) := ⟨A260, D261 (Or.inr (hw _ (List.mem_of_getElem? (i := 17) rfl))) (ty := .long) (by decide), D261 (Or.inr (hw _ (List.mem_of_getElem? (i := 19) rfl))) (ty := .long) (by decide), D261 (Or.inr (hw _ (List.mem_of_getElem? (i := 21) rfl))) (ty := .long) (by decide), D261 (Or.inr (hw _ (List.mem_of_getElem? (i := 32) rfl))) (ty := .long) (by decide), D261 (Or.inr (hw _ (List.mem_of_getElem? (i := 34) rfl))) (ty := .long) (by decide), D261 (Or.inr (hw _ (List.mem_of_getElem? (i := 36) rfl))) (ty := .long) (by decide), D261 (Or.inl (hw _ (List.mem_of_getElem? (i := 38) rfl))) (ty := .long) (by decide), D261 (Or.inl (hw _ (List.mem_of_getElem? (i := 45) rfl))) (ty := .long) (by decide)⟩
    refine gdup B X257 at_43 rfl (pc' := 44) rfl ?_
    refine glload B X257 at_44 rfl (pc' := 46) rfl ?_
    refine giload B X257 at_46 rfl (pc' := 48) rfl ?_
    refine giload B X257 at_48 rfl (pc' := 50) rfl ?_
    refine glload B X257 at_50 rfl (pc' := 52) rfl ?_
    refine glload B X257 at_52 rfl (pc' := 54) rfl ?_
    have hc := (own_tol qp qr qb hp.1 (by omega) hr1 hb.1 hb.2 (own_bq hp.1 hp.2 hb.1 hb.2)).1
    refine gcallI B X257 rfl rfl (hw _ (List.mem_of_getElem? (i := 10) rfl)) (hw _ (List.mem_of_getElem? (i := 11) rfl)) (hw _ (List.mem_of_getElem? (i := 9) rfl)) (hw _ (List.mem_of_getElem? (i := 12) rfl)) (by decide) (mt2 l Z a0 hw a256 qp qr qb qw p4  h255 O262 (own_nz hr1) hc.1 hc.2.1 hc.2.2) pd__JIIJJ_V rfl (argsL := [(.long qp), (.int qr), (.int qb), (.long qw), (.long p4)]) (st := [(.ref a256)]) rfl rfl (W := 1) (Nat.le_of_eq rfl) (by decide) (by decide) (by decide) (by decide) (allS (Or.inr z_a256) all0) at_54 (pc' := 57) rfl fun T263 h264 v265 X266 K267 Q268 => ?_
    obtain ⟨rfl, O269⟩ := Q268
    show Go p e below s _ _ _ _ _ T263 (mkF m 57 #[.val (.long p0), .second, .val (.int p1), .val (.int p2), .val (.long p3), .second, .val (.long p4), .second, .val (.int p5), .val (.long qp), .second, .val (.int qr), .val (.int qb), .val (.int (2 : Int32)), .val (.long qw), .second, .unset, .unset, .unset, .unset, .unset, .unset, .unset, .unset, .unset, .unset, .unset] [(.ref a256)])
    have hR : 0 < qr.toInt64.toInt := by rw [own_wide]; exact hr1
    have hR2 : qr.toInt64.toInt < 2147483648 := by rw [own_wide]; exact (rng32 qr).2
    have hP1 : 0 ≤ qp.toInt := hp.1
    have hP2 : qp.toInt ≤ 1152921504606846976 := by omega
    have I0 := own_inv0 p4 qp qr.toInt64 hR
    refine gastore B X266 at_57 rfl (Ls' := #[.val (.long p0), .second, .val (.int p1), .val (.int p2), .val (.long p3), .second, .val (.long p4), .second, .val (.int p5), .val (.long qp), .second, .val (.int qr), .val (.int qb), .val (.int (2 : Int32)), .val (.long qw), .second, .val (.ref a256), .unset, .unset, .unset, .unset, .unset, .unset, .unset, .unset, .unset, .unset]) rfl (pc' := 59) rfl ?_
    refine giload B X266 at_59 rfl (pc' := 61) rfl ?_
    refine giconst B X266 at_61 (v := (1 : Int32)) rfl (pc' := 62) rfl ?_
    have c62_270 : ¬ ((2 : Int32) < (1 : Int32)) := (by decide)
    refine gicN B X266 at_62 (flt c62_270).1 (pc' := 65) rfl ?_
    refine gaload B X266 at_65 rfl rfl (pc' := 67) rfl ?_
    refine glload B X266 at_67 rfl (pc' := 69) rfl ?_
    refine gcallV B X266 O269.1 (hw _ (List.mem_of_getElem? (i := 50) rfl)) (hw _ (List.mem_of_getElem? (i := 51) rfl)) (hw _ (List.mem_of_getElem? (i := 53) rfl)) (hw _ (List.mem_of_getElem? (i := 52) rfl)) (hw _ (List.mem_of_getElem? (i := 9) rfl)) (hw _ (List.mem_of_getElem? (i := 54) rfl)) rfl (by decide) (mt9 l Z a0 hw a256 p4 qr.toInt64 (qp / qr.toInt64) (qp % qr.toInt64) (((qb.toInt64 - (1 : Int64)) * (qp / qr.toInt64)) + (((qb.toInt64 - (1 : Int64)) * (qp % qr.toInt64)) / qr.toInt64)) (((qb.toInt64 - (1 : Int64)) * (qp % qr.toInt64)) % qr.toInt64) qw p4 (0 : Int64) h264 O269) pd__J_V rfl (argsL := [(.long p4)]) (st := []) rfl rfl (W := 0) (Nat.le_of_eq rfl) (by decide) (by decide) (by decide) (by decide) (allS (Or.inr z_a256) all0) at_69 (pc' := 72) rfl fun T271 h272 v273 X274 K275 Q276 => ?_
    obtain ⟨rfl, O277⟩ := Q276
    have I280 := own_step (j := 0) hR hR2 hP1 hP2 p4 (own_notfull I0.1) (own_bound hR hP1 hP2 (by decide) (by decide) I0) I0
    generalize (oN qr.toInt64 (qp / qr.toInt64) (qp % qr.toInt64) p4 (0 : Int64) p4) = nn278 at O277 I280
    generalize (oP qr.toInt64 (qp / qr.toInt64) (qp % qr.toInt64) p4 (0 : Int64) p4) = np279 at O277 I280
    show Go p e below s _ _ _ _ _ T271 (mkF m 72 #[.val (.long p0), .second, .val (.int p1), .val (.int p2), .val (.long p3), .second, .val (.long p4), .second, .val (.int p5), .val (.long qp), .second, .val (.int qr), .val (.int qb), .val (.int (2 : Int32)), .val (.long qw), .second, .val (.ref a256), .unset, .unset, .unset, .unset, .unset, .unset, .unset, .unset, .unset, .unset] [])
    refine giload B X274 at_72 rfl (pc' := 74) rfl ?_
    refine giconst B X274 at_74 (v := (2 : Int32)) rfl (pc' := 75) rfl ?_
    have c75_281 : ¬ ((2 : Int32) < (2 : Int32)) := (by decide)
    refine gicN B X274 at_75 (flt c75_281).1 (pc' := 78) rfl ?_
    refine gaload B X274 at_78 rfl rfl (pc' := 80) rfl ?_
    refine glload B X274 at_80 rfl (pc' := 82) rfl ?_
    refine gcallV B X274 O277.1 (hw _ (List.mem_of_getElem? (i := 50) rfl)) (hw _ (List.mem_of_getElem? (i := 51) rfl)) (hw _ (List.mem_of_getElem? (i := 53) rfl)) (hw _ (List.mem_of_getElem? (i := 52) rfl)) (hw _ (List.mem_of_getElem? (i := 9) rfl)) (hw _ (List.mem_of_getElem? (i := 54) rfl)) rfl (by decide) (mt9 l Z a0 hw a256 p4 qr.toInt64 (qp / qr.toInt64) (qp % qr.toInt64) (((qb.toInt64 - (1 : Int64)) * (qp / qr.toInt64)) + (((qb.toInt64 - (1 : Int64)) * (qp % qr.toInt64)) / qr.toInt64)) (((qb.toInt64 - (1 : Int64)) * (qp % qr.toInt64)) % qr.toInt64) qw nn278 np279 h272 O277) pd__J_V rfl (argsL := [(.long p4)]) (st := []) rfl rfl (W := 0) (Nat.le_of_eq rfl) (by decide) (by decide) (by decide) (by decide) (allS (Or.inr z_a256) all0) at_82 (pc' := 85) rfl fun T282 h283 v284 X285 K286 Q287 => ?_
    obtain ⟨rfl, O288⟩ := Q287
    have I291 := own_step (j := 1) hR hR2 hP1 hP2 p4 (own_notfull I280.1) (own_bound hR hP1 hP2 (by decide) (by decide) I280) I280
    generalize (oN qr.toInt64 (qp / qr.toInt64) (qp % qr.toInt64) nn278 np279 p4) = nn289 at O288 I291
    generalize (oP qr.toInt64 (qp / qr.toInt64) (qp % qr.toInt64) nn278 np279 p4) = np290 at O288 I291
    show Go p e below s _ _ _ _ _ T282 (mkF m 85 #[.val (.long p0), .second, .val (.int p1), .val (.int p2), .val (.long p3), .second, .val (.long p4), .second, .val (.int p5), .val (.long qp), .second, .val (.int qr), .val (.int qb), .val (.int (2 : Int32)), .val (.long qw), .second, .val (.ref a256), .unset, .unset, .unset, .unset, .unset, .unset, .unset, .unset, .unset, .unset] [])
    refine giload B X285 at_85 rfl (pc' := 87) rfl ?_
    refine giconst B X285 at_87 (v := (3 : Int32)) rfl (pc' := 88) rfl ?_
    have c88_292 : (2 : Int32) < (3 : Int32) := (by decide)
    refine gicY B X285 (pc' := 98) at_88 (tlt c88_292).1 (by decide) ?_
    refine glload B X285 at_98 rfl (pc' := 100) rfl ?_
    refine giload B X285 at_100 rfl (pc' := 102) rfl ?_
    refine gi2l B X285 at_102 rfl (pc' := 103) rfl ?_
    refine gladd B X285 at_103 rfl (pc' := 104) rfl ?_
    refine glstore B X285 at_104 (Ls' := #[.val (.long p0), .second, .val (.int p1), .val (.int p2), .val (.long p3), .second, .val (.long p4), .second, .val (.int p5), .val (.long qp), .second, .val (.int qr), .val (.int qb), .val (.int (2 : Int32)), .val (.long qw), .second, .val (.ref a256), .val (.long (p4 + p5.toInt64)), .second, .unset, .unset, .unset, .unset, .unset, .unset, .unset, .unset]) rfl (pc' := 106) rfl ?_
    refine gaload B X285 at_106 rfl rfl (pc' := 108) rfl ?_
    refine glload B X285 at_108 rfl (pc' := 110) rfl ?_
    refine gcallV B X285 O288.1 (hw _ (List.mem_of_getElem? (i := 39) rfl)) (hw _ (List.mem_of_getElem? (i := 40) rfl)) (hw _ (List.mem_of_getElem? (i := 42) rfl)) (hw _ (List.mem_of_getElem? (i := 41) rfl)) (hw _ (List.mem_of_getElem? (i := 9) rfl)) (hw _ (List.mem_of_getElem? (i := 43) rfl)) rfl (by decide) (mtut l Z a0 hw a256 (p4 + p5.toInt64) qr.toInt64 (qp / qr.toInt64) (qp % qr.toInt64) (((qb.toInt64 - (1 : Int64)) * (qp / qr.toInt64)) + (((qb.toInt64 - (1 : Int64)) * (qp % qr.toInt64)) / qr.toInt64)) (((qb.toInt64 - (1 : Int64)) * (qp % qr.toInt64)) % qr.toInt64) qw nn289 np290 h283 O288) pd__J_J rfl (argsL := [(.long (p4 + p5.toInt64))]) (st := []) rfl rfl (W := 0) (Nat.le_of_eq rfl) (by decide) (by decide) (by decide) (by decide) (fun x q => nomatch q) at_110 (pc' := 113) rfl (pureG rfl rfl fun T293 X294 => ?_)
    refine glstore B X294 at_113 (Ls' := #[.val (.long p0), .second, .val (.int p1), .val (.int p2), .val (.long p3), .second, .val (.long p4), .second, .val (.int p5), .val (.long qp), .second, .val (.int qr), .val (.int qb), .val (.int (2 : Int32)), .val (.long qw), .second, .val (.ref a256), .val (.long (p4 + p5.toInt64)), .second, .val (.long (fut qr.toInt64 (((qb.toInt64 - (1 : Int64)) * (qp / qr.toInt64)) + (((qb.toInt64 - (1 : Int64)) * (qp % qr.toInt64)) / qr.toInt64)) (((qb.toInt64 - (1 : Int64)) * (qp % qr.toInt64)) % qr.toInt64) qw nn289 np290 (p4 + p5.toInt64))), .second, .unset, .unset, .unset, .unset, .unset, .unset]) rfl (pc' := 115) rfl ?_
    refine giload B X294 at_115 rfl (pc' := 117) rfl ?_
    refine gi2l B X294 at_117 rfl (pc' := 118) rfl ?_
    refine giload B X294 at_118 rfl (pc' := 120) rfl ?_
    refine gi2l B X294 at_120 rfl (pc' := 121) rfl ?_
    refine glconst B X294 at_121 (v := (1 : Int64)) rfl (pc' := 122) rfl ?_
    refine glsub B X294 at_122 rfl (pc' := 123) rfl ?_
    refine glsub B X294 at_123 rfl (pc' := 124) rfl ?_
    refine glload B X294 at_124 rfl (pc' := 126) rfl ?_
    refine glmul B X294 at_126 rfl (pc' := 127) rfl ?_
    refine giload B X294 at_127 rfl (pc' := 129) rfl ?_
    refine gi2l B X294 at_129 rfl (pc' := 130) rfl ?_
    refine giload B X294 at_130 rfl (pc' := 132) rfl ?_
    refine gi2l B X294 at_132 rfl (pc' := 133) rfl ?_
    refine glmul B X294 at_133 rfl (pc' := 134) rfl ?_
    refine glsub B X294 at_134 rfl (pc' := 135) rfl ?_
    refine glstore B X294 at_135 (Ls' := #[.val (.long p0), .second, .val (.int p1), .val (.int p2), .val (.long p3), .second, .val (.long p4), .second, .val (.int p5), .val (.long qp), .second, .val (.int qr), .val (.int qb), .val (.int (2 : Int32)), .val (.long qw), .second, .val (.ref a256), .val (.long (p4 + p5.toInt64)), .second, .val (.long (fut qr.toInt64 (((qb.toInt64 - (1 : Int64)) * (qp / qr.toInt64)) + (((qb.toInt64 - (1 : Int64)) * (qp % qr.toInt64)) / qr.toInt64)) (((qb.toInt64 - (1 : Int64)) * (qp % qr.toInt64)) % qr.toInt64) qw nn289 np290 (p4 + p5.toInt64))), .second, .val (.long ((((2 : Int32).toInt64 - (qb.toInt64 - (1 : Int64))) * qp) - (p5.toInt64 * qr.toInt64))), .second, .unset, .unset, .unset, .unset]) rfl (pc' := 137) rfl ?_
    refine joinG B X294 (F := fun z => (mkF m 160 #[.val (.long p0), .second, .val (.int p1), .val (.int p2), .val (.long p3), .second, .val (.long p4), .second, .val (.int p5), .val (.long qp), .second, .val (.int qr), .val (.int qb), .val (.int (2 : Int32)), .val (.long qw), .second, .val (.ref a256), .val (.long (p4 + p5.toInt64)), .second, .val (.long (fut qr.toInt64 (((qb.toInt64 - (1 : Int64)) * (qp / qr.toInt64)) + (((qb.toInt64 - (1 : Int64)) * (qp % qr.toInt64)) / qr.toInt64)) (((qb.toInt64 - (1 : Int64)) * (qp % qr.toInt64)) % qr.toInt64) qw nn289 np290 (p4 + p5.toInt64))), .second, .val (.long ((((2 : Int32).toInt64 - (qb.toInt64 - (1 : Int64))) * qp) - (p5.toInt64 * qr.toInt64))), .second, .unset, .unset, .unset, .unset] [(.long z)])) (r := (oW ((((2 : Int32).toInt64 - (qb.toInt64 - (1 : Int64))) * qp) - (p5.toInt64 * qr.toInt64)) qr.toInt64)) (fun J => ?_) ?_
    · refine glload B X294 at_137 rfl (pc' := 139) rfl ?_
      refine glconst B X294 at_139 (v := (0 : Int64)) rfl (pc' := 140) rfl ?_
      refine glcmp B X294 at_140 (pc' := 141) rfl ?_
      by_cases c141_295 : (0 : Int64) < ((((2 : Int32).toInt64 - (qb.toInt64 - (1 : Int64))) * qp) - (p5.toInt64 * qr.toInt64))
      · refine gifY B X294 (pc' := 148) at_141 ((if0 _ _).trans (tlt (((lw_gt ((((2 : Int32).toInt64 - (qb.toInt64 - (1 : Int64))) * qp) - (p5.toInt64 * qr.toInt64)) (0 : Int64))).mpr c141_295)).2.2.1) (by decide) ?_
        refine glload B X294 at_148 rfl (pc' := 150) rfl ?_
        refine giload B X294 at_150 rfl (pc' := 152) rfl ?_
        refine gi2l B X294 at_152 rfl (pc' := 153) rfl ?_
        refine gladd B X294 at_153 rfl (pc' := 154) rfl ?_
        refine glconst B X294 at_154 (v := (1 : Int64)) rfl (pc' := 155) rfl ?_
        refine glsub B X294 at_155 rfl (pc' := 156) rfl ?_
        refine giload B X294 at_156 rfl (pc' := 158) rfl ?_
        refine gi2l B X294 at_158 rfl (pc' := 159) rfl ?_
        refine gldiv B X294 at_159 (own_nz hr1) rfl (pc' := 160) rfl ?_
        have e_J : (oW ((((2 : Int32).toInt64 - (qb.toInt64 - (1 : Int64))) * qp) - (p5.toInt64 * qr.toInt64)) qr.toInt64) = (((((((2 : Int32).toInt64 - (qb.toInt64 - (1 : Int64))) * qp) - (p5.toInt64 * qr.toInt64)) + qr.toInt64) - (1 : Int64)) / qr.toInt64) := by rw [oW, if_pos c141_295]
        rw [e_J] at J
        exact J _ X294
      · refine gifN B X294 at_141 ((if0 _ _).trans (flt (mt ((lw_gt ((((2 : Int32).toInt64 - (qb.toInt64 - (1 : Int64))) * qp) - (p5.toInt64 * qr.toInt64)) (0 : Int64))).mp c141_295)).2.2.1) (pc' := 144) rfl ?_
        refine glconst B X294 at_144 (v := (0 : Int64)) rfl (pc' := 145) rfl ?_
        refine ggoto B X294 (pc' := 160) at_145 (by decide) ?_
        have e_J : (oW ((((2 : Int32).toInt64 - (qb.toInt64 - (1 : Int64))) * qp) - (p5.toInt64 * qr.toInt64)) qr.toInt64) = (0 : Int64) := by rw [oW, if_neg c141_295]
        rw [e_J] at J
        exact J _ X294
    intro T296 X297
    show Go p e below s _ _ _ _ _ T296 (mkF m 160 #[.val (.long p0), .second, .val (.int p1), .val (.int p2), .val (.long p3), .second, .val (.long p4), .second, .val (.int p5), .val (.long qp), .second, .val (.int qr), .val (.int qb), .val (.int (2 : Int32)), .val (.long qw), .second, .val (.ref a256), .val (.long (p4 + p5.toInt64)), .second, .val (.long (fut qr.toInt64 (((qb.toInt64 - (1 : Int64)) * (qp / qr.toInt64)) + (((qb.toInt64 - (1 : Int64)) * (qp % qr.toInt64)) / qr.toInt64)) (((qb.toInt64 - (1 : Int64)) * (qp % qr.toInt64)) % qr.toInt64) qw nn289 np290 (p4 + p5.toInt64))), .second, .val (.long ((((2 : Int32).toInt64 - (qb.toInt64 - (1 : Int64))) * qp) - (p5.toInt64 * qr.toInt64))), .second, .unset, .unset, .unset, .unset] [(.long (oW ((((2 : Int32).toInt64 - (qb.toInt64 - (1 : Int64))) * qp) - (p5.toInt64 * qr.toInt64)) qr.toInt64))])
    refine glstore B X297 at_160 (Ls' := #[.val (.long p0), .second, .val (.int p1), .val (.int p2), .val (.long p3), .second, .val (.long p4), .second, .val (.int p5), .val (.long qp), .second, .val (.int qr), .val (.int qb), .val (.int (2 : Int32)), .val (.long qw), .second, .val (.ref a256), .val (.long (p4 + p5.toInt64)), .second, .val (.long (fut qr.toInt64 (((qb.toInt64 - (1 : Int64)) * (qp / qr.toInt64)) + (((qb.toInt64 - (1 : Int64)) * (qp % qr.toInt64)) / qr.toInt64)) (((qb.toInt64 - (1 : Int64)) * (qp % qr.toInt64)) % qr.toInt64) qw nn289 np290 (p4 + p5.toInt64))), .second, .val (.long ((((2 : Int32).toInt64 - (qb.toInt64 - (1 : Int64))) * qp) - (p5.toInt64 * qr.toInt64))), .second, .val (.long (oW ((((2 : Int32).toInt64 - (qb.toInt64 - (1 : Int64))) * qp) - (p5.toInt64 * qr.toInt64)) qr.toInt64)), .second, .unset, .unset]) rfl (pc' := 162) rfl ?_
    refine joinG B X297 (F := fun z => (mkF m 178 #[.val (.long p0), .second, .val (.int p1), .val (.int p2), .val (.long p3), .second, .val (.long p4), .second, .val (.int p5), .val (.long qp), .second, .val (.int qr), .val (.int qb), .val (.int (2 : Int32)), .val (.long qw), .second, .val (.ref a256), .val (.long (p4 + p5.toInt64)), .second, .val (.long (fut qr.toInt64 (((qb.toInt64 - (1 : Int64)) * (qp / qr.toInt64)) + (((qb.toInt64 - (1 : Int64)) * (qp % qr.toInt64)) / qr.toInt64)) (((qb.toInt64 - (1 : Int64)) * (qp % qr.toInt64)) % qr.toInt64) qw nn289 np290 (p4 + p5.toInt64))), .second, .val (.long ((((2 : Int32).toInt64 - (qb.toInt64 - (1 : Int64))) * qp) - (p5.toInt64 * qr.toInt64))), .second, .val (.long (oW ((((2 : Int32).toInt64 - (qb.toInt64 - (1 : Int64))) * qp) - (p5.toInt64 * qr.toInt64)) qr.toInt64)), .second, .unset, .unset] [(.long z)])) (r := (oX qw (oW ((((2 : Int32).toInt64 - (qb.toInt64 - (1 : Int64))) * qp) - (p5.toInt64 * qr.toInt64)) qr.toInt64))) (fun J => ?_) ?_
    · refine glload B X297 at_162 rfl (pc' := 164) rfl ?_
      refine glload B X297 at_164 rfl (pc' := 166) rfl ?_
      refine glcmp B X297 at_166 (pc' := 167) rfl ?_
      by_cases c167_298 : qw < (oW ((((2 : Int32).toInt64 - (qb.toInt64 - (1 : Int64))) * qp) - (p5.toInt64 * qr.toInt64)) qr.toInt64)
      · refine gifN B X297 at_167 ((if0 _ _).trans (tlt (((lw_gt (oW ((((2 : Int32).toInt64 - (qb.toInt64 - (1 : Int64))) * qp) - (p5.toInt64 * qr.toInt64)) qr.toInt64) qw)).mpr c167_298)).2.2.2) (pc' := 170) rfl ?_
        refine gldc2 B X297 (v := (-1 : Int64)) (hw _ (List.mem_of_getElem? (i := 61) rfl)) at_170 (pc' := 173) rfl ?_
        refine ggoto B X297 (pc' := 178) at_173 (by decide) ?_
        have e_J : (oX qw (oW ((((2 : Int32).toInt64 - (qb.toInt64 - (1 : Int64))) * qp) - (p5.toInt64 * qr.toInt64)) qr.toInt64)) = (-1 : Int64) := by rw [oX, if_pos c167_298]
        rw [e_J] at J
        exact J _ X297
      · refine gifY B X297 (pc' := 176) at_167 ((if0 _ _).trans (flt (mt ((lw_gt (oW ((((2 : Int32).toInt64 - (qb.toInt64 - (1 : Int64))) * qp) - (p5.toInt64 * qr.toInt64)) qr.toInt64) qw)).mp c167_298)).2.2.2) (by decide) ?_
        refine glload B X297 at_176 rfl (pc' := 178) rfl ?_
        have e_J : (oX qw (oW ((((2 : Int32).toInt64 - (qb.toInt64 - (1 : Int64))) * qp) - (p5.toInt64 * qr.toInt64)) qr.toInt64)) = (oW ((((2 : Int32).toInt64 - (qb.toInt64 - (1 : Int64))) * qp) - (p5.toInt64 * qr.toInt64)) qr.toInt64) := by rw [oX, if_neg c167_298]
        rw [e_J] at J
        exact J _ X297
    intro T299 X300
    show Go p e below s _ _ _ _ _ T299 (mkF m 178 #[.val (.long p0), .second, .val (.int p1), .val (.int p2), .val (.long p3), .second, .val (.long p4), .second, .val (.int p5), .val (.long qp), .second, .val (.int qr), .val (.int qb), .val (.int (2 : Int32)), .val (.long qw), .second, .val (.ref a256), .val (.long (p4 + p5.toInt64)), .second, .val (.long (fut qr.toInt64 (((qb.toInt64 - (1 : Int64)) * (qp / qr.toInt64)) + (((qb.toInt64 - (1 : Int64)) * (qp % qr.toInt64)) / qr.toInt64)) (((qb.toInt64 - (1 : Int64)) * (qp % qr.toInt64)) % qr.toInt64) qw nn289 np290 (p4 + p5.toInt64))), .second, .val (.long ((((2 : Int32).toInt64 - (qb.toInt64 - (1 : Int64))) * qp) - (p5.toInt64 * qr.toInt64))), .second, .val (.long (oW ((((2 : Int32).toInt64 - (qb.toInt64 - (1 : Int64))) * qp) - (p5.toInt64 * qr.toInt64)) qr.toInt64)), .second, .unset, .unset] [(.long (oX qw (oW ((((2 : Int32).toInt64 - (qb.toInt64 - (1 : Int64))) * qp) - (p5.toInt64 * qr.toInt64)) qr.toInt64)))])
    refine glstore B X300 at_178 (Ls' := #[.val (.long p0), .second, .val (.int p1), .val (.int p2), .val (.long p3), .second, .val (.long p4), .second, .val (.int p5), .val (.long qp), .second, .val (.int qr), .val (.int qb), .val (.int (2 : Int32)), .val (.long qw), .second, .val (.ref a256), .val (.long (p4 + p5.toInt64)), .second, .val (.long (fut qr.toInt64 (((qb.toInt64 - (1 : Int64)) * (qp / qr.toInt64)) + (((qb.toInt64 - (1 : Int64)) * (qp % qr.toInt64)) / qr.toInt64)) (((qb.toInt64 - (1 : Int64)) * (qp % qr.toInt64)) % qr.toInt64) qw nn289 np290 (p4 + p5.toInt64))), .second, .val (.long ((((2 : Int32).toInt64 - (qb.toInt64 - (1 : Int64))) * qp) - (p5.toInt64 * qr.toInt64))), .second, .val (.long (oW ((((2 : Int32).toInt64 - (qb.toInt64 - (1 : Int64))) * qp) - (p5.toInt64 * qr.toInt64)) qr.toInt64)), .second, .val (.long (oX qw (oW ((((2 : Int32).toInt64 - (qb.toInt64 - (1 : Int64))) * qp) - (p5.toInt64 * qr.toInt64)) qr.toInt64))), .second]) rfl (pc' := 180) rfl ?_
    refine glload B X300 at_180 rfl (pc' := 182) rfl ?_
    refine glload B X300 at_182 rfl (pc' := 184) rfl ?_
    refine glcmp B X300 at_184 (pc' := 185) rfl ?_
    have c185_301 : (fut qr.toInt64 (((qb.toInt64 - (1 : Int64)) * (qp / qr.toInt64)) + (((qb.toInt64 - (1 : Int64)) * (qp % qr.toInt64)) / qr.toInt64)) (((qb.toInt64 - (1 : Int64)) * (qp % qr.toInt64)) % qr.toInt64) qw nn289 np290 (p4 + p5.toInt64)) = (oX qw (oW ((((2 : Int32).toInt64 - (qb.toInt64 - (1 : Int64))) * qp) - (p5.toInt64 * qr.toInt64)) qr.toInt64)) := own_fin (k := (2 : Int32)) hr1 hp.1 hp.2 hb.1 hb.2 (by decide) I291
    refine gifN B X300 at_185 ((if0 _ _).trans (teq (((lw_eq (fut qr.toInt64 (((qb.toInt64 - (1 : Int64)) * (qp / qr.toInt64)) + (((qb.toInt64 - (1 : Int64)) * (qp % qr.toInt64)) / qr.toInt64)) (((qb.toInt64 - (1 : Int64)) * (qp % qr.toInt64)) % qr.toInt64) qw nn289 np290 (p4 + p5.toInt64)) (oX qw (oW ((((2 : Int32).toInt64 - (qb.toInt64 - (1 : Int64))) * qp) - (p5.toInt64 * qr.toInt64)) qr.toInt64)))).mpr c185_301)).2) (pc' := 188) rfl ?_
    refine giconst B X300 at_188 (v := (1 : Int32)) rfl (pc' := 189) rfl ?_
    refine ggoto B X300 (pc' := 193) at_189 (by decide) ?_
    exact gretN B X300 (z' := (1 : Int32)) (by simp) (rfl) at_193 (by decide) (by decide) (rfl)
  · rw [e4]
    refine gistore B X187 at_30 (Ls' := #[.val (.long p0), .second, .val (.int p1), .val (.int p2), .val (.long p3), .second, .val (.long p4), .second, .val (.int p5), .val (.long qp), .second, .val (.int qr), .val (.int qb), .val (.int (3 : Int32)), .unset, .unset, .unset, .unset, .unset, .unset, .unset, .unset, .unset, .unset, .unset, .unset, .unset]) rfl (pc' := 32) rfl ?_
    refine glload B X187 at_32 rfl (pc' := 34) rfl ?_
    refine gldc2 B X187 (v := (9223372036854775807 : Int64)) (hw _ (List.mem_of_getElem? (i := 6) rfl)) at_34 (pc' := 37) rfl ?_
    refine gland B X187 at_37 rfl (pc' := 38) rfl ?_
    generalize e_qw : (p3 &&& (9223372036854775807 : Int64)) = qw
    refine glstore B X187 at_38 (Ls' := #[.val (.long p0), .second, .val (.int p1), .val (.int p2), .val (.long p3), .second, .val (.long p4), .second, .val (.int p5), .val (.long qp), .second, .val (.int qr), .val (.int qb), .val (.int (3 : Int32)), .val (.long qw), .second, .unset, .unset, .unset, .unset, .unset, .unset, .unset, .unset, .unset, .unset, .unset]) rfl (pc' := 40) rfl ?_
    refine gnew B X187 (hw _ (List.mem_of_getElem? (i := 7) rfl)) (hw _ (List.mem_of_getElem? (i := 8) rfl)) (hw _ (List.mem_of_getElem? (i := 9) rfl)) (by decide) (by decide) at_40 (pc' := 43) rfl fun T302 h303 a304 X305 q306 E307 z_a304 A308 D309 => ?_
    have O310 : Pc Z h303 a304 (.long (0 : Int64)) (.long (0 : Int64)) (.long (0 : Int64)) (.long (0 : Int64)) (.long (0 : Int64)) (.long (0 : Int64)) (.long (0 : Int64)) (.long (0 : Int64)) := ⟨A308, D309 (Or.inr (hw _ (List.mem_of_getElem? (i := 17) rfl))) (ty := .long) (by decide), D309 (Or.inr (hw _ (List.mem_of_getElem? (i := 19) rfl))) (ty := .long) (by decide), D309 (Or.inr (hw _ (List.mem_of_getElem? (i := 21) rfl))) (ty := .long) (by decide), D309 (Or.inr (hw _ (List.mem_of_getElem? (i := 32) rfl))) (ty := .long) (by decide), D309 (Or.inr (hw _ (List.mem_of_getElem? (i := 34) rfl))) (ty := .long) (by decide), D309 (Or.inr (hw _ (List.mem_of_getElem? (i := 36) rfl))) (ty := .long) (by decide), D309 (Or.inl (hw _ (List.mem_of_getElem? (i := 38) rfl))) (ty := .long) (by decide), D309 (Or.inl (hw _ (List.mem_of_getElem? (i := 45) rfl))) (ty := .long) (by decide)⟩
    refine gdup B X305 at_43 rfl (pc' := 44) rfl ?_
    refine glload B X305 at_44 rfl (pc' := 46) rfl ?_
    refine giload B X305 at_46 rfl (pc' := 48) rfl ?_
    refine giload B X305 at_48 rfl (pc' := 50) rfl ?_
    refine glload B X305 at_50 rfl (pc' := 52) rfl ?_
    refine glload B X305 at_52 rfl (pc' := 54) rfl ?_
    have hc := (own_tol qp qr qb hp.1 (by omega) hr1 hb.1 hb.2 (own_bq hp.1 hp.2 hb.1 hb.2)).1
    refine gcallI B X305 rfl rfl (hw _ (List.mem_of_getElem? (i := 10) rfl)) (hw _ (List.mem_of_getElem? (i := 11) rfl)) (hw _ (List.mem_of_getElem? (i := 9) rfl)) (hw _ (List.mem_of_getElem? (i := 12) rfl)) (by decide) (mt2 l Z a0 hw a304 qp qr qb qw p4  h303 O310 (own_nz hr1) hc.1 hc.2.1 hc.2.2) pd__JIIJJ_V rfl (argsL := [(.long qp), (.int qr), (.int qb), (.long qw), (.long p4)]) (st := [(.ref a304)]) rfl rfl (W := 1) (Nat.le_of_eq rfl) (by decide) (by decide) (by decide) (by decide) (allS (Or.inr z_a304) all0) at_54 (pc' := 57) rfl fun T311 h312 v313 X314 K315 Q316 => ?_
    obtain ⟨rfl, O317⟩ := Q316
    show Go p e below s _ _ _ _ _ T311 (mkF m 57 #[.val (.long p0), .second, .val (.int p1), .val (.int p2), .val (.long p3), .second, .val (.long p4), .second, .val (.int p5), .val (.long qp), .second, .val (.int qr), .val (.int qb), .val (.int (3 : Int32)), .val (.long qw), .second, .unset, .unset, .unset, .unset, .unset, .unset, .unset, .unset, .unset, .unset, .unset] [(.ref a304)])
    have hR : 0 < qr.toInt64.toInt := by rw [own_wide]; exact hr1
    have hR2 : qr.toInt64.toInt < 2147483648 := by rw [own_wide]; exact (rng32 qr).2
    have hP1 : 0 ≤ qp.toInt := hp.1
    have hP2 : qp.toInt ≤ 1152921504606846976 := by omega
    have I0 := own_inv0 p4 qp qr.toInt64 hR
    refine gastore B X314 at_57 rfl (Ls' := #[.val (.long p0), .second, .val (.int p1), .val (.int p2), .val (.long p3), .second, .val (.long p4), .second, .val (.int p5), .val (.long qp), .second, .val (.int qr), .val (.int qb), .val (.int (3 : Int32)), .val (.long qw), .second, .val (.ref a304), .unset, .unset, .unset, .unset, .unset, .unset, .unset, .unset, .unset, .unset]) rfl (pc' := 59) rfl ?_
    refine giload B X314 at_59 rfl (pc' := 61) rfl ?_
    refine giconst B X314 at_61 (v := (1 : Int32)) rfl (pc' := 62) rfl ?_
    have c62_318 : ¬ ((3 : Int32) < (1 : Int32)) := (by decide)
    refine gicN B X314 at_62 (flt c62_318).1 (pc' := 65) rfl ?_
    refine gaload B X314 at_65 rfl rfl (pc' := 67) rfl ?_
    refine glload B X314 at_67 rfl (pc' := 69) rfl ?_
    refine gcallV B X314 O317.1 (hw _ (List.mem_of_getElem? (i := 50) rfl)) (hw _ (List.mem_of_getElem? (i := 51) rfl)) (hw _ (List.mem_of_getElem? (i := 53) rfl)) (hw _ (List.mem_of_getElem? (i := 52) rfl)) (hw _ (List.mem_of_getElem? (i := 9) rfl)) (hw _ (List.mem_of_getElem? (i := 54) rfl)) rfl (by decide) (mt9 l Z a0 hw a304 p4 qr.toInt64 (qp / qr.toInt64) (qp % qr.toInt64) (((qb.toInt64 - (1 : Int64)) * (qp / qr.toInt64)) + (((qb.toInt64 - (1 : Int64)) * (qp % qr.toInt64)) / qr.toInt64)) (((qb.toInt64 - (1 : Int64)) * (qp % qr.toInt64)) % qr.toInt64) qw p4 (0 : Int64) h312 O317) pd__J_V rfl (argsL := [(.long p4)]) (st := []) rfl rfl (W := 0) (Nat.le_of_eq rfl) (by decide) (by decide) (by decide) (by decide) (allS (Or.inr z_a304) all0) at_69 (pc' := 72) rfl fun T319 h320 v321 X322 K323 Q324 => ?_
    obtain ⟨rfl, O325⟩ := Q324
    have I328 := own_step (j := 0) hR hR2 hP1 hP2 p4 (own_notfull I0.1) (own_bound hR hP1 hP2 (by decide) (by decide) I0) I0
    generalize (oN qr.toInt64 (qp / qr.toInt64) (qp % qr.toInt64) p4 (0 : Int64) p4) = nn326 at O325 I328
    generalize (oP qr.toInt64 (qp / qr.toInt64) (qp % qr.toInt64) p4 (0 : Int64) p4) = np327 at O325 I328
    show Go p e below s _ _ _ _ _ T319 (mkF m 72 #[.val (.long p0), .second, .val (.int p1), .val (.int p2), .val (.long p3), .second, .val (.long p4), .second, .val (.int p5), .val (.long qp), .second, .val (.int qr), .val (.int qb), .val (.int (3 : Int32)), .val (.long qw), .second, .val (.ref a304), .unset, .unset, .unset, .unset, .unset, .unset, .unset, .unset, .unset, .unset] [])
    refine giload B X322 at_72 rfl (pc' := 74) rfl ?_
    refine giconst B X322 at_74 (v := (2 : Int32)) rfl (pc' := 75) rfl ?_
    have c75_329 : ¬ ((3 : Int32) < (2 : Int32)) := (by decide)
    refine gicN B X322 at_75 (flt c75_329).1 (pc' := 78) rfl ?_
    refine gaload B X322 at_78 rfl rfl (pc' := 80) rfl ?_
    refine glload B X322 at_80 rfl (pc' := 82) rfl ?_
    refine gcallV B X322 O325.1 (hw _ (List.mem_of_getElem? (i := 50) rfl)) (hw _ (List.mem_of_getElem? (i := 51) rfl)) (hw _ (List.mem_of_getElem? (i := 53) rfl)) (hw _ (List.mem_of_getElem? (i := 52) rfl)) (hw _ (List.mem_of_getElem? (i := 9) rfl)) (hw _ (List.mem_of_getElem? (i := 54) rfl)) rfl (by decide) (mt9 l Z a0 hw a304 p4 qr.toInt64 (qp / qr.toInt64) (qp % qr.toInt64) (((qb.toInt64 - (1 : Int64)) * (qp / qr.toInt64)) + (((qb.toInt64 - (1 : Int64)) * (qp % qr.toInt64)) / qr.toInt64)) (((qb.toInt64 - (1 : Int64)) * (qp % qr.toInt64)) % qr.toInt64) qw nn326 np327 h320 O325) pd__J_V rfl (argsL := [(.long p4)]) (st := []) rfl rfl (W := 0) (Nat.le_of_eq rfl) (by decide) (by decide) (by decide) (by decide) (allS (Or.inr z_a304) all0) at_82 (pc' := 85) rfl fun T330 h331 v332 X333 K334 Q335 => ?_
    obtain ⟨rfl, O336⟩ := Q335
    have I339 := own_step (j := 1) hR hR2 hP1 hP2 p4 (own_notfull I328.1) (own_bound hR hP1 hP2 (by decide) (by decide) I328) I328
    generalize (oN qr.toInt64 (qp / qr.toInt64) (qp % qr.toInt64) nn326 np327 p4) = nn337 at O336 I339
    generalize (oP qr.toInt64 (qp / qr.toInt64) (qp % qr.toInt64) nn326 np327 p4) = np338 at O336 I339
    show Go p e below s _ _ _ _ _ T330 (mkF m 85 #[.val (.long p0), .second, .val (.int p1), .val (.int p2), .val (.long p3), .second, .val (.long p4), .second, .val (.int p5), .val (.long qp), .second, .val (.int qr), .val (.int qb), .val (.int (3 : Int32)), .val (.long qw), .second, .val (.ref a304), .unset, .unset, .unset, .unset, .unset, .unset, .unset, .unset, .unset, .unset] [])
    refine giload B X333 at_85 rfl (pc' := 87) rfl ?_
    refine giconst B X333 at_87 (v := (3 : Int32)) rfl (pc' := 88) rfl ?_
    have c88_340 : ¬ ((3 : Int32) < (3 : Int32)) := (by decide)
    refine gicN B X333 at_88 (flt c88_340).1 (pc' := 91) rfl ?_
    refine gaload B X333 at_91 rfl rfl (pc' := 93) rfl ?_
    refine glload B X333 at_93 rfl (pc' := 95) rfl ?_
    refine gcallV B X333 O336.1 (hw _ (List.mem_of_getElem? (i := 50) rfl)) (hw _ (List.mem_of_getElem? (i := 51) rfl)) (hw _ (List.mem_of_getElem? (i := 53) rfl)) (hw _ (List.mem_of_getElem? (i := 52) rfl)) (hw _ (List.mem_of_getElem? (i := 9) rfl)) (hw _ (List.mem_of_getElem? (i := 54) rfl)) rfl (by decide) (mt9 l Z a0 hw a304 p4 qr.toInt64 (qp / qr.toInt64) (qp % qr.toInt64) (((qb.toInt64 - (1 : Int64)) * (qp / qr.toInt64)) + (((qb.toInt64 - (1 : Int64)) * (qp % qr.toInt64)) / qr.toInt64)) (((qb.toInt64 - (1 : Int64)) * (qp % qr.toInt64)) % qr.toInt64) qw nn337 np338 h331 O336) pd__J_V rfl (argsL := [(.long p4)]) (st := []) rfl rfl (W := 0) (Nat.le_of_eq rfl) (by decide) (by decide) (by decide) (by decide) (allS (Or.inr z_a304) all0) at_95 (pc' := 98) rfl fun T341 h342 v343 X344 K345 Q346 => ?_
    obtain ⟨rfl, O347⟩ := Q346
    have I350 := own_step (j := 2) hR hR2 hP1 hP2 p4 (own_notfull I339.1) (own_bound hR hP1 hP2 (by decide) (by decide) I339) I339
    generalize (oN qr.toInt64 (qp / qr.toInt64) (qp % qr.toInt64) nn337 np338 p4) = nn348 at O347 I350
    generalize (oP qr.toInt64 (qp / qr.toInt64) (qp % qr.toInt64) nn337 np338 p4) = np349 at O347 I350
    show Go p e below s _ _ _ _ _ T341 (mkF m 98 #[.val (.long p0), .second, .val (.int p1), .val (.int p2), .val (.long p3), .second, .val (.long p4), .second, .val (.int p5), .val (.long qp), .second, .val (.int qr), .val (.int qb), .val (.int (3 : Int32)), .val (.long qw), .second, .val (.ref a304), .unset, .unset, .unset, .unset, .unset, .unset, .unset, .unset, .unset, .unset] [])
    refine glload B X344 at_98 rfl (pc' := 100) rfl ?_
    refine giload B X344 at_100 rfl (pc' := 102) rfl ?_
    refine gi2l B X344 at_102 rfl (pc' := 103) rfl ?_
    refine gladd B X344 at_103 rfl (pc' := 104) rfl ?_
    refine glstore B X344 at_104 (Ls' := #[.val (.long p0), .second, .val (.int p1), .val (.int p2), .val (.long p3), .second, .val (.long p4), .second, .val (.int p5), .val (.long qp), .second, .val (.int qr), .val (.int qb), .val (.int (3 : Int32)), .val (.long qw), .second, .val (.ref a304), .val (.long (p4 + p5.toInt64)), .second, .unset, .unset, .unset, .unset, .unset, .unset, .unset, .unset]) rfl (pc' := 106) rfl ?_
    refine gaload B X344 at_106 rfl rfl (pc' := 108) rfl ?_
    refine glload B X344 at_108 rfl (pc' := 110) rfl ?_
    refine gcallV B X344 O347.1 (hw _ (List.mem_of_getElem? (i := 39) rfl)) (hw _ (List.mem_of_getElem? (i := 40) rfl)) (hw _ (List.mem_of_getElem? (i := 42) rfl)) (hw _ (List.mem_of_getElem? (i := 41) rfl)) (hw _ (List.mem_of_getElem? (i := 9) rfl)) (hw _ (List.mem_of_getElem? (i := 43) rfl)) rfl (by decide) (mtut l Z a0 hw a304 (p4 + p5.toInt64) qr.toInt64 (qp / qr.toInt64) (qp % qr.toInt64) (((qb.toInt64 - (1 : Int64)) * (qp / qr.toInt64)) + (((qb.toInt64 - (1 : Int64)) * (qp % qr.toInt64)) / qr.toInt64)) (((qb.toInt64 - (1 : Int64)) * (qp % qr.toInt64)) % qr.toInt64) qw nn348 np349 h342 O347) pd__J_J rfl (argsL := [(.long (p4 + p5.toInt64))]) (st := []) rfl rfl (W := 0) (Nat.le_of_eq rfl) (by decide) (by decide) (by decide) (by decide) (fun x q => nomatch q) at_110 (pc' := 113) rfl (pureG rfl rfl fun T351 X352 => ?_)
    refine glstore B X352 at_113 (Ls' := #[.val (.long p0), .second, .val (.int p1), .val (.int p2), .val (.long p3), .second, .val (.long p4), .second, .val (.int p5), .val (.long qp), .second, .val (.int qr), .val (.int qb), .val (.int (3 : Int32)), .val (.long qw), .second, .val (.ref a304), .val (.long (p4 + p5.toInt64)), .second, .val (.long (fut qr.toInt64 (((qb.toInt64 - (1 : Int64)) * (qp / qr.toInt64)) + (((qb.toInt64 - (1 : Int64)) * (qp % qr.toInt64)) / qr.toInt64)) (((qb.toInt64 - (1 : Int64)) * (qp % qr.toInt64)) % qr.toInt64) qw nn348 np349 (p4 + p5.toInt64))), .second, .unset, .unset, .unset, .unset, .unset, .unset]) rfl (pc' := 115) rfl ?_
    refine giload B X352 at_115 rfl (pc' := 117) rfl ?_
    refine gi2l B X352 at_117 rfl (pc' := 118) rfl ?_
    refine giload B X352 at_118 rfl (pc' := 120) rfl ?_
    refine gi2l B X352 at_120 rfl (pc' := 121) rfl ?_
    refine glconst B X352 at_121 (v := (1 : Int64)) rfl (pc' := 122) rfl ?_
    refine glsub B X352 at_122 rfl (pc' := 123) rfl ?_
    refine glsub B X352 at_123 rfl (pc' := 124) rfl ?_
    refine glload B X352 at_124 rfl (pc' := 126) rfl ?_
    refine glmul B X352 at_126 rfl (pc' := 127) rfl ?_
    refine giload B X352 at_127 rfl (pc' := 129) rfl ?_
    refine gi2l B X352 at_129 rfl (pc' := 130) rfl ?_
    refine giload B X352 at_130 rfl (pc' := 132) rfl ?_
    refine gi2l B X352 at_132 rfl (pc' := 133) rfl ?_
    refine glmul B X352 at_133 rfl (pc' := 134) rfl ?_
    refine glsub B X352 at_134 rfl (pc' := 135) rfl ?_
    refine glstore B X352 at_135 (Ls' := #[.val (.long p0), .second, .val (.int p1), .val (.int p2), .val (.long p3), .second, .val (.long p4), .second, .val (.int p5), .val (.long qp), .second, .val (.int qr), .val (.int qb), .val (.int (3 : Int32)), .val (.long qw), .second, .val (.ref a304), .val (.long (p4 + p5.toInt64)), .second, .val (.long (fut qr.toInt64 (((qb.toInt64 - (1 : Int64)) * (qp / qr.toInt64)) + (((qb.toInt64 - (1 : Int64)) * (qp % qr.toInt64)) / qr.toInt64)) (((qb.toInt64 - (1 : Int64)) * (qp % qr.toInt64)) % qr.toInt64) qw nn348 np349 (p4 + p5.toInt64))), .second, .val (.long ((((3 : Int32).toInt64 - (qb.toInt64 - (1 : Int64))) * qp) - (p5.toInt64 * qr.toInt64))), .second, .unset, .unset, .unset, .unset]) rfl (pc' := 137) rfl ?_
    refine joinG B X352 (F := fun z => (mkF m 160 #[.val (.long p0), .second, .val (.int p1), .val (.int p2), .val (.long p3), .second, .val (.long p4), .second, .val (.int p5), .val (.long qp), .second, .val (.int qr), .val (.int qb), .val (.int (3 : Int32)), .val (.long qw), .second, .val (.ref a304), .val (.long (p4 + p5.toInt64)), .second, .val (.long (fut qr.toInt64 (((qb.toInt64 - (1 : Int64)) * (qp / qr.toInt64)) + (((qb.toInt64 - (1 : Int64)) * (qp % qr.toInt64)) / qr.toInt64)) (((qb.toInt64 - (1 : Int64)) * (qp % qr.toInt64)) % qr.toInt64) qw nn348 np349 (p4 + p5.toInt64))), .second, .val (.long ((((3 : Int32).toInt64 - (qb.toInt64 - (1 : Int64))) * qp) - (p5.toInt64 * qr.toInt64))), .second, .unset, .unset, .unset, .unset] [(.long z)])) (r := (oW ((((3 : Int32).toInt64 - (qb.toInt64 - (1 : Int64))) * qp) - (p5.toInt64 * qr.toInt64)) qr.toInt64)) (fun J => ?_) ?_
    · refine glload B X352 at_137 rfl (pc' := 139) rfl ?_
      refine glconst B X352 at_139 (v := (0 : Int64)) rfl (pc' := 140) rfl ?_
      refine glcmp B X352 at_140 (pc' := 141) rfl ?_
      by_cases c141_353 : (0 : Int64) < ((((3 : Int32).toInt64 - (qb.toInt64 - (1 : Int64))) * qp) - (p5.toInt64 * qr.toInt64))
      · refine gifY B X352 (pc' := 148) at_141 ((if0 _ _).trans (tlt (((lw_gt ((((3 : Int32).toInt64 - (qb.toInt64 - (1 : Int64))) * qp) - (p5.toInt64 * qr.toInt64)) (0 : Int64))).mpr c141_353)).2.2.1) (by decide) ?_
        refine glload B X352 at_148 rfl (pc' := 150) rfl ?_
        refine giload B X352 at_150 rfl (pc' := 152) rfl ?_
        refine gi2l B X352 at_152 rfl (pc' := 153) rfl ?_
        refine gladd B X352 at_153 rfl (pc' := 154) rfl ?_
        refine glconst B X352 at_154 (v := (1 : Int64)) rfl (pc' := 155) rfl ?_
        refine glsub B X352 at_155 rfl (pc' := 156) rfl ?_
        refine giload B X352 at_156 rfl (pc' := 158) rfl ?_
        refine gi2l B X352 at_158 rfl (pc' := 159) rfl ?_
        refine gldiv B X352 at_159 (own_nz hr1) rfl (pc' := 160) rfl ?_
        have e_J : (oW ((((3 : Int32).toInt64 - (qb.toInt64 - (1 : Int64))) * qp) - (p5.toInt64 * qr.toInt64)) qr.toInt64) = (((((((3 : Int32).toInt64 - (qb.toInt64 - (1 : Int64))) * qp) - (p5.toInt64 * qr.toInt64)) + qr.toInt64) - (1 : Int64)) / qr.toInt64) := by rw [oW, if_pos c141_353]
        rw [e_J] at J
        exact J _ X352
      · refine gifN B X352 at_141 ((if0 _ _).trans (flt (mt ((lw_gt ((((3 : Int32).toInt64 - (qb.toInt64 - (1 : Int64))) * qp) - (p5.toInt64 * qr.toInt64)) (0 : Int64))).mp c141_353)).2.2.1) (pc' := 144) rfl ?_
        refine glconst B X352 at_144 (v := (0 : Int64)) rfl (pc' := 145) rfl ?_
        refine ggoto B X352 (pc' := 160) at_145 (by decide) ?_
        have e_J : (oW ((((3 : Int32).toInt64 - (qb.toInt64 - (1 : Int64))) * qp) - (p5.toInt64 * qr.toInt64)) qr.toInt64) = (0 : Int64) := by rw [oW, if_neg c141_353]
        rw [e_J] at J
        exact J _ X352
    intro T354 X355
    show Go p e below s _ _ _ _ _ T354 (mkF m 160 #[.val (.long p0), .second, .val (.int p1), .val (.int p2), .val (.long p3), .second, .val (.long p4), .second, .val (.int p5), .val (.long qp), .second, .val (.int qr), .val (.int qb), .val (.int (3 : Int32)), .val (.long qw), .second, .val (.ref a304), .val (.long (p4 + p5.toInt64)), .second, .val (.long (fut qr.toInt64 (((qb.toInt64 - (1 : Int64)) * (qp / qr.toInt64)) + (((qb.toInt64 - (1 : Int64)) * (qp % qr.toInt64)) / qr.toInt64)) (((qb.toInt64 - (1 : Int64)) * (qp % qr.toInt64)) % qr.toInt64) qw nn348 np349 (p4 + p5.toInt64))), .second, .val (.long ((((3 : Int32).toInt64 - (qb.toInt64 - (1 : Int64))) * qp) - (p5.toInt64 * qr.toInt64))), .second, .unset, .unset, .unset, .unset] [(.long (oW ((((3 : Int32).toInt64 - (qb.toInt64 - (1 : Int64))) * qp) - (p5.toInt64 * qr.toInt64)) qr.toInt64))])
    refine glstore B X355 at_160 (Ls' := #[.val (.long p0), .second, .val (.int p1), .val (.int p2), .val (.long p3), .second, .val (.long p4), .second, .val (.int p5), .val (.long qp), .second, .val (.int qr), .val (.int qb), .val (.int (3 : Int32)), .val (.long qw), .second, .val (.ref a304), .val (.long (p4 + p5.toInt64)), .second, .val (.long (fut qr.toInt64 (((qb.toInt64 - (1 : Int64)) * (qp / qr.toInt64)) + (((qb.toInt64 - (1 : Int64)) * (qp % qr.toInt64)) / qr.toInt64)) (((qb.toInt64 - (1 : Int64)) * (qp % qr.toInt64)) % qr.toInt64) qw nn348 np349 (p4 + p5.toInt64))), .second, .val (.long ((((3 : Int32).toInt64 - (qb.toInt64 - (1 : Int64))) * qp) - (p5.toInt64 * qr.toInt64))), .second, .val (.long (oW ((((3 : Int32).toInt64 - (qb.toInt64 - (1 : Int64))) * qp) - (p5.toInt64 * qr.toInt64)) qr.toInt64)), .second, .unset, .unset]) rfl (pc' := 162) rfl ?_
    refine joinG B X355 (F := fun z => (mkF m 178 #[.val (.long p0), .second, .val (.int p1), .val (.int p2), .val (.long p3), .second, .val (.long p4), .second, .val (.int p5), .val (.long qp), .second, .val (.int qr), .val (.int qb), .val (.int (3 : Int32)), .val (.long qw), .second, .val (.ref a304), .val (.long (p4 + p5.toInt64)), .second, .val (.long (fut qr.toInt64 (((qb.toInt64 - (1 : Int64)) * (qp / qr.toInt64)) + (((qb.toInt64 - (1 : Int64)) * (qp % qr.toInt64)) / qr.toInt64)) (((qb.toInt64 - (1 : Int64)) * (qp % qr.toInt64)) % qr.toInt64) qw nn348 np349 (p4 + p5.toInt64))), .second, .val (.long ((((3 : Int32).toInt64 - (qb.toInt64 - (1 : Int64))) * qp) - (p5.toInt64 * qr.toInt64))), .second, .val (.long (oW ((((3 : Int32).toInt64 - (qb.toInt64 - (1 : Int64))) * qp) - (p5.toInt64 * qr.toInt64)) qr.toInt64)), .second, .unset, .unset] [(.long z)])) (r := (oX qw (oW ((((3 : Int32).toInt64 - (qb.toInt64 - (1 : Int64))) * qp) - (p5.toInt64 * qr.toInt64)) qr.toInt64))) (fun J => ?_) ?_
    · refine glload B X355 at_162 rfl (pc' := 164) rfl ?_
      refine glload B X355 at_164 rfl (pc' := 166) rfl ?_
      refine glcmp B X355 at_166 (pc' := 167) rfl ?_
      by_cases c167_356 : qw < (oW ((((3 : Int32).toInt64 - (qb.toInt64 - (1 : Int64))) * qp) - (p5.toInt64 * qr.toInt64)) qr.toInt64)
      · refine gifN B X355 at_167 ((if0 _ _).trans (tlt (((lw_gt (oW ((((3 : Int32).toInt64 - (qb.toInt64 - (1 : Int64))) * qp) - (p5.toInt64 * qr.toInt64)) qr.toInt64) qw)).mpr c167_356)).2.2.2) (pc' := 170) rfl ?_
        refine gldc2 B X355 (v := (-1 : Int64)) (hw _ (List.mem_of_getElem? (i := 61) rfl)) at_170 (pc' := 173) rfl ?_
        refine ggoto B X355 (pc' := 178) at_173 (by decide) ?_
        have e_J : (oX qw (oW ((((3 : Int32).toInt64 - (qb.toInt64 - (1 : Int64))) * qp) - (p5.toInt64 * qr.toInt64)) qr.toInt64)) = (-1 : Int64) := by rw [oX, if_pos c167_356]
        rw [e_J] at J
        exact J _ X355
      · refine gifY B X355 (pc' := 176) at_167 ((if0 _ _).trans (flt (mt ((lw_gt (oW ((((3 : Int32).toInt64 - (qb.toInt64 - (1 : Int64))) * qp) - (p5.toInt64 * qr.toInt64)) qr.toInt64) qw)).mp c167_356)).2.2.2) (by decide) ?_
        refine glload B X355 at_176 rfl (pc' := 178) rfl ?_
        have e_J : (oX qw (oW ((((3 : Int32).toInt64 - (qb.toInt64 - (1 : Int64))) * qp) - (p5.toInt64 * qr.toInt64)) qr.toInt64)) = (oW ((((3 : Int32).toInt64 - (qb.toInt64 - (1 : Int64))) * qp) - (p5.toInt64 * qr.toInt64)) qr.toInt64) := by rw [oX, if_neg c167_356]
        rw [e_J] at J
        exact J _ X355
    intro T357 X358
    show Go p e below s _ _ _ _ _ T357 (mkF m 178 #[.val (.long p0), .second, .val (.int p1), .val (.int p2), .val (.long p3), .second, .val (.long p4), .second, .val (.int p5), .val (.long qp), .second, .val (.int qr), .val (.int qb), .val (.int (3 : Int32)), .val (.long qw), .second, .val (.ref a304), .val (.long (p4 + p5.toInt64)), .second, .val (.long (fut qr.toInt64 (((qb.toInt64 - (1 : Int64)) * (qp / qr.toInt64)) + (((qb.toInt64 - (1 : Int64)) * (qp % qr.toInt64)) / qr.toInt64)) (((qb.toInt64 - (1 : Int64)) * (qp % qr.toInt64)) % qr.toInt64) qw nn348 np349 (p4 + p5.toInt64))), .second, .val (.long ((((3 : Int32).toInt64 - (qb.toInt64 - (1 : Int64))) * qp) - (p5.toInt64 * qr.toInt64))), .second, .val (.long (oW ((((3 : Int32).toInt64 - (qb.toInt64 - (1 : Int64))) * qp) - (p5.toInt64 * qr.toInt64)) qr.toInt64)), .second, .unset, .unset] [(.long (oX qw (oW ((((3 : Int32).toInt64 - (qb.toInt64 - (1 : Int64))) * qp) - (p5.toInt64 * qr.toInt64)) qr.toInt64)))])
    refine glstore B X358 at_178 (Ls' := #[.val (.long p0), .second, .val (.int p1), .val (.int p2), .val (.long p3), .second, .val (.long p4), .second, .val (.int p5), .val (.long qp), .second, .val (.int qr), .val (.int qb), .val (.int (3 : Int32)), .val (.long qw), .second, .val (.ref a304), .val (.long (p4 + p5.toInt64)), .second, .val (.long (fut qr.toInt64 (((qb.toInt64 - (1 : Int64)) * (qp / qr.toInt64)) + (((qb.toInt64 - (1 : Int64)) * (qp % qr.toInt64)) / qr.toInt64)) (((qb.toInt64 - (1 : Int64)) * (qp % qr.toInt64)) % qr.toInt64) qw nn348 np349 (p4 + p5.toInt64))), .second, .val (.long ((((3 : Int32).toInt64 - (qb.toInt64 - (1 : Int64))) * qp) - (p5.toInt64 * qr.toInt64))), .second, .val (.long (oW ((((3 : Int32).toInt64 - (qb.toInt64 - (1 : Int64))) * qp) - (p5.toInt64 * qr.toInt64)) qr.toInt64)), .second, .val (.long (oX qw (oW ((((3 : Int32).toInt64 - (qb.toInt64 - (1 : Int64))) * qp) - (p5.toInt64 * qr.toInt64)) qr.toInt64))), .second]) rfl (pc' := 180) rfl ?_
    refine glload B X358 at_180 rfl (pc' := 182) rfl ?_
    refine glload B X358 at_182 rfl (pc' := 184) rfl ?_
    refine glcmp B X358 at_184 (pc' := 185) rfl ?_
    have c185_359 : (fut qr.toInt64 (((qb.toInt64 - (1 : Int64)) * (qp / qr.toInt64)) + (((qb.toInt64 - (1 : Int64)) * (qp % qr.toInt64)) / qr.toInt64)) (((qb.toInt64 - (1 : Int64)) * (qp % qr.toInt64)) % qr.toInt64) qw nn348 np349 (p4 + p5.toInt64)) = (oX qw (oW ((((3 : Int32).toInt64 - (qb.toInt64 - (1 : Int64))) * qp) - (p5.toInt64 * qr.toInt64)) qr.toInt64)) := own_fin (k := (3 : Int32)) hr1 hp.1 hp.2 hb.1 hb.2 (by decide) I350
    refine gifN B X358 at_185 ((if0 _ _).trans (teq (((lw_eq (fut qr.toInt64 (((qb.toInt64 - (1 : Int64)) * (qp / qr.toInt64)) + (((qb.toInt64 - (1 : Int64)) * (qp % qr.toInt64)) / qr.toInt64)) (((qb.toInt64 - (1 : Int64)) * (qp % qr.toInt64)) % qr.toInt64) qw nn348 np349 (p4 + p5.toInt64)) (oX qw (oW ((((3 : Int32).toInt64 - (qb.toInt64 - (1 : Int64))) * qp) - (p5.toInt64 * qr.toInt64)) qr.toInt64)))).mpr c185_359)).2) (pc' := 188) rfl ?_
    refine giconst B X358 at_188 (v := (1 : Int32)) rfl (pc' := 189) rfl ?_
    refine ggoto B X358 (pc' := 193) at_189 (by decide) ?_
    exact gretN B X358 (z' := (1 : Int32)) (by simp) (rfl) at_193 (by decide) (by decide) (rfl)
set_option maxRecDepth 65536 in
set_option maxHeartbeats 4000000 in
theorem comes_1 {Post : Tables → Env → Array Value → State → Outcome → State → Prop} (hpost : ∀ tb e args s v u, (limb_1_1.after args s (.returned v) u = true ∧ limb_1_2.after args s (.returned v) u = true ∧ True) → FrameEnd s (.returned v) u (Jvm.fieldLocs frame_1_writes args s ++ Jvm.arrayLocs frame_1_arrays args s ++ Jvm.staticLocs frame_1_statics s) 16 128 → Post tb e args s (.returned v) u) :
    ArmFor flags0 classFile x code maxLocals ret World_1 tables_1 room_1 Calls_1 rest_1 Pre_1 Post := by
  intro l hfl _ _ p e ha hc hk s m args below hf hA hF happ hP
  obtain ⟨hcalls, hrest, hpre⟩ := hP
  obtain ⟨-, -, -, hnamed, -, -, -, hat⟩ := (Spec.applies_iff hf).mp happ
  obtain ⟨hg, hn⟩ := and_e (Cond.before_iff.mp (show (Jvm.Cond.and given_1 narrow_1).before args s = true from hpre))
  obtain ⟨g2, g3⟩ := and_e hg
  obtain ⟨g4, g5⟩ := and_e g3
  obtain ⟨g6, g7⟩ := and_e g5
  obtain ⟨g8, g9⟩ := and_e g7
  obtain ⟨g10, g11⟩ := and_e g9
  obtain ⟨g12, g13⟩ := and_e g11
  obtain ⟨w0, w1, w2, w3, w4, w5, rfl⟩ : ∃ w0 w1 w2 w3 w4 w5 : Value, args = #[w0, w1, w2, w3, w4, w5] := by
    have hs : args.size = 6 := by simpa [Cond.value, given_1] using g2
    obtain ⟨L⟩ := args
    match L, hs with
    | [w0, w1, w2, w3, w4, w5], _ => exact ⟨w0, w1, w2, w3, w4, w5, rfl⟩
  have hw := fun d (hd : d ∈ tables_1) => atoms_spec (ws := Jvm.Cond.code x code maxLocals ret :: tables_1) hat d (List.mem_cons_of_mem _ hd)
  obtain ⟨i0, ei0⟩ := isL_v g4
  obtain rfl : w0 = (.long i0) := Option.some.inj ei0
  obtain ⟨i1, ei1⟩ := is_v g6
  obtain rfl : w1 = (.int i1) := Option.some.inj ei1
  obtain ⟨i2, ei2⟩ := is_v g8
  obtain rfl : w2 = (.int i2) := Option.some.inj ei2
  obtain ⟨i3, ei3⟩ := isL_v g10
  obtain rfl : w3 = (.long i3) := Option.some.inj ei3
  obtain ⟨i4, ei4⟩ := isL_v g12
  obtain rfl : w4 = (.long i4) := Option.some.inj ei4
  obtain ⟨i5, ei5⟩ := is_v g13
  obtain rfl : w5 = (.int i5) := Option.some.inj ei5
  obtain ⟨n, o, h1, h2, h3, _, L, rfl, ⟨rfl, N, N2⟩, hq⟩ := mt0 l s _ hw i0 i1 i2 i3 i4 i5 s.heap tables_1 p e ha hc hk s m _ below hf ((Spec.applies_iff_loose hf).mp happ).1 ⟨rfl, State.Warmed39.refl s, rfl⟩ trivial
  refine ⟨n, _, h1, h2, h3, hpost _ _ _ _ _ _ ⟨Cond.after_iff.mpr rfl, Cond.after_iff.mpr (eq_i res_at (Term.int_eval (1)) rfl), trivial⟩ ⟨hq.1, hq.2.1, (hq.2.2.sift fun y hy => Or.inr ((N2 y hy).elim (fun z => nomatch z) id)).mono (by decide) (by decide)⟩⟩
theorem main_1_1 : Claimed_1_1 := comes_1 fun _ _ _ _ _ _ h hF => ⟨h.1, hF⟩
theorem main_1_2 : Claimed_1_2 := comes_1 fun _ _ _ _ _ _ h hF => ⟨h.2.1, hF⟩
end Jvm.Pilot.@@N@@
namespace Jvm.Pilot.@@N@@
open Jvm Jvm.ClassFile Sem Op Lib Jvm.Free Jvm.Stand Jvm.Pilot.@@N@@.Jvm.D
/-! MADE BY PROGRAM (witnessworld.py) out of the Statement's table words and the real class files: 10 classes; the members and pool entries that the words name. The judged class is class 1, her method 1. -/
namespace start1
open Jvm.ClassFile
def u (s : String) : CpInfo := .utf8 (stringToUtf16 s)
/-- a pool by its gaps: so many unusable entries, then the entry; so many at the end -/
def gap : Nat → List CpInfo → List CpInfo
  | 0, r => r
  | n + 1, r => .unusable :: gap n r
def poolList (es : List (Nat × CpInfo)) (last : Nat) : List CpInfo := es.foldr (fun e r => gap e.1 (e.2 :: r)) (gap last [])
def pool (es : List (Nat × CpInfo)) (last : Nat) : Array CpInfo := ⟨poolList es last⟩
def fileOf (pool : Array CpInfo) (this : Nat) (attrs : Array Attribute := #[]) (ms : Array MethodInfo := #[]) (fl : Nat := 33) (sup : Nat := 0) (ifs : Array Nat := #[]) (fds : Array FieldInfo := #[]) : ClassFile where
  minorVersion := 0
  majorVersion := 65
  constantPool := pool
  accessFlags := fl
  thisClass := this
  superClass := sup
  interfaces := ifs
  fields := fds
  methods := ms
  attributes := attrs
def plain (name : String) (sup : Option ClassId) : Class where
  name := name
  kind := .ordinary
  loader := none
  accessFlags := 33
  super := sup
  interfaces := #[]
  cf := none
  fields := #[]
  methods := #[]
  instanceTypes := #[]
  staticTypes := #[]
  resolved := #[]
  callSites := []
  init := .initialized
  statics := none
  mirror := none

def pool0 : Array CpInfo := pool [(5, u "<init>"), (0, u "()V"), (1, .class_ 10), (1, u "java/lang/Object")] 113

def k0c0 : Code := { maxStack := 0, maxLocals := 1, code := object_method_1_code, exceptionTable := #[], attributes := #[] }
def k0m0 : Method := { name := "<init>", desc := "()V", sig := { parameters := [], returnType := none }, accessFlags := 1, code := some k0c0 }
/-- java/lang/Object -/
def k0 : Class := { plain "java/lang/Object" none with
  accessFlags := 33
  interfaces := #[]
  cf := some (fileOf pool0 8 #[] #[{ accessFlags := 1, nameIndex := 5, descriptorIndex := 6, attributes := #[] }] 33 0 #[] #[])
  fields := #[]
  methods := #[k0m0]
  instanceTypes := #[]
  staticTypes := #[]
  resolved := Array.replicate 124 none
  statics := none }

def pool1 : Array CpInfo := pool [(2, .class_ 4), (1, u "java/lang/Object"), (0, u "<init>"), (0, u "()V"), (0, .long 72057594037927935), (1, .integer 2147483647), (0, .methodref 11 12), (0, .class_ 13), (0, .nameAndType 14 15), (0, u "java/lang/Math"), (0, u "max"), (0, u "(II)I"), (2, .long 9223372036854775807), (1, .class_ 21), (0, u "com/example/api_policy_gateway/apipolicygateway/policy/Pace"), (0, .methodref 20 23), (0, .nameAndType 5 24), (0, u "(JIIJJ)V"), (0, .methodref 20 26), (0, .nameAndType 27 28), (0, u "take"), (0, u "(J)V"), (0, .methodref 20 30), (0, .nameAndType 31 32), (0, u "untilTurn"), (0, u "(J)J"), (0, .long 18446744073709551615), (1, .class_ 36), (0, u "com/example/api_policy_gateway/apipolicygateway/policy/PaceUntilTurnPinLaw"), (2, u "law"), (0, u "(JIIJJI)Z")] 3

def k1m0 : Method := { name := "<init>", desc := "()V", sig := { parameters := [], returnType := none }, accessFlags := 1, code := none }
def k1c1 : Code := { maxStack := 10, maxLocals := 27, code := code, exceptionTable := #[], attributes := #[] }
def k1m1 : Method := { name := "law", desc := "(JIIJJI)Z", sig := { parameters := [.long, .int, .int, .long, .long, .int], returnType := some .boolean }, accessFlags := 9, code := some k1c1 }
/-- com/example/api_policy_gateway/apipolicygateway/policy/PaceUntilTurnPinLaw -/
def k1 : Class := { plain "com/example/api_policy_gateway/apipolicygateway/policy/PaceUntilTurnPinLaw" (some 0) with
  accessFlags := 49
  interfaces := #[]
  cf := some (fileOf pool1 35 #[] #[{ accessFlags := 1, nameIndex := 5, descriptorIndex := 6, attributes := #[] }, { accessFlags := 9, nameIndex := 39, descriptorIndex := 40, attributes := #[] }] 49 2 #[] #[])
  fields := #[]
  methods := #[k1m0, k1m1]
  instanceTypes := #[]
  staticTypes := #[]
  resolved := Array.replicate 44 none
  statics := none }

def pool2 : Array CpInfo := pool [(1, .class_ 2), (0, u "java/lang/Math"), (1, .class_ 6), (1, u "java/lang/Object"), (0, u "<init>"), (0, u "()V"), (89, .class_ 100), (1, u "java/lang/Math$RandomNumberGeneratorHolder"), (19, u "multiplyExact"), (0, u "(JJ)J"), (0, .methodref 1 123), (0, .nameAndType 124 125), (0, u "abs"), (0, u "(J)J"), (2, .long 9223372036854775808), (43, u "negativeZeroFloatBits"), (0, u "J"), (2, u "negativeZeroDoubleBits"), (21, u "max"), (46, u "$assertionsDisabled"), (0, u "Z"), (88, u "(II)I"), (2, u "twoToTheDoubleScaleDown"), (0, u "D"), (4, u "twoToTheDoubleScaleUp"), (9, u "E"), (3, u "PI"), (2, u "TAU"), (2, u "DEGREES_TO_RADIANS"), (0, u "RADIANS_TO_DEGREES"), (27, u "addExact")] 66

def k2m0 : Method := { name := "<init>", desc := "()V", sig := { parameters := [], returnType := none }, accessFlags := 2, code := none }
def k2c1 : Code := { maxStack := 6, maxLocals := 6, code := jdk_29_method_25_code, exceptionTable := #[], attributes := #[] }
def k2m1 : Method := { name := "addExact", desc := "(JJ)J", sig := { parameters := [.long, .long], returnType := some .long }, accessFlags := 9, code := some k2c1 }
def k2c2 : Code := { maxStack := 4, maxLocals := 10, code := jdk_29_method_30_code, exceptionTable := #[], attributes := #[] }
def k2m2 : Method := { name := "multiplyExact", desc := "(JJ)J", sig := { parameters := [.long, .long], returnType := some .long }, accessFlags := 9, code := some k2c2 }
def k2c3 : Code := { maxStack := 4, maxLocals := 2, code := jdk_29_method_61_code, exceptionTable := #[], attributes := #[] }
def k2m3 : Method := { name := "abs", desc := "(J)J", sig := { parameters := [.long], returnType := some .long }, accessFlags := 9, code := some k2c3 }
def k2c4 : Code := { maxStack := 2, maxLocals := 2, code := jdk_29_method_65_code, exceptionTable := #[], attributes := #[] }
def k2m4 : Method := { name := "max", desc := "(II)I", sig := { parameters := [.int, .int], returnType := some .int }, accessFlags := 9, code := some k2c4 }
def k2c5 : Code := { maxStack := 4, maxLocals := 4, code := jdk_29_method_66_code, exceptionTable := #[], attributes := #[] }
def k2m5 : Method := { name := "max", desc := "(JJ)J", sig := { parameters := [.long, .long], returnType := some .long }, accessFlags := 9, code := some k2c5 }
/-- java/lang/Math -/
def k2 : Class := { plain "java/lang/Math" (some 0) with
  accessFlags := 49
  interfaces := #[]
  cf := some (fileOf pool2 1 #[.nestMembers #[98]] #[{ accessFlags := 2, nameIndex := 7, descriptorIndex := 8, attributes := #[] }, { accessFlags := 9, nameIndex := 393, descriptorIndex := 121, attributes := #[] }, { accessFlags := 9, nameIndex := 120, descriptorIndex := 121, attributes := #[] }, { accessFlags := 9, nameIndex := 124, descriptorIndex := 125, attributes := #[] }, { accessFlags := 9, nameIndex := 198, descriptorIndex := 335, attributes := #[] }, { accessFlags := 9, nameIndex := 198, descriptorIndex := 121, attributes := #[] }] 49 4 #[] #[{ accessFlags := 25, nameIndex := 354, descriptorIndex := 339, attributes := #[] }, { accessFlags := 25, nameIndex := 358, descriptorIndex := 339, attributes := #[] }, { accessFlags := 25, nameIndex := 361, descriptorIndex := 339, attributes := #[] }, { accessFlags := 26, nameIndex := 364, descriptorIndex := 339, attributes := #[] }, { accessFlags := 26, nameIndex := 365, descriptorIndex := 339, attributes := #[] }, { accessFlags := 26, nameIndex := 172, descriptorIndex := 173, attributes := #[] }, { accessFlags := 26, nameIndex := 176, descriptorIndex := 173, attributes := #[] }, { accessFlags := 8, nameIndex := 344, descriptorIndex := 339, attributes := #[] }, { accessFlags := 8, nameIndex := 338, descriptorIndex := 339, attributes := #[] }, { accessFlags := 4120, nameIndex := 245, descriptorIndex := 246, attributes := #[] }])
  fields := #[{ name := "E", type := .double, accessFlags := 25, slot := 0, constantValue := 0 }, { name := "PI", type := .double, accessFlags := 25, slot := 1, constantValue := 0 }, { name := "TAU", type := .double, accessFlags := 25, slot := 2, constantValue := 0 }, { name := "DEGREES_TO_RADIANS", type := .double, accessFlags := 26, slot := 3, constantValue := 0 }, { name := "RADIANS_TO_DEGREES", type := .double, accessFlags := 26, slot := 4, constantValue := 0 }, { name := "negativeZeroFloatBits", type := .long, accessFlags := 26, slot := 5, constantValue := 0 }, { name := "negativeZeroDoubleBits", type := .long, accessFlags := 26, slot := 6, constantValue := 0 }, { name := "twoToTheDoubleScaleUp", type := .double, accessFlags := 8, slot := 7, constantValue := 0 }, { name := "twoToTheDoubleScaleDown", type := .double, accessFlags := 8, slot := 8, constantValue := 0 }, { name := "$assertionsDisabled", type := .boolean, accessFlags := 4120, slot := 9, constantValue := 0 }]
  methods := #[k2m0, k2m1, k2m2, k2m3, k2m4, k2m5]
  instanceTypes := #[]
  staticTypes := #[.double, .double, .double, .double, .double, .long, .long, .double, .double, .boolean]
  resolved := Array.replicate 460 none
  statics := none }

def pool3 : Array CpInfo := pool [(1, .methodref 2 3), (0, .class_ 4), (0, .nameAndType 5 6), (0, u "java/lang/Object"), (0, u "<init>"), (0, u "()V"), (0, .fieldref 8 9), (0, .class_ 10), (0, .nameAndType 11 12), (0, u "com/example/api_policy_gateway/apipolicygateway/policy/Pace"), (0, u "rate"), (0, u "J"), (0, .fieldref 8 14), (0, .nameAndType 15 12), (0, u "intervalNanos"), (0, .fieldref 8 17), (0, .nameAndType 18 12), (0, u "intervalPart"), (0, .methodref 20 21), (0, .class_ 22), (0, .nameAndType 23 24), (0, u "java/lang/Math"), (0, u "multiplyExact"), (0, u "(JJ)J"), (0, .methodref 20 26), (0, .nameAndType 27 24), (0, u "addExact"), (0, .fieldref 8 29), (0, .nameAndType 30 12), (0, u "toleranceNanos"), (0, .fieldref 8 32), (0, .nameAndType 33 12), (0, u "tolerancePart"), (0, .fieldref 8 35), (0, .nameAndType 36 12), (0, u "maxWaitNanos"), (0, .fieldref 8 38), (0, .nameAndType 39 12), (0, u "nextNanos"), (0, .fieldref 8 41), (0, .nameAndType 42 12), (0, u "nextPart"), (0, .methodref 20 44), (0, .nameAndType 45 24), (0, u "max"), (0, .long 18446744073709551615), (1, .methodref 8 49), (0, .nameAndType 50 51), (0, u "isFull"), (0, u "(J)Z"), (0, u "(JIIJJ)V"), (2, u "untilTurn"), (0, u "(J)J"), (1, u "take"), (0, u "(J)V")] 2

def k3c0 : Code := { maxStack := 7, maxLocals := 11, code := prog_16_method_1_code, exceptionTable := #[], attributes := #[] }
def k3m0 : Method := { name := "<init>", desc := "(JIIJJ)V", sig := { parameters := [.long, .int, .int, .long, .long], returnType := none }, accessFlags := 0, code := some k3c0 }
def k3c1 : Code := { maxStack := 8, maxLocals := 9, code := prog_16_method_2_code, exceptionTable := #[], attributes := #[] }
def k3m1 : Method := { name := "untilTurn", desc := "(J)J", sig := { parameters := [.long], returnType := some .long }, accessFlags := 0, code := some k3c1 }
def k3c2 : Code := { maxStack := 5, maxLocals := 3, code := prog_16_method_3_code, exceptionTable := #[], attributes := #[] }
def k3m2 : Method := { name := "take", desc := "(J)V", sig := { parameters := [.long], returnType := none }, accessFlags := 0, code := some k3c2 }
def k3c3 : Code := { maxStack := 4, maxLocals := 3, code := prog_16_method_4_code, exceptionTable := #[], attributes := #[] }
def k3m3 : Method := { name := "isFull", desc := "(J)Z", sig := { parameters := [.long], returnType := some .boolean }, accessFlags := 0, code := some k3c3 }
/-- com/example/api_policy_gateway/apipolicygateway/policy/Pace -/
def k3 : Class := { plain "com/example/api_policy_gateway/apipolicygateway/policy/Pace" (some 0) with
  accessFlags := 48
  interfaces := #[]
  cf := some (fileOf pool3 8 #[] #[{ accessFlags := 0, nameIndex := 5, descriptorIndex := 52, attributes := #[] }, { accessFlags := 0, nameIndex := 55, descriptorIndex := 56, attributes := #[] }, { accessFlags := 0, nameIndex := 58, descriptorIndex := 59, attributes := #[] }, { accessFlags := 0, nameIndex := 50, descriptorIndex := 51, attributes := #[] }] 48 2 #[] #[{ accessFlags := 18, nameIndex := 11, descriptorIndex := 12, attributes := #[] }, { accessFlags := 18, nameIndex := 15, descriptorIndex := 12, attributes := #[] }, { accessFlags := 18, nameIndex := 18, descriptorIndex := 12, attributes := #[] }, { accessFlags := 18, nameIndex := 30, descriptorIndex := 12, attributes := #[] }, { accessFlags := 18, nameIndex := 33, descriptorIndex := 12, attributes := #[] }, { accessFlags := 18, nameIndex := 36, descriptorIndex := 12, attributes := #[] }, { accessFlags := 2, nameIndex := 39, descriptorIndex := 12, attributes := #[] }, { accessFlags := 2, nameIndex := 42, descriptorIndex := 12, attributes := #[] }])
  fields := #[{ name := "rate", type := .long, accessFlags := 18, slot := 0, constantValue := 0 }, { name := "intervalNanos", type := .long, accessFlags := 18, slot := 1, constantValue := 0 }, { name := "intervalPart", type := .long, accessFlags := 18, slot := 2, constantValue := 0 }, { name := "toleranceNanos", type := .long, accessFlags := 18, slot := 3, constantValue := 0 }, { name := "tolerancePart", type := .long, accessFlags := 18, slot := 4, constantValue := 0 }, { name := "maxWaitNanos", type := .long, accessFlags := 18, slot := 5, constantValue := 0 }, { name := "nextNanos", type := .long, accessFlags := 2, slot := 6, constantValue := 0 }, { name := "nextPart", type := .long, accessFlags := 2, slot := 7, constantValue := 0 }]
  methods := #[k3m0, k3m1, k3m2, k3m3]
  instanceTypes := #[.long, .long, .long, .long, .long, .long, .long, .long]
  staticTypes := #[]
  resolved := Array.replicate 62 none
  statics := none }

def pool4 : Array CpInfo := pool [(1, u "java/lang/Cloneable"), (0, .class_ 1), (0, u "java/lang/Object"), (0, .class_ 3)] 3

/-- java/lang/Cloneable -/
def k4 : Class := { plain "java/lang/Cloneable" (some 0) with
  accessFlags := 1537
  interfaces := #[]
  cf := some (fileOf pool4 2 #[] #[] 1537 4 #[] #[])
  fields := #[]
  methods := #[]
  instanceTypes := #[]
  staticTypes := #[]
  resolved := Array.replicate 8 none
  statics := none }

def pool5 : Array CpInfo := pool [(1, u "java/io/Serializable"), (0, .class_ 1), (0, u "java/lang/Object"), (0, .class_ 3)] 3

/-- java/io/Serializable -/
def k5 : Class := { plain "java/io/Serializable" (some 0) with
  accessFlags := 1537
  interfaces := #[]
  cf := some (fileOf pool5 2 #[] #[] 1537 4 #[] #[])
  fields := #[]
  methods := #[]
  instanceTypes := #[]
  staticTypes := #[]
  resolved := Array.replicate 8 none
  statics := none }

/-- the primitive byte -/
def k6 : Class := { plain "byte" none with kind := .primitive 'B', accessFlags := 0x411 }
/-- [B -/
def k7 : Class := { plain "[B" (some 0) with kind := .array 6 .byte, interfaces := #[4, 5], accessFlags := 1041 }

/-- the primitive int -/
def k8 : Class := { plain "int" none with kind := .primitive 'I', accessFlags := 0x411 }
/-- [I -/
def k9 : Class := { plain "[I" (some 0) with kind := .array 8 .int, interfaces := #[4, 5], accessFlags := 1041 }

def heap : Heap := #[]
def classes : Array Class := #[k0, k1, k2, k3, k4, k5, k6, k7, k8, k9]
def interned : List (Array UInt16 × Addr) := []
def slotsUsed : Nat := 0
def theMethod : MethodId := ⟨1, 1⟩
def args0 : Array Value := #[.long 100, .int 3, .int 37, .long 7, .long 5, .int 6]
def aboutOver (below : List Frame) : State where
  vm := { classes := classes, interned := interned.toArray }
  heap := heap
  slotsUsed := slotsUsed
  threads := #[{ frames := .invoking theMethod args0 :: below }]
def below0 : List Frame := [.native { method := ⟨0, 0⟩, args := #[] }]
def about1 : State := aboutOver below0
def p0 : Program := .bare "" "" ""
def e0 : Env := launch0.env 0 0 0
theorem w_frames : about1.frames = Frame.invoking theMethod args0 :: below0 := rfl
set_option maxRecDepth 65536 in
theorem w_args : argsFit about1.vm theMethod args0 = true := by decide +kernel
set_option maxRecDepth 65536 in
theorem w_heap : heapFits about1 = true := by decide +kernel
set_option maxRecDepth 65536 in
theorem w_runnable : about1.curStatus? = some .runnable := by decide +kernel
set_option maxRecDepth 65536 in
theorem w_alone : about1.alone = true := by decide +kernel
set_option maxRecDepth 65536 in
theorem w_named : about1.methodNamed? x = some theMethod := by decide +kernel
set_option maxRecDepth 65536 in
theorem w_hears : about1.hears theMethod below0 = true := by decide +kernel
set_option maxRecDepth 65536 in
theorem w_ripe : about1.ripe theMethod args0 below0 = true := by decide +kernel
theorem w_running : about1.status = .running := rfl
set_option maxRecDepth 65536 in
theorem w_room : about1.hasRoom e0.platform room_1 = true :=
  launch0.hasRoom_least _ room_1 (by decide +kernel) (by decide +kernel) (by decide +kernel) (by decide +kernel) (by decide +kernel) (by decide +kernel)
theorem allAtoms_all (ts : List Jvm.Cond) (a : Array Jvm.Value) (st : Jvm.State) : (allAtoms ts).before a st = ts.all (fun c => c.before a st) := by
  induction ts with
  | nil => rfl
  | cons c t ih =>
    show (Jvm.Cond.and c (allAtoms t)).before a st = _
    rw [Jvm.Cond.before_and, ih, List.all_cons]
def words1 : List Jvm.Cond := Jvm.Cond.code x code maxLocals ret :: tables_1
/-- a 'code' word, met by the world's own term for the bytes: nothing is compared byte by byte -/
theorem code_word {y : MethodName} {bytes : ByteArray} {mx : Nat} {rt : Option FieldType} {a : Array Value} {s : State} {m : MethodId} {meth : Method} {c : Code} (h1 : s.methodNamed? y = some m) (h2 : s.vm.method? m = some meth) (h3 : meth.code = some c) (h4 : c.code = bytes)
    (h5 : (c.maxLocals == mx && c.exceptionTable.isEmpty && decide (c.maxStack ≤ mostOperands) && decide (meth.sig.returnType = rt) && !meth.locks && decide (parseMethodDescriptor y.desc = some meth.sig)) = true) : (Jvm.Cond.code y bytes mx rt).before a s = true := by
  simp only [Bool.and_eq_true, beq_iff_eq, Bool.not_eq_true', decide_eq_true_eq] at h5
  obtain ⟨⟨⟨⟨⟨g1, g2⟩, g3⟩, g4⟩, g5⟩, g6⟩ := h5
  simp [Cond.before, Cond.holds, Cond.value, h1, h2, h3, h4, g1, g2, g3, g4, g5, g6]
def isCode : Jvm.Cond → Bool
  | .code _ _ _ _ => true
  | _ => false
theorem all_split {L : List Jvm.Cond} {P : Jvm.Cond → Bool} (h1 : L.all (fun c => isCode c || P c) = true) (h2 : ∀ c ∈ L.filter isCode, P c = true) : L.all P = true := by
  refine List.all_eq_true.mpr fun c hc => ?_
  have h := List.all_eq_true.mp h1 c hc
  rcases Bool.eq_false_or_eq_true (isCode c) with hi | hi
  · exact h2 c (List.mem_filter.mpr ⟨hc, hi⟩)
  · simpa [hi] using h
set_option maxRecDepth 65536 in
theorem w_c0 : (Jvm.Cond.code x code maxLocals ret).before args0 about1 = true := code_word (m := ⟨1, 1⟩) (meth := k1m1) (c := k1c1) (by decide +kernel) rfl rfl rfl (by decide +kernel)
set_option maxRecDepth 65536 in
theorem w_c1 : (Jvm.Cond.code ({ cls := "java/lang/Math", name := "max", desc := "(II)I" } : Jvm.MethodName) jdk_29_method_65_code (2 : Nat) (Option.some Jvm.ClassFile.FieldType.int)).before args0 about1 = true := code_word (m := ⟨2, 4⟩) (meth := k2m4) (c := k2c4) (by decide +kernel) rfl rfl rfl (by decide +kernel)
set_option maxRecDepth 65536 in
theorem w_c2 : (Jvm.Cond.code ({ cls := "com/example/api_policy_gateway/apipolicygateway/policy/Pace", name := "<init>", desc := "(JIIJJ)V" } : Jvm.MethodName) prog_16_method_1_code (11 : Nat) (Option.none : Option Jvm.ClassFile.FieldType)).before args0 about1 = true := code_word (m := ⟨3, 0⟩) (meth := k3m0) (c := k3c0) (by decide +kernel) rfl rfl rfl (by decide +kernel)
set_option maxRecDepth 65536 in
theorem w_c3 : (Jvm.Cond.code ({ cls := "java/lang/Object", name := "<init>", desc := "()V" } : Jvm.MethodName) object_method_1_code (1 : Nat) (Option.none : Option Jvm.ClassFile.FieldType)).before args0 about1 = true := code_word (m := ⟨0, 0⟩) (meth := k0m0) (c := k0c0) (by decide +kernel) rfl rfl rfl (by decide +kernel)
set_option maxRecDepth 65536 in
theorem w_c4 : (Jvm.Cond.code ({ cls := "java/lang/Math", name := "multiplyExact", desc := "(JJ)J" } : Jvm.MethodName) jdk_29_method_30_code (10 : Nat) (Option.some Jvm.ClassFile.FieldType.long)).before args0 about1 = true := code_word (m := ⟨2, 2⟩) (meth := k2m2) (c := k2c2) (by decide +kernel) rfl rfl rfl (by decide +kernel)
set_option maxRecDepth 65536 in
theorem w_c5 : (Jvm.Cond.code ({ cls := "java/lang/Math", name := "abs", desc := "(J)J" } : Jvm.MethodName) jdk_29_method_61_code (2 : Nat) (Option.some Jvm.ClassFile.FieldType.long)).before args0 about1 = true := code_word (m := ⟨2, 3⟩) (meth := k2m3) (c := k2c3) (by decide +kernel) rfl rfl rfl (by decide +kernel)
set_option maxRecDepth 65536 in
theorem w_c6 : (Jvm.Cond.code ({ cls := "java/lang/Math", name := "addExact", desc := "(JJ)J" } : Jvm.MethodName) jdk_29_method_25_code (6 : Nat) (Option.some Jvm.ClassFile.FieldType.long)).before args0 about1 = true := code_word (m := ⟨2, 1⟩) (meth := k2m1) (c := k2c1) (by decide +kernel) rfl rfl rfl (by decide +kernel)
set_option maxRecDepth 65536 in
theorem w_c7 : (Jvm.Cond.code ({ cls := "com/example/api_policy_gateway/apipolicygateway/policy/Pace", name := "untilTurn", desc := "(J)J" } : Jvm.MethodName) prog_16_method_2_code (9 : Nat) (Option.some Jvm.ClassFile.FieldType.long)).before args0 about1 = true := code_word (m := ⟨3, 1⟩) (meth := k3m1) (c := k3c1) (by decide +kernel) rfl rfl rfl (by decide +kernel)
set_option maxRecDepth 65536 in
theorem w_c8 : (Jvm.Cond.code ({ cls := "java/lang/Math", name := "max", desc := "(JJ)J" } : Jvm.MethodName) jdk_29_method_66_code (4 : Nat) (Option.some Jvm.ClassFile.FieldType.long)).before args0 about1 = true := code_word (m := ⟨2, 5⟩) (meth := k2m5) (c := k2c5) (by decide +kernel) rfl rfl rfl (by decide +kernel)
set_option maxRecDepth 65536 in
theorem w_c9 : (Jvm.Cond.code ({ cls := "com/example/api_policy_gateway/apipolicygateway/policy/Pace", name := "take", desc := "(J)V" } : Jvm.MethodName) prog_16_method_3_code (3 : Nat) (Option.none : Option Jvm.ClassFile.FieldType)).before args0 about1 = true := code_word (m := ⟨3, 2⟩) (meth := k3m2) (c := k3c2) (by decide +kernel) rfl rfl rfl (by decide +kernel)
set_option maxRecDepth 65536 in
theorem w_c10 : (Jvm.Cond.code ({ cls := "com/example/api_policy_gateway/apipolicygateway/policy/Pace", name := "isFull", desc := "(J)Z" } : Jvm.MethodName) prog_16_method_4_code (3 : Nat) (Option.some Jvm.ClassFile.FieldType.boolean)).before args0 about1 = true := code_word (m := ⟨3, 3⟩) (meth := k3m3) (c := k3c3) (by decide +kernel) rfl rfl rfl (by decide +kernel)
def codes1 : List Jvm.Cond := [Jvm.Cond.code x code maxLocals ret, Jvm.Cond.code ({ cls := "java/lang/Math", name := "max", desc := "(II)I" } : Jvm.MethodName) jdk_29_method_65_code (2 : Nat) (Option.some Jvm.ClassFile.FieldType.int), Jvm.Cond.code ({ cls := "com/example/api_policy_gateway/apipolicygateway/policy/Pace", name := "<init>", desc := "(JIIJJ)V" } : Jvm.MethodName) prog_16_method_1_code (11 : Nat) (Option.none : Option Jvm.ClassFile.FieldType), Jvm.Cond.code ({ cls := "java/lang/Object", name := "<init>", desc := "()V" } : Jvm.MethodName) object_method_1_code (1 : Nat) (Option.none : Option Jvm.ClassFile.FieldType), Jvm.Cond.code ({ cls := "java/lang/Math", name := "multiplyExact", desc := "(JJ)J" } : Jvm.MethodName) jdk_29_method_30_code (10 : Nat) (Option.some Jvm.ClassFile.FieldType.long), Jvm.Cond.code ({ cls := "java/lang/Math", name := "abs", desc := "(J)J" } : Jvm.MethodName) jdk_29_method_61_code (2 : Nat) (Option.some Jvm.ClassFile.FieldType.long), Jvm.Cond.code ({ cls := "java/lang/Math", name := "addExact", desc := "(JJ)J" } : Jvm.MethodName) jdk_29_method_25_code (6 : Nat) (Option.some Jvm.ClassFile.FieldType.long), Jvm.Cond.code ({ cls := "com/example/api_policy_gateway/apipolicygateway/policy/Pace", name := "untilTurn", desc := "(J)J" } : Jvm.MethodName) prog_16_method_2_code (9 : Nat) (Option.some Jvm.ClassFile.FieldType.long), Jvm.Cond.code ({ cls := "java/lang/Math", name := "max", desc := "(JJ)J" } : Jvm.MethodName) jdk_29_method_66_code (4 : Nat) (Option.some Jvm.ClassFile.FieldType.long), Jvm.Cond.code ({ cls := "com/example/api_policy_gateway/apipolicygateway/policy/Pace", name := "take", desc := "(J)V" } : Jvm.MethodName) prog_16_method_3_code (3 : Nat) (Option.none : Option Jvm.ClassFile.FieldType), Jvm.Cond.code ({ cls := "com/example/api_policy_gateway/apipolicygateway/policy/Pace", name := "isFull", desc := "(J)Z" } : Jvm.MethodName) prog_16_method_4_code (3 : Nat) (Option.some Jvm.ClassFile.FieldType.boolean)]
set_option maxRecDepth 65536 in
theorem codes_eq : words1.filter isCode = codes1 := rfl
theorem w_codes : ∀ c ∈ words1.filter isCode, c.before args0 about1 = true := by
  rw [codes_eq]
  intro c hc
  simp only [codes1, List.mem_cons, List.not_mem_nil, or_false] at hc
  rcases hc with rfl | rfl | rfl | rfl | rfl | rfl | rfl | rfl | rfl | rfl | rfl
  · exact w_c0
  · exact w_c1
  · exact w_c2
  · exact w_c3
  · exact w_c4
  · exact w_c5
  · exact w_c6
  · exact w_c7
  · exact w_c8
  · exact w_c9
  · exact w_c10
set_option maxRecDepth 65536 in
theorem w_t1 : (words1.take 24).all (fun c => isCode c || c.before args0 about1) = true := by decide +kernel
set_option maxRecDepth 65536 in
theorem w_t2 : ((words1.drop 24).take 24).all (fun c => isCode c || c.before args0 about1) = true := by decide +kernel
set_option maxRecDepth 65536 in
theorem w_t3 : ((words1.drop 24).drop 24).all (fun c => isCode c || c.before args0 about1) = true := by decide +kernel
theorem w_tables : (allAtoms (Jvm.Cond.code x code maxLocals ret :: tables_1)).before args0 about1 = true := by
  rw [allAtoms_all]
  show words1.all (fun c => c.before args0 about1) = true
  refine all_split ?_ w_codes
  rw [← List.take_append_drop 24 words1, List.all_append, w_t1, ← List.take_append_drop 24 (words1.drop 24), List.all_append, w_t2, w_t3]
  rfl
set_option maxRecDepth 65536 in
theorem w_case : (Jvm.Cond.and given_1 narrow_1).before args0 about1 = true := by decide +kernel
theorem w_applies : (headSpec (Jvm.Cond.code x code maxLocals ret :: tables_1) room_1).applies x e0.platform about1 = true :=
  (Spec.applies_iff w_frames).mpr ⟨w_running, w_runnable, w_alone, w_named, w_hears, w_ripe, w_room, w_tables⟩
theorem atStart : AtStart classFile x code maxLocals ret World_1 tables_1 room_1 Calls_1 rest_1 Pre_1 launch0 p0 e0 about1 theMethod args0 below0 :=
  ⟨lists_1, trivial, launch0.admits_env _ _ _, launch0.least_env, fairChoices_fair.cas, fairChoices_fair.clock, w_frames, w_args, w_heap, w_applies, trivial, trivial, w_case⟩
end start1
theorem witness_1 : WitnessClaimed_1 := ⟨start1.p0, start1.e0, start1.about1, start1.theMethod, start1.args0, start1.below0, start1.atStart⟩
end Jvm.Pilot.@@N@@
