import JvmDerived
import JvmDerived.Pilot.@@N@@Statement
import JvmDerived.Pilot.@@N@@Code
set_option linter.unusedVariables false
set_option linter.unusedSimpArgs false
namespace Jvm.OwnKit
open Sem ClassFile Op Lib Jvm.Stand Jvm.Free Jvm.LawKit Jvm.RoadKit
/-- every written place is one of ws or new -/
def FrW (h0 : Heap) (ws : List Addr) (L : List Loc) : Prop := ∀ y ∈ L, y.base ∈ ws ∨ h0.size ≤ y.base
/-- what stays fixed while a body runs -/
def Fix (p : Program) (Z s : State) (m : MethodId) (meth : Method) (c : Code) (bytes : ByteArray) (maxL : Nat) (own nm : String) (ret : Option FieldType) : Prop :=
  p.tables.exec = Jvm.exec ∧ Z.Warmed39 s.vm ∧ c.code = bytes ∧ c.maxLocals = maxL ∧ s.vm.findClass own = some m.cls ∧ meth.name = nm ∧ meth.sig.returnType = ret ∧ meth.locks = false
/-- where the run stands: its heap h, what was kept since h0 -/
def St (p : Program) (l : Launch) (e : Env) (R : Room) (s : State) (m : MethodId) (args : Array Value) (below : List Frame) (meth : Method) (c : Code) (h0 : Heap) (ws : List Addr) (T : State) (h : Heap) (cells slots : Nat) : Prop :=
  ∃ locs, Stand p l e R s m args below meth c T locs cells slots ∧ T.heap = h ∧ Keep h0 h ws ∧ FrW h0 ws locs
/-- from T with the top frame f the body comes to its end, and Q holds there -/
def Go (p : Program) (e : Env) (below : List Frame) (s : State) (K N : Nat) (h0 : Heap) (ws : List Addr) (Q : Option Value → Heap → Prop) (T : State) (f : JFrame) : Prop :=
  ∃ t o, Steps p.tables e below (T.setTop f) t ∧ t.status = .running ∧ Ended t below o ∧ ∃ v L, o = .returned v ∧ (Q v t.heap ∧ Keep h0 t.heap ws ∧ FrW h0 ws L) ∧ FrameEnd s o t L K N
/-- a method's contract: called with as' at the heap h0 it returns, writes ws and new cells alone, and Q holds -/
def Meth (l : Launch) (Z : State) (y : MethodName) (bytes : ByteArray) (maxL : Nat) (ret : Option FieldType) (rm : Room) (as' : Array Value) (h0 : Heap) (ws : List Addr) (Q : Option Value → Heap → Prop) : Prop :=
  ∀ wl, MetFree l y (head1 (Cond.code y bytes maxL ret :: wl) rm) (fun a U => a = as' ∧ Z.Warmed39 U.vm ∧ U.heap = h0) (fun _ _ _ _ _ => True) (fun _ U o U' => ∃ v L, o = .returned v ∧ (Q v U'.heap ∧ Keep h0 U'.heap ws ∧ FrW h0 ws L) ∧ FrameEnd U o U' L rm.cells rm.slots)
/-- an array of the kind ty that holds vs -/
def VA (Z : State) (h : Heap) (a : Addr) (ty : FieldType) (vs : List Value) : Prop := ∃ c : Cell, Arr Z h a c ty ∧ c.slots = vs.toArray ∧ vs.length < 2 ^ 31
section Arrays
variable {Z : State} {h h' : Heap} {a b : Addr} {ty : FieldType} {vs : List Value} {sl : Nat} {v : Value} {ws : List Addr}
theorem VA.lt (F : VA Z h a ty vs) : a < h.size := by obtain ⟨c, A, -⟩ := F; exact A.lt
theorem VA.ext (F : VA Z h a ty vs) (E : Ext h h') : VA Z h' a ty vs := by obtain ⟨c, A, r⟩ := F; exact ⟨c, A.ext E, r⟩
theorem VA.other (F : VA Z h b ty vs) (W : Wr h h' a sl v) (q : b ≠ a) : VA Z h' b ty vs := by obtain ⟨c, A, r⟩ := F; exact ⟨c, A.other W q, r⟩
theorem VA.keep (F : VA Z h a ty vs) (K : Keep h h' ws) (q : a ∉ ws) : VA Z h' a ty vs := by obtain ⟨c, A, r⟩ := F; exact ⟨c, ⟨K.2.1 a c A.1 q, A.2⟩, r⟩
theorem VA.set (F : VA Z h a ty vs) (W : Wr h h' a sl v) : VA Z h' a ty (vs.set sl v) := by
  obtain ⟨c, A, r, n⟩ := F
  refine ⟨_, A.same W, ?_, by simpa using n⟩
  show c.slots.setIfInBounds sl v = _
  rw [r]; simp
theorem VA.new {k : ClassId} {n : Int32} (A : Arr Z h a (newA k ty n) ty) (q : ¬ n < 0) : VA Z h a ty (List.replicate n.toNatClampNeg (defaultValue ty)) :=
  ⟨_, A, by simp [newA], by rw [List.length_replicate]; exact (back32 q).2⟩
theorem VA.len31 (F : VA Z h a ty vs) : vs.length < 2 ^ 31 := by obtain ⟨c, A, r, n⟩ := F; exact n
theorem inb {n : Nat} {j : Int32} (hj : 0 ≤ j.toInt ∧ j.toInt < n) : ¬ (j < 0 ∨ n ≤ j.toNatClampNeg) := by
  simp only [Int32.lt_iff_toInt_lt, Int32.toNatClampNeg, Int32.reduceToInt]; omega
theorem own_at {xs : List Int32} {j : Nat} (hj : j < xs.length) : (xs.map Value.int)[j]? = some (.int (xs.getD j 0)) := by
  simp [List.getElem?_eq_getElem hj]
theorem own_atL {xs : List Int64} {j : Nat} (hj : j < xs.length) : (xs.map Value.long)[j]? = some (.long (xs.getD j 0)) := by
  simp [List.getElem?_eq_getElem hj]
end Arrays
section Go
variable {p : Program} {l : Launch} {e : Env} {R : Room} {s : State} {m : MethodId} {args : Array Value} {below : List Frame} {meth : Method} {c : Code} {Z : State} {bytes : ByteArray} {maxL : Nat} {own nm : String} {ret : Option FieldType} {h0 : Heap} {ws : List Addr} {T T' : State} {locs : List Loc} {h : Heap} {cells slots K N : Nat} {Q : Option Value → Heap → Prop} {pc pc' : Nat} {Ls Ls' : Array Slot} {st : List Value} {a0 : Array Value}
theorem Go.to {f f' : JFrame} (k : ∀ t, Steps p.tables e below (T'.setTop f') t → Steps p.tables e below (T.setTop f) t) (g : Go p e below s K N h0 ws Q T' f') : Go p e below s K N h0 ws Q T f := by
  obtain ⟨t, o, a, r⟩ := g; exact ⟨t, o, k t a, r⟩
theorem Go.mono {Q' : Option Value → Heap → Prop} {f : JFrame} (g : Go p e below s K N h0 ws Q T f) (hq : ∀ v h, Q v h → Q' v h) : Go p e below s K N h0 ws Q' T f := by
  obtain ⟨t, o, a, b, d, v, L, e1, ⟨q, r⟩, z⟩ := g; exact ⟨t, o, a, b, d, v, L, e1, ⟨hq _ _ q, r⟩, z⟩
theorem Go.entry {f f' : JFrame} (q : f = f') (g : Go p e below s K N h0 ws Q T f') : Go p e below s K N h0 ws Q T f := q ▸ g
theorem St.more (X : St p l e R s m args below meth c h0 ws T h cells slots) {cells' slots' : Nat} (h1 : cells ≤ cells') (h2 : slots ≤ slots') : St p l e R s m args below meth c h0 ws T h cells' slots' := by
  obtain ⟨L, X, r⟩ := X; exact ⟨L, X.more h1 h2, r⟩
theorem St.kept (X : St p l e R s m args below meth c h0 ws T h cells slots) : Keep h0 h ws := by obtain ⟨L, X, e1, k, f⟩ := X; exact k
theorem St.here (X : St p l e R s m args below meth c h0 ws T h cells slots) : At T m c below := by obtain ⟨L, X, r⟩ := X; exact X.here
theorem Meth.mono {y : MethodName} {rm : Room} {as' : Array Value} {Q' : Option Value → Heap → Prop} (M : Meth l Z y bytes maxL ret rm as' h0 ws Q) (hq : ∀ v h, Q v h → Q' v h) : Meth l Z y bytes maxL ret rm as' h0 ws Q' := by
  intro wl p e ha hc hk s m args below hf happ hP hK
  obtain ⟨n, o, a, b, d, v, L, e1, ⟨q, r⟩, z⟩ := M wl p e ha hc hk s m args below hf happ hP hK
  exact ⟨n, o, a, b, d, v, L, e1, ⟨hq _ _ q, r⟩, z⟩
theorem Meth.of {y : MethodName} {rm : Room} {as' : Array Value} (hpl : plainFor y = true)
    (body : ∀ (p : Program) (e : Env) (s : State) (m : MethodId) (below : List Frame) (meth : Method) (c : Code) (T : State), Fix p Z s m meth c bytes maxL y.cls y.name ret → St p l e rm s m as' below meth c h0 ws T h0 0 0 → Go p e below s rm.cells rm.slots h0 ws Q T (entryFrame m as' maxL)) :
    Meth l Z y bytes maxL ret rm as' h0 ws Q := by
  intro wl
  refine MetFree.of_bodySF hpl hisR ?_
  intro p e s m args below meth c s₁ Bd hml0 hP hK
  obtain ⟨rfl, hZ, hh⟩ := hP
  have X0 : Stand p l e rm s m _ below meth c s₁ [] 0 0 := Stand.of_body Bd
  have e0 : s₁.heap = h0 := by rw [← hh, Bd.state]; rfl
  exact body p e s m below meth c s₁ ⟨Bd.exec, hZ, Bd.bytes, hml0, findClass_of_methodNamed Bd.named, (name_of_methodNamed Bd.named Bd.method).1, Bd.returns, Bd.notSynchronized⟩ ⟨[], X0, e0, Keep.refl _ _, fun y hy => nomatch hy⟩

theorem giload (B : Fix p Z s m meth c bytes maxL own nm ret) (X : St p l e R s m args below meth c h0 ws T h cells slots) {k : Nat} {v : Int32} (hd : decode bytes pc = .ok (.iload k, 2)) (hl : Ls[k]? = some (.val (.int v))) (hp : pc' = pc + 2) (g : Go p e below s K N h0 ws Q T (mkF m pc' Ls (.int v :: st))) : Go p e below s K N h0 ws Q T (mkF m pc Ls st) := by
  subst hp; obtain ⟨L, X, -⟩ := X; exact Go.to (fun t k => XS.iload X.here B.1 rfl (hb B.2.2.1 hd) hl k) g
theorem giloadN (B : Fix p Z s m meth c bytes maxL own nm ret) (X : St p l e R s m args below meth c h0 ws T h cells slots) {k : Fin 4} {v : Int32} (hd : decode bytes pc = .ok (.iload_n k, 1)) (hl : Ls[k.val]? = some (.val (.int v))) (hp : pc' = pc + 1) (g : Go p e below s K N h0 ws Q T (mkF m pc' Ls (.int v :: st))) : Go p e below s K N h0 ws Q T (mkF m pc Ls st) := by
  subst hp; obtain ⟨L, X, -⟩ := X; exact Go.to (fun t k => XS.iloadN X.here B.1 rfl (hb B.2.2.1 hd) hl k) g
theorem gistore (B : Fix p Z s m meth c bytes maxL own nm ret) (X : St p l e R s m args below meth c h0 ws T h cells slots) {k : Nat} {v : Int32} (hd : decode bytes pc = .ok (.istore k, 2)) (hl : storeLocals Ls k (.int v) = some Ls') (hp : pc' = pc + 2) (g : Go p e below s K N h0 ws Q T (mkF m pc' Ls' st)) : Go p e below s K N h0 ws Q T (mkF m pc Ls (.int v :: st)) := by
  subst hp; obtain ⟨L, X, -⟩ := X; exact Go.to (fun t k => XS.istore X.here B.1 rfl (hb B.2.2.1 hd) rfl hl k) g
theorem gistoreN (B : Fix p Z s m meth c bytes maxL own nm ret) (X : St p l e R s m args below meth c h0 ws T h cells slots) {k : Fin 4} {v : Int32} (hd : decode bytes pc = .ok (.istore_n k, 1)) (hl : storeLocals Ls k.val (.int v) = some Ls') (hp : pc' = pc + 1) (g : Go p e below s K N h0 ws Q T (mkF m pc' Ls' st)) : Go p e below s K N h0 ws Q T (mkF m pc Ls (.int v :: st)) := by
  subst hp; obtain ⟨L, X, -⟩ := X; exact Go.to (fun t k => XS.istoreN X.here B.1 rfl (hb B.2.2.1 hd) rfl hl k) g
theorem glload (B : Fix p Z s m meth c bytes maxL own nm ret) (X : St p l e R s m args below meth c h0 ws T h cells slots) {k : Nat} {v : Int64} (hd : decode bytes pc = .ok (.lload k, 2)) (hl : Ls[k]? = some (.val (.long v))) (hp : pc' = pc + 2) (g : Go p e below s K N h0 ws Q T (mkF m pc' Ls (.long v :: st))) : Go p e below s K N h0 ws Q T (mkF m pc Ls st) := by
  subst hp; obtain ⟨L, X, -⟩ := X; exact Go.to (fun t k => XS.lload X.here B.1 rfl (hb B.2.2.1 hd) hl k) g
theorem glloadN (B : Fix p Z s m meth c bytes maxL own nm ret) (X : St p l e R s m args below meth c h0 ws T h cells slots) {k : Fin 4} {v : Int64} (hd : decode bytes pc = .ok (.lload_n k, 1)) (hl : Ls[k.val]? = some (.val (.long v))) (hp : pc' = pc + 1) (g : Go p e below s K N h0 ws Q T (mkF m pc' Ls (.long v :: st))) : Go p e below s K N h0 ws Q T (mkF m pc Ls st) := by
  subst hp; obtain ⟨L, X, -⟩ := X; exact Go.to (fun t k => XS.lloadN X.here B.1 rfl (hb B.2.2.1 hd) hl k) g
theorem glstore (B : Fix p Z s m meth c bytes maxL own nm ret) (X : St p l e R s m args below meth c h0 ws T h cells slots) {k : Nat} {v : Int64} (hd : decode bytes pc = .ok (.lstore k, 2)) (hl : storeLocals Ls k (.long v) = some Ls') (hp : pc' = pc + 2) (g : Go p e below s K N h0 ws Q T (mkF m pc' Ls' st)) : Go p e below s K N h0 ws Q T (mkF m pc Ls (.long v :: st)) := by
  subst hp; obtain ⟨L, X, -⟩ := X; exact Go.to (fun t k => XS.lstore X.here B.1 rfl (hb B.2.2.1 hd) rfl hl k) g
theorem glstoreN (B : Fix p Z s m meth c bytes maxL own nm ret) (X : St p l e R s m args below meth c h0 ws T h cells slots) {k : Fin 4} {v : Int64} (hd : decode bytes pc = .ok (.lstore_n k, 1)) (hl : storeLocals Ls k.val (.long v) = some Ls') (hp : pc' = pc + 1) (g : Go p e below s K N h0 ws Q T (mkF m pc' Ls' st)) : Go p e below s K N h0 ws Q T (mkF m pc Ls (.long v :: st)) := by
  subst hp; obtain ⟨L, X, -⟩ := X; exact Go.to (fun t k => XS.lstoreN X.here B.1 rfl (hb B.2.2.1 hd) rfl hl k) g
theorem gaload (B : Fix p Z s m meth c bytes maxL own nm ret) (X : St p l e R s m args below meth c h0 ws T h cells slots) {k : Nat} {v : Value} (hd : decode bytes pc = .ok (.aload k, 2)) (hl : Ls[k]? = some (.val v)) (hv : v.isRef = true) (hp : pc' = pc + 2) (g : Go p e below s K N h0 ws Q T (mkF m pc' Ls (v :: st))) : Go p e below s K N h0 ws Q T (mkF m pc Ls st) := by
  subst hp; obtain ⟨L, X, -⟩ := X; exact Go.to (fun t k => XS.aload X.here B.1 rfl (hb B.2.2.1 hd) hl hv k) g
theorem galoadN (B : Fix p Z s m meth c bytes maxL own nm ret) (X : St p l e R s m args below meth c h0 ws T h cells slots) {k : Fin 4} {v : Value} (hd : decode bytes pc = .ok (.aload_n k, 1)) (hl : Ls[k.val]? = some (.val v)) (hv : v.isRef = true) (hp : pc' = pc + 1) (g : Go p e below s K N h0 ws Q T (mkF m pc' Ls (v :: st))) : Go p e below s K N h0 ws Q T (mkF m pc Ls st) := by
  subst hp; obtain ⟨L, X, -⟩ := X; exact Go.to (fun t k => XS.aloadN X.here B.1 rfl (hb B.2.2.1 hd) hl hv k) g
theorem gastore (B : Fix p Z s m meth c bytes maxL own nm ret) (X : St p l e R s m args below meth c h0 ws T h cells slots) {k : Nat} {v : Value} (hd : decode bytes pc = .ok (.astore k, 2)) (hv : v.isRef = true) (hl : storeLocals Ls k v = some Ls') (hp : pc' = pc + 2) (g : Go p e below s K N h0 ws Q T (mkF m pc' Ls' st)) : Go p e below s K N h0 ws Q T (mkF m pc Ls (v :: st)) := by
  subst hp; obtain ⟨L, X, -⟩ := X; exact Go.to (fun t k => XS.astore X.here B.1 rfl (hb B.2.2.1 hd) rfl hv hl k) g
theorem gastoreN (B : Fix p Z s m meth c bytes maxL own nm ret) (X : St p l e R s m args below meth c h0 ws T h cells slots) {k : Fin 4} {v : Value} (hd : decode bytes pc = .ok (.astore_n k, 1)) (hv : v.isRef = true) (hl : storeLocals Ls k.val v = some Ls') (hp : pc' = pc + 1) (g : Go p e below s K N h0 ws Q T (mkF m pc' Ls' st)) : Go p e below s K N h0 ws Q T (mkF m pc Ls (v :: st)) := by
  subst hp; obtain ⟨L, X, -⟩ := X; exact Go.to (fun t k => XS.astoreN X.here B.1 rfl (hb B.2.2.1 hd) rfl hv hl k) g
theorem giconst (B : Fix p Z s m meth c bytes maxL own nm ret) (X : St p l e R s m args below meth c h0 ws T h cells slots) {i : Int} {v : Int32} (hd : decode bytes pc = .ok (.iconst i, 1)) (hv : Int32.ofInt i = v) (hp : pc' = pc + 1) (g : Go p e below s K N h0 ws Q T (mkF m pc' Ls (.int v :: st))) : Go p e below s K N h0 ws Q T (mkF m pc Ls st) := by
  subst hp; subst hv; obtain ⟨L, X, -⟩ := X; exact Go.to (fun t k => XS.iconst X.here B.1 rfl (hb B.2.2.1 hd) k) g
theorem gbipush (B : Fix p Z s m meth c bytes maxL own nm ret) (X : St p l e R s m args below meth c h0 ws T h cells slots) {i : Int} {v : Int32} (hd : decode bytes pc = .ok (.bipush i, 2)) (hv : (Int8.ofInt i).toInt32 = v) (hp : pc' = pc + 2) (g : Go p e below s K N h0 ws Q T (mkF m pc' Ls (.int v :: st))) : Go p e below s K N h0 ws Q T (mkF m pc Ls st) := by
  subst hp; subst hv; obtain ⟨L, X, -⟩ := X; exact Go.to (fun t k => XS.bipush X.here B.1 rfl (hb B.2.2.1 hd) k) g
theorem gsipush (B : Fix p Z s m meth c bytes maxL own nm ret) (X : St p l e R s m args below meth c h0 ws T h cells slots) {i : Int} {v : Int32} (hd : decode bytes pc = .ok (.sipush i, 3)) (hv : (Int16.ofInt i).toInt32 = v) (hp : pc' = pc + 3) (g : Go p e below s K N h0 ws Q T (mkF m pc' Ls (.int v :: st))) : Go p e below s K N h0 ws Q T (mkF m pc Ls st) := by
  subst hp; subst hv; obtain ⟨L, X, -⟩ := X; exact Go.to (fun t k => XS.sipush X.here B.1 rfl (hb B.2.2.1 hd) k) g
theorem glconst (B : Fix p Z s m meth c bytes maxL own nm ret) (X : St p l e R s m args below meth c h0 ws T h cells slots) {k : Fin 2} {v : Int64} (hd : decode bytes pc = .ok (.lconst k, 1)) (hv : Int64.ofNat k = v) (hp : pc' = pc + 1) (g : Go p e below s K N h0 ws Q T (mkF m pc' Ls (.long v :: st))) : Go p e below s K N h0 ws Q T (mkF m pc Ls st) := by
  subst hp; subst hv; obtain ⟨L, X, -⟩ := X; exact Go.to (fun t k => XS.lconst X.here B.1 rfl (hb B.2.2.1 hd) k) g
theorem gnull (B : Fix p Z s m meth c bytes maxL own nm ret) (X : St p l e R s m args below meth c h0 ws T h cells slots)  (hd : decode bytes pc = .ok (.aconst_null, 1))  (hp : pc' = pc + 1) (g : Go p e below s K N h0 ws Q T (mkF m pc' Ls (.null :: st))) : Go p e below s K N h0 ws Q T (mkF m pc Ls st) := by
  subst hp; obtain ⟨L, X, -⟩ := X; exact Go.to (fun t k => XS.aconstNull X.here B.1 rfl (hb B.2.2.1 hd)  k) g
theorem giadd (B : Fix p Z s m meth c bytes maxL own nm ret) (X : St p l e R s m args below meth c h0 ws T h cells slots) {x y : Int32} {v : Int32} (hd : decode bytes pc = .ok (.iadd, 1))  (hv : x + y = v) (hp : pc' = pc + 1) (g : Go p e below s K N h0 ws Q T (mkF m pc' Ls (.int v :: st))) : Go p e below s K N h0 ws Q T (mkF m pc Ls (.int y :: .int x :: st)) := by
  subst hp; subst hv; obtain ⟨L, X, -⟩ := X; exact Go.to (fun t k => XS.iadd X.here B.1 rfl (hb B.2.2.1 hd) rfl k) g
theorem gladd (B : Fix p Z s m meth c bytes maxL own nm ret) (X : St p l e R s m args below meth c h0 ws T h cells slots) {x y : Int64} {v : Int64} (hd : decode bytes pc = .ok (.ladd, 1))  (hv : x + y = v) (hp : pc' = pc + 1) (g : Go p e below s K N h0 ws Q T (mkF m pc' Ls (.long v :: st))) : Go p e below s K N h0 ws Q T (mkF m pc Ls (.long y :: .long x :: st)) := by
  subst hp; subst hv; obtain ⟨L, X, -⟩ := X; exact Go.to (fun t k => XS.ladd X.here B.1 rfl (hb B.2.2.1 hd) rfl k) g
theorem gisub (B : Fix p Z s m meth c bytes maxL own nm ret) (X : St p l e R s m args below meth c h0 ws T h cells slots) {x y : Int32} {v : Int32} (hd : decode bytes pc = .ok (.isub, 1))  (hv : x - y = v) (hp : pc' = pc + 1) (g : Go p e below s K N h0 ws Q T (mkF m pc' Ls (.int v :: st))) : Go p e below s K N h0 ws Q T (mkF m pc Ls (.int y :: .int x :: st)) := by
  subst hp; subst hv; obtain ⟨L, X, -⟩ := X; exact Go.to (fun t k => XS.isub X.here B.1 rfl (hb B.2.2.1 hd) rfl k) g
theorem glsub (B : Fix p Z s m meth c bytes maxL own nm ret) (X : St p l e R s m args below meth c h0 ws T h cells slots) {x y : Int64} {v : Int64} (hd : decode bytes pc = .ok (.lsub, 1))  (hv : x - y = v) (hp : pc' = pc + 1) (g : Go p e below s K N h0 ws Q T (mkF m pc' Ls (.long v :: st))) : Go p e below s K N h0 ws Q T (mkF m pc Ls (.long y :: .long x :: st)) := by
  subst hp; subst hv; obtain ⟨L, X, -⟩ := X; exact Go.to (fun t k => XS.lsub X.here B.1 rfl (hb B.2.2.1 hd) rfl k) g
theorem gimul (B : Fix p Z s m meth c bytes maxL own nm ret) (X : St p l e R s m args below meth c h0 ws T h cells slots) {x y : Int32} {v : Int32} (hd : decode bytes pc = .ok (.imul, 1))  (hv : x * y = v) (hp : pc' = pc + 1) (g : Go p e below s K N h0 ws Q T (mkF m pc' Ls (.int v :: st))) : Go p e below s K N h0 ws Q T (mkF m pc Ls (.int y :: .int x :: st)) := by
  subst hp; subst hv; obtain ⟨L, X, -⟩ := X; exact Go.to (fun t k => XS.imul X.here B.1 rfl (hb B.2.2.1 hd) rfl k) g
theorem glmul (B : Fix p Z s m meth c bytes maxL own nm ret) (X : St p l e R s m args below meth c h0 ws T h cells slots) {x y : Int64} {v : Int64} (hd : decode bytes pc = .ok (.lmul, 1))  (hv : x * y = v) (hp : pc' = pc + 1) (g : Go p e below s K N h0 ws Q T (mkF m pc' Ls (.long v :: st))) : Go p e below s K N h0 ws Q T (mkF m pc Ls (.long y :: .long x :: st)) := by
  subst hp; subst hv; obtain ⟨L, X, -⟩ := X; exact Go.to (fun t k => XS.lmul X.here B.1 rfl (hb B.2.2.1 hd) rfl k) g
theorem giand (B : Fix p Z s m meth c bytes maxL own nm ret) (X : St p l e R s m args below meth c h0 ws T h cells slots) {x y : Int32} {v : Int32} (hd : decode bytes pc = .ok (.iand, 1))  (hv : x &&& y = v) (hp : pc' = pc + 1) (g : Go p e below s K N h0 ws Q T (mkF m pc' Ls (.int v :: st))) : Go p e below s K N h0 ws Q T (mkF m pc Ls (.int y :: .int x :: st)) := by
  subst hp; subst hv; obtain ⟨L, X, -⟩ := X; exact Go.to (fun t k => XS.iand X.here B.1 rfl (hb B.2.2.1 hd) rfl k) g
theorem gland (B : Fix p Z s m meth c bytes maxL own nm ret) (X : St p l e R s m args below meth c h0 ws T h cells slots) {x y : Int64} {v : Int64} (hd : decode bytes pc = .ok (.land, 1))  (hv : x &&& y = v) (hp : pc' = pc + 1) (g : Go p e below s K N h0 ws Q T (mkF m pc' Ls (.long v :: st))) : Go p e below s K N h0 ws Q T (mkF m pc Ls (.long y :: .long x :: st)) := by
  subst hp; subst hv; obtain ⟨L, X, -⟩ := X; exact Go.to (fun t k => XS.land X.here B.1 rfl (hb B.2.2.1 hd) rfl k) g
theorem gior (B : Fix p Z s m meth c bytes maxL own nm ret) (X : St p l e R s m args below meth c h0 ws T h cells slots) {x y : Int32} {v : Int32} (hd : decode bytes pc = .ok (.ior, 1))  (hv : x ||| y = v) (hp : pc' = pc + 1) (g : Go p e below s K N h0 ws Q T (mkF m pc' Ls (.int v :: st))) : Go p e below s K N h0 ws Q T (mkF m pc Ls (.int y :: .int x :: st)) := by
  subst hp; subst hv; obtain ⟨L, X, -⟩ := X; exact Go.to (fun t k => XS.ior X.here B.1 rfl (hb B.2.2.1 hd) rfl k) g
theorem glor (B : Fix p Z s m meth c bytes maxL own nm ret) (X : St p l e R s m args below meth c h0 ws T h cells slots) {x y : Int64} {v : Int64} (hd : decode bytes pc = .ok (.lor, 1))  (hv : x ||| y = v) (hp : pc' = pc + 1) (g : Go p e below s K N h0 ws Q T (mkF m pc' Ls (.long v :: st))) : Go p e below s K N h0 ws Q T (mkF m pc Ls (.long y :: .long x :: st)) := by
  subst hp; subst hv; obtain ⟨L, X, -⟩ := X; exact Go.to (fun t k => XS.lor X.here B.1 rfl (hb B.2.2.1 hd) rfl k) g
theorem gixor (B : Fix p Z s m meth c bytes maxL own nm ret) (X : St p l e R s m args below meth c h0 ws T h cells slots) {x y : Int32} {v : Int32} (hd : decode bytes pc = .ok (.ixor, 1))  (hv : x ^^^ y = v) (hp : pc' = pc + 1) (g : Go p e below s K N h0 ws Q T (mkF m pc' Ls (.int v :: st))) : Go p e below s K N h0 ws Q T (mkF m pc Ls (.int y :: .int x :: st)) := by
  subst hp; subst hv; obtain ⟨L, X, -⟩ := X; exact Go.to (fun t k => XS.ixor X.here B.1 rfl (hb B.2.2.1 hd) rfl k) g
theorem glxor (B : Fix p Z s m meth c bytes maxL own nm ret) (X : St p l e R s m args below meth c h0 ws T h cells slots) {x y : Int64} {v : Int64} (hd : decode bytes pc = .ok (.lxor, 1))  (hv : x ^^^ y = v) (hp : pc' = pc + 1) (g : Go p e below s K N h0 ws Q T (mkF m pc' Ls (.long v :: st))) : Go p e below s K N h0 ws Q T (mkF m pc Ls (.long y :: .long x :: st)) := by
  subst hp; subst hv; obtain ⟨L, X, -⟩ := X; exact Go.to (fun t k => XS.lxor X.here B.1 rfl (hb B.2.2.1 hd) rfl k) g
theorem gidiv (B : Fix p Z s m meth c bytes maxL own nm ret) (X : St p l e R s m args below meth c h0 ws T h cells slots) {x y : Int32} {v : Int32} (hd : decode bytes pc = .ok (.idiv, 1)) (hy : y ≠ 0) (hv : x / y = v) (hp : pc' = pc + 1) (g : Go p e below s K N h0 ws Q T (mkF m pc' Ls (.int v :: st))) : Go p e below s K N h0 ws Q T (mkF m pc Ls (.int y :: .int x :: st)) := by
  subst hp; subst hv; obtain ⟨L, X, -⟩ := X; exact Go.to (fun t k => XS.idiv X.here B.1 rfl (hb B.2.2.1 hd) rfl hy k) g
theorem gldiv (B : Fix p Z s m meth c bytes maxL own nm ret) (X : St p l e R s m args below meth c h0 ws T h cells slots) {x y : Int64} {v : Int64} (hd : decode bytes pc = .ok (.ldiv, 1)) (hy : y ≠ 0) (hv : x / y = v) (hp : pc' = pc + 1) (g : Go p e below s K N h0 ws Q T (mkF m pc' Ls (.long v :: st))) : Go p e below s K N h0 ws Q T (mkF m pc Ls (.long y :: .long x :: st)) := by
  subst hp; subst hv; obtain ⟨L, X, -⟩ := X; exact Go.to (fun t k => XS.ldiv X.here B.1 rfl (hb B.2.2.1 hd) rfl hy k) g
theorem girem (B : Fix p Z s m meth c bytes maxL own nm ret) (X : St p l e R s m args below meth c h0 ws T h cells slots) {x y v : Int32} (hd : decode bytes pc = .ok (.irem, 1)) (hy : y ≠ 0) (hv : x % y = v) (hp : pc' = pc + 1) (g : Go p e below s K N h0 ws Q T (mkF m pc' Ls (.int v :: st))) : Go p e below s K N h0 ws Q T (mkF m pc Ls (.int y :: .int x :: st)) := by
  subst hp; subst hv; obtain ⟨L, X, -⟩ := X; exact Go.to (fun t k => iremM X B.1 rfl (hb B.2.2.1 hd) rfl hy k) g
theorem glrem (B : Fix p Z s m meth c bytes maxL own nm ret) (X : St p l e R s m args below meth c h0 ws T h cells slots) {x y v : Int64} (hd : decode bytes pc = .ok (.lrem, 1)) (hy : y ≠ 0) (hv : x % y = v) (hp : pc' = pc + 1) (g : Go p e below s K N h0 ws Q T (mkF m pc' Ls (.long v :: st))) : Go p e below s K N h0 ws Q T (mkF m pc Ls (.long y :: .long x :: st)) := by
  subst hp; subst hv; obtain ⟨L, X, -⟩ := X; exact Go.to (fun t k => XS.lrem X.here B.1 rfl (hb B.2.2.1 hd) rfl hy (by rw [lrem_mod]; exact k)) g
theorem gishl (B : Fix p Z s m meth c bytes maxL own nm ret) (X : St p l e R s m args below meth c h0 ws T h cells slots) {x y : Int32} {v : Int32} (hd : decode bytes pc = .ok (.ishl, 1))  (hv : x <<< (y &&& 31) = v) (hp : pc' = pc + 1) (g : Go p e below s K N h0 ws Q T (mkF m pc' Ls (.int v :: st))) : Go p e below s K N h0 ws Q T (mkF m pc Ls (.int y :: .int x :: st)) := by
  subst hp; subst hv; obtain ⟨L, X, -⟩ := X; exact Go.to (fun t k => XS.ishl X.here B.1 rfl (hb B.2.2.1 hd) rfl k) g
theorem gishr (B : Fix p Z s m meth c bytes maxL own nm ret) (X : St p l e R s m args below meth c h0 ws T h cells slots) {x y : Int32} {v : Int32} (hd : decode bytes pc = .ok (.ishr, 1))  (hv : x >>> (y &&& 31) = v) (hp : pc' = pc + 1) (g : Go p e below s K N h0 ws Q T (mkF m pc' Ls (.int v :: st))) : Go p e below s K N h0 ws Q T (mkF m pc Ls (.int y :: .int x :: st)) := by
  subst hp; subst hv; obtain ⟨L, X, -⟩ := X; exact Go.to (fun t k => XS.ishr X.here B.1 rfl (hb B.2.2.1 hd) rfl k) g
theorem giushr (B : Fix p Z s m meth c bytes maxL own nm ret) (X : St p l e R s m args below meth c h0 ws T h cells slots) {x y : Int32} {v : Int32} (hd : decode bytes pc = .ok (.iushr, 1))  (hv : (x.toUInt32 >>> (y &&& 31).toUInt32).toInt32 = v) (hp : pc' = pc + 1) (g : Go p e below s K N h0 ws Q T (mkF m pc' Ls (.int v :: st))) : Go p e below s K N h0 ws Q T (mkF m pc Ls (.int y :: .int x :: st)) := by
  subst hp; subst hv; obtain ⟨L, X, -⟩ := X; exact Go.to (fun t k => XS.iushr X.here B.1 rfl (hb B.2.2.1 hd) rfl k) g
theorem glshl (B : Fix p Z s m meth c bytes maxL own nm ret) (X : St p l e R s m args below meth c h0 ws T h cells slots) {x : Int64} {y : Int32} {v : Int64} (hd : decode bytes pc = .ok (.lshl, 1))  (hv : x <<< (y &&& 0x3f).toInt64 = v) (hp : pc' = pc + 1) (g : Go p e below s K N h0 ws Q T (mkF m pc' Ls (.long v :: st))) : Go p e below s K N h0 ws Q T (mkF m pc Ls (.int y :: .long x :: st)) := by
  subst hp; subst hv; obtain ⟨L, X, -⟩ := X; exact Go.to (fun t k => XS.lshl X.here B.1 rfl (hb B.2.2.1 hd) rfl k) g
theorem glshr (B : Fix p Z s m meth c bytes maxL own nm ret) (X : St p l e R s m args below meth c h0 ws T h cells slots) {x : Int64} {y : Int32} {v : Int64} (hd : decode bytes pc = .ok (.lshr, 1))  (hv : x >>> (y &&& 0x3f).toInt64 = v) (hp : pc' = pc + 1) (g : Go p e below s K N h0 ws Q T (mkF m pc' Ls (.long v :: st))) : Go p e below s K N h0 ws Q T (mkF m pc Ls (.int y :: .long x :: st)) := by
  subst hp; subst hv; obtain ⟨L, X, -⟩ := X; exact Go.to (fun t k => XS.lshr X.here B.1 rfl (hb B.2.2.1 hd) rfl k) g
theorem glushr (B : Fix p Z s m meth c bytes maxL own nm ret) (X : St p l e R s m args below meth c h0 ws T h cells slots) {x : Int64} {y : Int32} {v : Int64} (hd : decode bytes pc = .ok (.lushr, 1))  (hv : (x.toUInt64 >>> (y &&& 0x3f).toInt64.toUInt64).toInt64 = v) (hp : pc' = pc + 1) (g : Go p e below s K N h0 ws Q T (mkF m pc' Ls (.long v :: st))) : Go p e below s K N h0 ws Q T (mkF m pc Ls (.int y :: .long x :: st)) := by
  subst hp; subst hv; obtain ⟨L, X, -⟩ := X; exact Go.to (fun t k => XS.lushr X.here B.1 rfl (hb B.2.2.1 hd) rfl k) g
theorem gineg (B : Fix p Z s m meth c bytes maxL own nm ret) (X : St p l e R s m args below meth c h0 ws T h cells slots) {x : Int32} {v : Int32} (hd : decode bytes pc = .ok (.ineg, 1))  (hv : -x = v) (hp : pc' = pc + 1) (g : Go p e below s K N h0 ws Q T (mkF m pc' Ls (.int v :: st))) : Go p e below s K N h0 ws Q T (mkF m pc Ls (.int x :: st)) := by
  subst hp; subst hv; obtain ⟨L, X, -⟩ := X; exact Go.to (fun t k => XS.ineg X.here B.1 rfl (hb B.2.2.1 hd) rfl k) g
theorem glneg (B : Fix p Z s m meth c bytes maxL own nm ret) (X : St p l e R s m args below meth c h0 ws T h cells slots) {x : Int64} {v : Int64} (hd : decode bytes pc = .ok (.lneg, 1))  (hv : -x = v) (hp : pc' = pc + 1) (g : Go p e below s K N h0 ws Q T (mkF m pc' Ls (.long v :: st))) : Go p e below s K N h0 ws Q T (mkF m pc Ls (.long x :: st)) := by
  subst hp; subst hv; obtain ⟨L, X, -⟩ := X; exact Go.to (fun t k => XS.lneg X.here B.1 rfl (hb B.2.2.1 hd) rfl k) g
theorem gi2l (B : Fix p Z s m meth c bytes maxL own nm ret) (X : St p l e R s m args below meth c h0 ws T h cells slots) {x : Int32} {v : Int64} (hd : decode bytes pc = .ok (.i2l, 1))  (hv : x.toInt64 = v) (hp : pc' = pc + 1) (g : Go p e below s K N h0 ws Q T (mkF m pc' Ls (.long v :: st))) : Go p e below s K N h0 ws Q T (mkF m pc Ls (.int x :: st)) := by
  subst hp; subst hv; obtain ⟨L, X, -⟩ := X; exact Go.to (fun t k => XS.i2l X.here B.1 rfl (hb B.2.2.1 hd) rfl k) g
theorem gl2i (B : Fix p Z s m meth c bytes maxL own nm ret) (X : St p l e R s m args below meth c h0 ws T h cells slots) {x : Int64} {v : Int32} (hd : decode bytes pc = .ok (.l2i, 1))  (hv : x.toInt32 = v) (hp : pc' = pc + 1) (g : Go p e below s K N h0 ws Q T (mkF m pc' Ls (.int v :: st))) : Go p e below s K N h0 ws Q T (mkF m pc Ls (.long x :: st)) := by
  subst hp; subst hv; obtain ⟨L, X, -⟩ := X; exact Go.to (fun t k => XS.l2i X.here B.1 rfl (hb B.2.2.1 hd) rfl k) g
theorem gi2b (B : Fix p Z s m meth c bytes maxL own nm ret) (X : St p l e R s m args below meth c h0 ws T h cells slots) {x : Int32} {v : Int32} (hd : decode bytes pc = .ok (.i2b, 1))  (hv : x.toInt8.toInt32 = v) (hp : pc' = pc + 1) (g : Go p e below s K N h0 ws Q T (mkF m pc' Ls (.int v :: st))) : Go p e below s K N h0 ws Q T (mkF m pc Ls (.int x :: st)) := by
  subst hp; subst hv; obtain ⟨L, X, -⟩ := X; exact Go.to (fun t k => XS.i2b X.here B.1 rfl (hb B.2.2.1 hd) rfl k) g
theorem gi2s (B : Fix p Z s m meth c bytes maxL own nm ret) (X : St p l e R s m args below meth c h0 ws T h cells slots) {x : Int32} {v : Int32} (hd : decode bytes pc = .ok (.i2s, 1))  (hv : x.toInt16.toInt32 = v) (hp : pc' = pc + 1) (g : Go p e below s K N h0 ws Q T (mkF m pc' Ls (.int v :: st))) : Go p e below s K N h0 ws Q T (mkF m pc Ls (.int x :: st)) := by
  subst hp; subst hv; obtain ⟨L, X, -⟩ := X; exact Go.to (fun t k => XS.i2s X.here B.1 rfl (hb B.2.2.1 hd) rfl k) g
theorem gi2c (B : Fix p Z s m meth c bytes maxL own nm ret) (X : St p l e R s m args below meth c h0 ws T h cells slots) {x : Int32} {v : Int32} (hd : decode bytes pc = .ok (.i2c, 1))  (hv : x.toUInt32.toUInt16.toUInt32.toInt32 = v) (hp : pc' = pc + 1) (g : Go p e below s K N h0 ws Q T (mkF m pc' Ls (.int v :: st))) : Go p e below s K N h0 ws Q T (mkF m pc Ls (.int x :: st)) := by
  subst hp; subst hv; obtain ⟨L, X, -⟩ := X; exact Go.to (fun t k => XS.i2c X.here B.1 rfl (hb B.2.2.1 hd) rfl k) g
theorem glcmp (B : Fix p Z s m meth c bytes maxL own nm ret) (X : St p l e R s m args below meth c h0 ws T h cells slots) {x y : Int64} (hd : decode bytes pc = .ok (.lcmp, 1))  (hp : pc' = pc + 1) (g : Go p e below s K N h0 ws Q T (mkF m pc' Ls (.int (lcmpW x y) :: st))) : Go p e below s K N h0 ws Q T (mkF m pc Ls (.long y :: .long x :: st)) := by
  subst hp; obtain ⟨L, X, -⟩ := X; exact Go.to (fun t k => XS.lcmp X.here B.1 rfl (hb B.2.2.1 hd) rfl k) g
theorem gdup (B : Fix p Z s m meth c bytes maxL own nm ret) (X : St p l e R s m args below meth c h0 ws T h cells slots) {x : Value} (hd : decode bytes pc = .ok (.dup, 1)) (hc : x.category = 1) (hp : pc' = pc + 1) (g : Go p e below s K N h0 ws Q T (mkF m pc' Ls (x :: x :: st))) : Go p e below s K N h0 ws Q T (mkF m pc Ls (x :: st)) := by
  subst hp; obtain ⟨L, X, -⟩ := X; exact Go.to (fun t k => XS.dup X.here B.1 rfl (hb B.2.2.1 hd) rfl hc k) g
theorem gpop (B : Fix p Z s m meth c bytes maxL own nm ret) (X : St p l e R s m args below meth c h0 ws T h cells slots) {x : Value} (hd : decode bytes pc = .ok (.pop, 1)) (hc : x.category = 1) (hp : pc' = pc + 1) (g : Go p e below s K N h0 ws Q T (mkF m pc' Ls st)) : Go p e below s K N h0 ws Q T (mkF m pc Ls (x :: st)) := by
  subst hp; obtain ⟨L, X, -⟩ := X; exact Go.to (fun t k => XS.pop X.here B.1 rfl (hb B.2.2.1 hd) rfl hc k) g
theorem gdup_x1 (B : Fix p Z s m meth c bytes maxL own nm ret) (X : St p l e R s m args below meth c h0 ws T h cells slots) {x y : Value} (hd : decode bytes pc = .ok (.dup_x1, 1)) (hc : x.category = 1) (hc2 : y.category = 1) (hp : pc' = pc + 1) (g : Go p e below s K N h0 ws Q T (mkF m pc' Ls (x :: y :: x :: st))) : Go p e below s K N h0 ws Q T (mkF m pc Ls (x :: y :: st)) := by
  subst hp; obtain ⟨L, X, -⟩ := X; exact Go.to (fun t k => XS.dupX1 X.here B.1 rfl (hb B.2.2.1 hd) rfl hc hc2 k) g
theorem gdup2 (B : Fix p Z s m meth c bytes maxL own nm ret) (X : St p l e R s m args below meth c h0 ws T h cells slots) {x y : Value} (hd : decode bytes pc = .ok (.dup2, 1)) (hc : x.category = 1) (hc2 : y.category = 1) (hp : pc' = pc + 1) (g : Go p e below s K N h0 ws Q T (mkF m pc' Ls (x :: y :: x :: y :: st))) : Go p e below s K N h0 ws Q T (mkF m pc Ls (x :: y :: st)) := by
  subst hp; obtain ⟨L, X, -⟩ := X; exact Go.to (fun t k => Jvm.Free.XT.dup2 X.here B.1 rfl (hb B.2.2.1 hd) rfl hc hc2 k) g
theorem xdup_x2 {tb : Tables} [Ours tb] {target : State} {g : JFrame} (h : At T m c below) (hx : tb.exec = Jvm.exec) (hg : g.method = m) {x y z : Value} {rest : List Value} (hd : decode c.code g.pc = .ok (.dup_x2, 1)) (hs : g.stack = x :: y :: z :: rest) (hc : x.category = 1) (hc' : y.category = 1) (hc2 : z.category = 1)
    (hr : Steps tb e below (T.setTop { g with pc := g.pc + 1, stack := x :: y :: z :: x :: rest }) target) : Steps tb e below (T.setTop g) target := by
  subst hg
  jvm_step h [h.top, hx, hd, hs, hc, hc', hc2]
  exact hr
theorem gdup_x2 (B : Fix p Z s m meth c bytes maxL own nm ret) (X : St p l e R s m args below meth c h0 ws T h cells slots) {x y z : Value} (hd : decode bytes pc = .ok (.dup_x2, 1)) (hc : x.category = 1) (hc2 : y.category = 1) (hc3 : z.category = 1) (hp : pc' = pc + 1) (g : Go p e below s K N h0 ws Q T (mkF m pc' Ls (x :: y :: z :: x :: st))) : Go p e below s K N h0 ws Q T (mkF m pc Ls (x :: y :: z :: st)) := by
  subst hp; obtain ⟨L, X, -⟩ := X; exact Go.to (fun t k => xdup_x2 X.here B.1 rfl (hb B.2.2.1 hd) rfl hc hc2 hc3 k) g
theorem giinc (B : Fix p Z s m meth c bytes maxL own nm ret) (X : St p l e R s m args below meth c h0 ws T h cells slots) {k : Nat} {cst : Int} {x v : Int32} (hd : decode bytes pc = .ok (.iinc k cst, 3)) (hl : Ls[k]? = some (.val (.int x))) (hv : x + Int32.ofInt cst = v) (hl' : storeLocals Ls k (.int v) = some Ls') (hp : pc' = pc + 3) (g : Go p e below s K N h0 ws Q T (mkF m pc' Ls' st)) : Go p e below s K N h0 ws Q T (mkF m pc Ls st) := by
  subst hp; subst hv; obtain ⟨L, X, -⟩ := X; exact Go.to (fun t k => XS.iinc X.here B.1 rfl (hb B.2.2.1 hd) hl hl' k) g
theorem ggoto (B : Fix p Z s m meth c bytes maxL own nm ret) (X : St p l e R s m args below meth c h0 ws T h cells slots) {o : Int} (hd : decode bytes pc = .ok (.goto o, 3)) (ho : 0 ≤ (pc : Int) + o ∧ ((pc : Int) + o).toNat = pc') (g : Go p e below s K N h0 ws Q T (mkF m pc' Ls st)) : Go p e below s K N h0 ws Q T (mkF m pc Ls st) := by
  obtain ⟨L, X, -⟩ := X; exact Go.to (fun t k => XS.goto X.here B.1 rfl (pc0 := pc) rfl (hb B.2.2.1 hd) ho.1 ho.2 k) g
theorem gifY (B : Fix p Z s m meth c bytes maxL own nm ret) (X : St p l e R s m args below meth c h0 ws T h cells slots) {cd : ClassFile.Cond} {o : Int} {x : Int32} (hd : decode bytes pc = .ok (.ifCond cd o, 3)) (hc : ifCond.holds cd x = true) (ho : 0 ≤ (pc : Int) + o ∧ ((pc : Int) + o).toNat = pc') (g : Go p e below s K N h0 ws Q T (mkF m pc' Ls st)) : Go p e below s K N h0 ws Q T (mkF m pc Ls (.int x :: st)) := by
  obtain ⟨L, X, -⟩ := X; exact Go.to (fun t k => XS.ifYes X.here B.1 rfl (pc0 := pc) rfl (hb B.2.2.1 hd) rfl hc ho.1 ho.2 k) g
theorem gifN (B : Fix p Z s m meth c bytes maxL own nm ret) (X : St p l e R s m args below meth c h0 ws T h cells slots) {cd : ClassFile.Cond} {o : Int} {x : Int32} (hd : decode bytes pc = .ok (.ifCond cd o, 3)) (hc : ifCond.holds cd x = false) (hp : pc' = pc + 3) (g : Go p e below s K N h0 ws Q T (mkF m pc' Ls st)) : Go p e below s K N h0 ws Q T (mkF m pc Ls (.int x :: st)) := by
  subst hp; obtain ⟨L, X, -⟩ := X; exact Go.to (fun t k => XS.ifNo X.here B.1 rfl (hb B.2.2.1 hd) rfl hc k) g
theorem gicY (B : Fix p Z s m meth c bytes maxL own nm ret) (X : St p l e R s m args below meth c h0 ws T h cells slots) {cd : ClassFile.Cond} {o : Int} {x y : Int32} (hd : decode bytes pc = .ok (.if_icmp cd o, 3)) (hc : if_icmp.holds cd x y = true) (ho : 0 ≤ (pc : Int) + o ∧ ((pc : Int) + o).toNat = pc') (g : Go p e below s K N h0 ws Q T (mkF m pc' Ls st)) : Go p e below s K N h0 ws Q T (mkF m pc Ls (.int y :: .int x :: st)) := by
  obtain ⟨L, X, -⟩ := X; exact Go.to (fun t k => XS.icmpYes X.here B.1 rfl (pc0 := pc) rfl (hb B.2.2.1 hd) rfl hc ho.1 ho.2 k) g
theorem gicN (B : Fix p Z s m meth c bytes maxL own nm ret) (X : St p l e R s m args below meth c h0 ws T h cells slots) {cd : ClassFile.Cond} {o : Int} {x y : Int32} (hd : decode bytes pc = .ok (.if_icmp cd o, 3)) (hc : if_icmp.holds cd x y = false) (hp : pc' = pc + 3) (g : Go p e below s K N h0 ws Q T (mkF m pc' Ls st)) : Go p e below s K N h0 ws Q T (mkF m pc Ls (.int y :: .int x :: st)) := by
  subst hp; obtain ⟨L, X, -⟩ := X; exact Go.to (fun t k => XS.icmpNo X.here B.1 rfl (hb B.2.2.1 hd) rfl hc k) g
theorem gnullN (B : Fix p Z s m meth c bytes maxL own nm ret) (X : St p l e R s m args below meth c h0 ws T h cells slots) {a : Addr} {o : Int} (hd : decode bytes pc = .ok (.ifnull o, 3)) (hp : pc' = pc + 3) (g : Go p e below s K N h0 ws Q T (mkF m pc' Ls st)) : Go p e below s K N h0 ws Q T (mkF m pc Ls (.ref a :: st)) := by
  subst hp; obtain ⟨L, X, -⟩ := X; exact Go.to (fun t k => XS.ifnullNo X.here B.1 rfl (hb B.2.2.1 hd) rfl k) g
theorem gldc (B : Fix p Z s m meth c bytes maxL own nm ret) (X : St p l e R s m args below meth c h0 ws T h cells slots) {i : Nat} {v : Int32} (w : (Cond.constant own i v).before a0 Z = true) (hd : decode bytes pc = .ok (.ldc i, 2)) (hp : pc' = pc + 2) (g : Go p e below s K N h0 ws Q T (mkF m pc' Ls (.int v :: st))) : Go p e below s K N h0 ws Q T (mkF m pc Ls st) := by
  subst hp; obtain ⟨L, X, -⟩ := X; exact Go.to (fun t k => X.ldcInt B.1 B.2.2.2.2.1 (mvT B.2.1 w) (g := mkF m pc Ls st) rfl (hb B.2.2.1 hd) t k) g
theorem gldcw (B : Fix p Z s m meth c bytes maxL own nm ret) (X : St p l e R s m args below meth c h0 ws T h cells slots) {i : Nat} {v : Int32} (w : (Cond.constant own i v).before a0 Z = true) (hd : decode bytes pc = .ok (.ldc_w i, 3)) (hp : pc' = pc + 3) (g : Go p e below s K N h0 ws Q T (mkF m pc' Ls (.int v :: st))) : Go p e below s K N h0 ws Q T (mkF m pc Ls st) := by
  subst hp; obtain ⟨L, X, -⟩ := X; exact Go.to (fun t k => X.ldcwInt B.1 B.2.2.2.2.1 (mvT B.2.1 w) (g := mkF m pc Ls st) rfl (hb B.2.2.1 hd) t k) g
theorem gldc2 (B : Fix p Z s m meth c bytes maxL own nm ret) (X : St p l e R s m args below meth c h0 ws T h cells slots) {i : Nat} {v : Int64} (w : (Cond.constantLong own i v).before a0 Z = true) (hd : decode bytes pc = .ok (.ldc2_w i, 3)) (hp : pc' = pc + 3) (g : Go p e below s K N h0 ws Q T (mkF m pc' Ls (.long v :: st))) : Go p e below s K N h0 ws Q T (mkF m pc Ls st) := by
  subst hp; obtain ⟨L, X, -⟩ := X; exact Go.to (fun t k => X.ldc2Long B.1 B.2.2.2.2.1 (mvT B.2.1 w) (g := mkF m pc Ls st) rfl (hb B.2.2.1 hd) t k) g
theorem giaload (B : Fix p Z s m meth c bytes maxL own nm ret) (X : St p l e R s m args below meth c h0 ws T h cells slots) {a : Addr} {vs : List Value} {j : Int32} {v : Value} {n : Nat} (A : VA Z h a .int vs) (hn : vs.length = n) (hj : 0 ≤ j.toInt ∧ j.toInt < n) (hv : vs[j.toNatClampNeg]? = some v) (hd : decode bytes pc = .ok (.iaload, 1)) (hp : pc' = pc + 1) (g : Go p e below s K N h0 ws Q T (mkF m pc' Ls (v :: st))) : Go p e below s K N h0 ws Q T (mkF m pc Ls (.int j :: .ref a :: st)) := by
  subst hp; subst hn; obtain ⟨L, X, eT, -⟩ := X; obtain ⟨cl, A, r, n⟩ := A
  exact Go.to (fun t k => X.iaload B.1 (by rw [eT]; exact A.1) (State.isArrayOf_alike B.2.1.alike A.2.1) A.2.2 (by rw [r]; exact inb (by simpa using hj)) (by rw [r]; simpa using hv) (g := mkF m pc Ls (.int j :: .ref a :: st)) rfl rfl (hb B.2.2.1 hd) t k) g
theorem glaload (B : Fix p Z s m meth c bytes maxL own nm ret) (X : St p l e R s m args below meth c h0 ws T h cells slots) {a : Addr} {vs : List Value} {j : Int32} {v : Value} {n : Nat} (A : VA Z h a .long vs) (hn : vs.length = n) (hj : 0 ≤ j.toInt ∧ j.toInt < n) (hv : vs[j.toNatClampNeg]? = some v) (hd : decode bytes pc = .ok (.laload, 1)) (hp : pc' = pc + 1) (g : Go p e below s K N h0 ws Q T (mkF m pc' Ls (v :: st))) : Go p e below s K N h0 ws Q T (mkF m pc Ls (.int j :: .ref a :: st)) := by
  subst hp; subst hn; obtain ⟨L, X, eT, -⟩ := X; obtain ⟨cl, A, r, n⟩ := A
  exact Go.to (fun t k => X.laload B.1 (by rw [eT]; exact A.1) (State.isArrayOf_alike B.2.1.alike A.2.1) A.2.2 (by rw [r]; exact inb (by simpa using hj)) (by rw [r]; simpa using hv) (g := mkF m pc Ls (.int j :: .ref a :: st)) rfl rfl (hb B.2.2.1 hd) t k) g
theorem gbaload (B : Fix p Z s m meth c bytes maxL own nm ret) (X : St p l e R s m args below meth c h0 ws T h cells slots) {a : Addr} {vs : List Value} {j : Int32} {v : Value} {n : Nat} (A : VA Z h a .byte vs) (hn : vs.length = n) (hj : 0 ≤ j.toInt ∧ j.toInt < n) (hv : vs[j.toNatClampNeg]? = some v) (hd : decode bytes pc = .ok (.baload, 1)) (hp : pc' = pc + 1) (g : Go p e below s K N h0 ws Q T (mkF m pc' Ls (v :: st))) : Go p e below s K N h0 ws Q T (mkF m pc Ls (.int j :: .ref a :: st)) := by
  subst hp; subst hn; obtain ⟨L, X, eT, -⟩ := X; obtain ⟨cl, A, r, n⟩ := A
  exact Go.to (fun t k => X.baloadBytes B.1 (by rw [eT]; exact A.1) (State.isArrayOf_alike B.2.1.alike A.2.1) A.2.2 (by rw [r]; exact inb (by simpa using hj)) (by rw [r]; simpa using hv) (g := mkF m pc Ls (.int j :: .ref a :: st)) rfl rfl (hb B.2.2.1 hd) t k) g
theorem gzaload (B : Fix p Z s m meth c bytes maxL own nm ret) (X : St p l e R s m args below meth c h0 ws T h cells slots) {a : Addr} {vs : List Value} {j : Int32} {v : Value} {n : Nat} (A : VA Z h a .boolean vs) (hn : vs.length = n) (hj : 0 ≤ j.toInt ∧ j.toInt < n) (hv : vs[j.toNatClampNeg]? = some v) (hd : decode bytes pc = .ok (.baload, 1)) (hp : pc' = pc + 1) (g : Go p e below s K N h0 ws Q T (mkF m pc' Ls (v :: st))) : Go p e below s K N h0 ws Q T (mkF m pc Ls (.int j :: .ref a :: st)) := by
  subst hp; subst hn; obtain ⟨L, X, eT, -⟩ := X; obtain ⟨cl, A, r, n⟩ := A
  exact Go.to (fun t k => X.baloadBooleans B.1 (by rw [eT]; exact A.1) (State.isArrayOf_alike B.2.1.alike A.2.1) A.2.2 (by rw [r]; exact inb (by simpa using hj)) (by rw [r]; simpa using hv) (g := mkF m pc Ls (.int j :: .ref a :: st)) rfl rfl (hb B.2.2.1 hd) t k) g
theorem glength (B : Fix p Z s m meth c bytes maxL own nm ret) (X : St p l e R s m args below meth c h0 ws T h cells slots) {a : Addr} {ty : FieldType} {vs : List Value} {n : Int32} {k : Nat} (A : VA Z h a ty vs) (hk : vs.length = k) (hn : n.toInt = k) (hd : decode bytes pc = .ok (.arraylength, 1)) (hp : pc' = pc + 1) (g : Go p e below s K N h0 ws Q T (mkF m pc' Ls (.int n :: st))) : Go p e below s K N h0 ws Q T (mkF m pc Ls (.ref a :: st)) := by
  subst hp; subst hk; obtain ⟨L, X, eT, -⟩ := X; obtain ⟨cl, A, r, q⟩ := A
  have e1 : cl.slots.size.toInt32 = n := by rw [r]; apply Int32.toInt_inj.mp; rw [len_toInt (by simpa using q), hn]; simp
  exact Go.to (fun t k => X.arraylength B.1 (by rw [eT]; exact A.1) (State.isArrayOf_alike B.2.1.alike A.2.1) (g := mkF m pc Ls (.ref a :: st)) rfl rfl (hb B.2.2.1 hd) t (by rw [e1]; exact k)) g
theorem giastore (B : Fix p Z s m meth c bytes maxL own nm ret) (X : St p l e R s m args below meth c h0 ws T h cells slots) {a : Addr} {vs vs' : List Value} {j : Int32} {x : Int32} {i n : Nat} (A : VA Z h a .int vs) (hn : vs.length = n) (hj : 0 ≤ j.toInt ∧ j.toInt < n) (hi : j.toNatClampNeg = i) (hvs : vs.set i (.int x) = vs') (ha : a ∈ ws ∨ h0.size ≤ a) (hd : decode bytes pc = .ok (.iastore, 1)) (hp : pc' = pc + 1) (g : ∀ T' h', St p l e R s m args below meth c h0 ws T' h' cells slots → Wr h h' a i (.int x) → VA Z h' a .int vs' → Go p e below s K N h0 ws Q T' (mkF m pc' Ls st)) : Go p e below s K N h0 ws Q T (mkF m pc Ls (.int x :: .int j :: .ref a :: st)) := by
  subst hp; subst hi; subst hvs; subst hn; obtain ⟨L, X, eT, KK, FF⟩ := X; have A0 := A; obtain ⟨cl, A, r, n⟩ := A
  obtain ⟨T', h', X', e', W, k⟩ := stI X B.1 B.2.1 eT A (by rw [r]; exact inb (by simpa using hj)) (g := mkF m pc Ls (.int x :: .int j :: .ref a :: st)) rfl rfl (hb B.2.2.1 hd)
  exact Go.to k (g T' h' ⟨_, X', e', KK.wr W ha, fun y hy => (List.mem_append.mp hy).elim (FF y) fun q => by cases List.mem_singleton.mp q; exact ha⟩ W (A0.set W))
theorem glastore (B : Fix p Z s m meth c bytes maxL own nm ret) (X : St p l e R s m args below meth c h0 ws T h cells slots) {a : Addr} {vs vs' : List Value} {j : Int32} {x : Int64} {i n : Nat} (A : VA Z h a .long vs) (hn : vs.length = n) (hj : 0 ≤ j.toInt ∧ j.toInt < n) (hi : j.toNatClampNeg = i) (hvs : vs.set i (.long x) = vs') (ha : a ∈ ws ∨ h0.size ≤ a) (hd : decode bytes pc = .ok (.lastore, 1)) (hp : pc' = pc + 1) (g : ∀ T' h', St p l e R s m args below meth c h0 ws T' h' cells slots → Wr h h' a i (.long x) → VA Z h' a .long vs' → Go p e below s K N h0 ws Q T' (mkF m pc' Ls st)) : Go p e below s K N h0 ws Q T (mkF m pc Ls (.long x :: .int j :: .ref a :: st)) := by
  subst hp; subst hi; subst hvs; subst hn; obtain ⟨L, X, eT, KK, FF⟩ := X; have A0 := A; obtain ⟨cl, A, r, n⟩ := A
  obtain ⟨T', h', X', e', W, k⟩ := stJ X B.1 B.2.1 eT A (by rw [r]; exact inb (by simpa using hj)) (g := mkF m pc Ls (.long x :: .int j :: .ref a :: st)) rfl rfl (hb B.2.2.1 hd)
  exact Go.to k (g T' h' ⟨_, X', e', KK.wr W ha, fun y hy => (List.mem_append.mp hy).elim (FF y) fun q => by cases List.mem_singleton.mp q; exact ha⟩ W (A0.set W))
theorem gbastore (B : Fix p Z s m meth c bytes maxL own nm ret) (X : St p l e R s m args below meth c h0 ws T h cells slots) {a : Addr} {vs vs' : List Value} {j : Int32} {x : Int32} {i n : Nat} (A : VA Z h a .byte vs) (hn : vs.length = n) (hj : 0 ≤ j.toInt ∧ j.toInt < n) (hi : j.toNatClampNeg = i) (hvs : vs.set i (.int x.toInt8.toInt32) = vs') (ha : a ∈ ws ∨ h0.size ≤ a) (hd : decode bytes pc = .ok (.bastore, 1)) (hp : pc' = pc + 1) (g : ∀ T' h', St p l e R s m args below meth c h0 ws T' h' cells slots → Wr h h' a i (.int x.toInt8.toInt32) → VA Z h' a .byte vs' → Go p e below s K N h0 ws Q T' (mkF m pc' Ls st)) : Go p e below s K N h0 ws Q T (mkF m pc Ls (.int x :: .int j :: .ref a :: st)) := by
  subst hp; subst hi; subst hvs; subst hn; obtain ⟨L, X, eT, KK, FF⟩ := X; have A0 := A; obtain ⟨cl, A, r, n⟩ := A
  obtain ⟨T', h', X', e', W, k⟩ := stB X B.1 B.2.1 eT A (by rw [r]; exact inb (by simpa using hj)) (g := mkF m pc Ls (.int x :: .int j :: .ref a :: st)) rfl rfl (hb B.2.2.1 hd)
  exact Go.to k (g T' h' ⟨_, X', e', KK.wr W ha, fun y hy => (List.mem_append.mp hy).elim (FF y) fun q => by cases List.mem_singleton.mp q; exact ha⟩ W (A0.set W))
theorem gzastore (B : Fix p Z s m meth c bytes maxL own nm ret) (X : St p l e R s m args below meth c h0 ws T h cells slots) {a : Addr} {vs vs' : List Value} {j : Int32} {x : Int32} {i n : Nat} (A : VA Z h a .boolean vs) (hn : vs.length = n) (hj : 0 ≤ j.toInt ∧ j.toInt < n) (hi : j.toNatClampNeg = i) (hvs : vs.set i (.int (x &&& 1)) = vs') (ha : a ∈ ws ∨ h0.size ≤ a) (hd : decode bytes pc = .ok (.bastore, 1)) (hp : pc' = pc + 1) (g : ∀ T' h', St p l e R s m args below meth c h0 ws T' h' cells slots → Wr h h' a i (.int (x &&& 1)) → VA Z h' a .boolean vs' → Go p e below s K N h0 ws Q T' (mkF m pc' Ls st)) : Go p e below s K N h0 ws Q T (mkF m pc Ls (.int x :: .int j :: .ref a :: st)) := by
  subst hp; subst hi; subst hvs; subst hn; obtain ⟨L, X, eT, KK, FF⟩ := X; have A0 := A; obtain ⟨cl, A, r, n⟩ := A
  obtain ⟨T', h', X', e', W, k⟩ := stZ X B.1 B.2.1 eT A (by rw [r]; exact inb (by simpa using hj)) (g := mkF m pc Ls (.int x :: .int j :: .ref a :: st)) rfl rfl (hb B.2.2.1 hd)
  exact Go.to k (g T' h' ⟨_, X', e', KK.wr W ha, fun y hy => (List.mem_append.mp hy).elim (FF y) fun q => by cases List.mem_singleton.mp q; exact ha⟩ W (A0.set W))
theorem gnewarray (B : Fix p Z s m meth c bytes maxL own nm ret) (X : St p l e R s m args below meth c h0 ws T h cells slots) {aty : ArrayType} {n : Int32} {cap : Nat} {vs : List Value} {ty : FieldType} (hty : newarray.typeOf aty = ty) (hvs : List.replicate n.toNatClampNeg (defaultValue ty) = vs) (w : (Cond.arrayClass ty).before a0 Z = true) (hn : 0 ≤ n.toInt) (hcap : n.toInt ≤ cap) (hb8 : cap * 8 ≤ 536870912) (hc : cells + 1 ≤ R.cells) (hl : slots + cap ≤ R.slots) (hd : decode bytes pc = .ok (.newarray aty, 2)) (hp : pc' = pc + 2) (g : ∀ T' h' a, St p l e R s m args below meth c h0 ws T' h' (cells + 1) (slots + cap) → a = h.size → Ext h h' → h0.size ≤ a → VA Z h' a ty vs → Go p e below s K N h0 ws Q T' (mkF m pc' Ls (.ref a :: st))) : Go p e below s K N h0 ws Q T (mkF m pc Ls (.int n :: st)) := by
  subst hp; subst hty; subst hvs; obtain ⟨L, X, eT, KK, FF⟩ := X
  have hn' : ¬ n < 0 := by rw [Int32.lt_iff_toInt_lt, show (0 : Int32).toInt = 0 from rfl]; omega
  obtain ⟨T', h', cA, X', e', E, A, k⟩ := newP X B.1 B.2.1 w eT (g := mkF m pc Ls (.int n :: st)) rfl (hb B.2.2.1 hd) rfl hn' (cap := cap) (by simp only [Int32.toNatClampNeg]; omega) hb8 hc hl
  exact Go.to k (g T' h' _ ⟨_, X', e', KK.ext E, FF⟩ rfl E KK.1 (VA.new A hn'))
theorem gget (B : Fix p Z s m meth c bytes maxL own nm ret) (X : St p l e R s m args below meth c h0 ws T h cells slots) {a : Addr} {i : Nat} {C n d : String} {v : Value} (w : (Cond.fieldLink own i C n d).before a0 Z = true) (F : Fld Z h a C n d v) (hd : decode bytes pc = .ok (.getfield i, 3)) (hp : pc' = pc + 3) (g : ∀ T', St p l e R s m args below meth c h0 ws T' h cells slots → Go p e below s K N h0 ws Q T' (mkF m pc' Ls (v :: st))) : Go p e below s K N h0 ws Q T (mkF m pc Ls (.ref a :: st)) := by
  subst hp; obtain ⟨L, X, eT, r⟩ := X
  obtain ⟨T', X', e', k⟩ := getF X B.1 B.2.1 B.2.2.2.2.1 (host := "") (Or.inl w) Via.refl eT F (g := mkF m pc Ls (.ref a :: st)) rfl rfl (hb B.2.2.1 hd)
  exact Go.to k (g T' ⟨L, X', e', r⟩)
theorem gput (B : Fix p Z s m meth c bytes maxL own nm ret) (X : St p l e R s m args below meth c h0 ws T h cells slots) {a : Addr} {i kk : Nat} {C O n d : String} {ty : FieldType} {v old : Value} (w : (Cond.fieldLink own i O n d).before a0 Z = true) (F : Fld Z h a O n d old) (E : Exa Z h a C) (L : (Cond.lays C O n d).before a0 Z = true ∨ ((Cond.laysFinal C O n d).before a0 Z = true ∧ own = O ∧ nm = "<init>")) (wi : (Cond.instantiable C kk).before a0 Z = true) (hty : parseFieldDescriptor d = some ty) (hn : narrow ty v = v) (hf : fits ty v = true) (ha : a ∈ ws ∨ h0.size ≤ a) (hd : decode bytes pc = .ok (.putfield i, 3)) (hp : pc' = pc + 3) (g : ∀ T' h', St p l e R s m args below meth c h0 ws T' h' cells slots → Wr h h' a (Jvm.RoadKit.slotOf Z O n d) v → Go p e below s K N h0 ws Q T' (mkF m pc' Ls st)) : Go p e below s K N h0 ws Q T (mkF m pc Ls (v :: .ref a :: st)) := by
  subst hp; obtain ⟨L0, X, eT, KK, FF⟩ := X
  obtain ⟨T', h', X', e', W, k⟩ := putF X B.1 B.2.1 B.2.2.2.2.1 (host := "") (Or.inl w) Via.refl eT F E (L.imp id fun q => ⟨q.1, q.2.1, B.2.2.2.2.2.1.trans q.2.2⟩) wi hty hn hf (g := mkF m pc Ls (v :: .ref a :: st)) rfl rfl (hb B.2.2.1 hd)
  exact Go.to k (g T' h' ⟨_, X', e', KK.wr W ha, fun y hy => (List.mem_append.mp hy).elim (FF y) fun q => by cases List.mem_singleton.mp q; exact ha⟩ W)
theorem gnew (B : Fix p Z s m meth c bytes maxL own nm ret) (X : St p l e R s m args below meth c h0 ws T h cells slots) {i n : Nat} {C : String} (w : (Cond.classLink own i C).before a0 Z = true) (wi : (Cond.instantiable C n).before a0 Z = true) (wz : (Cond.initialized C).before a0 Z = true) (hc : cells + 1 ≤ R.cells) (hl : slots + n ≤ R.slots) (hd : decode bytes pc = .ok (.new i, 3)) (hp : pc' = pc + 3) (g : ∀ T' h' a, St p l e R s m args below meth c h0 ws T' h' (cells + 1) (slots + n) → a = h.size → Ext h h' → h0.size ≤ a → Exa Z h' a C → (∀ {O nm d : String} {ty : FieldType}, Laid Z a0 C O nm d → parseFieldDescriptor d = some ty → Fld Z h' a O nm d (defaultValue ty)) → Go p e below s K N h0 ws Q T' (mkF m pc' Ls (.ref a :: st))) : Go p e below s K N h0 ws Q T (mkF m pc Ls st) := by
  subst hp; obtain ⟨L0, X, eT, KK, FF⟩ := X
  obtain ⟨T', h', X', e', E, A, D, -, k⟩ := newO X B.1 B.2.1 B.2.2.2.2.1 w wi wz eT (g := mkF m pc Ls st) rfl (hb B.2.2.1 hd) hc hl
  exact Go.to k (g T' h' _ ⟨_, X', e', KK.ext E, FF⟩ rfl E KK.1 A D)
theorem ginitO (B : Fix p Z s m meth c bytes maxL own nm ret) (X : St p l e R s m args below meth c h0 ws T h cells slots) {a : Addr} {i W : Nat} (w1 : (Cond.methodLink own i Lib.objectInit).before a0 Z = true) (w2 : (Cond.instanceMethod Lib.objectInit).before a0 Z = true) (w3 : (Cond.code Lib.objectInit ⟨#[0xb1]⟩ 1 none).before a0 Z = true) (hsz : Ls.size = maxL) (hf : 1 ≤ R.frames) (hW : (st.map fun v => v.category).sum ≤ W) (hl : W + 12 ≤ R.locals) (hd : decode bytes pc = .ok (.invokespecial i, 3)) (hp : pc' = pc + 3) (g : ∀ T', St p l e R s m args below meth c h0 ws T' h cells slots → Go p e below s K N h0 ws Q T' (mkF m pc' Ls st)) : Go p e below s K N h0 ws Q T (mkF m pc Ls (.ref a :: st)) := by
  subst hp; obtain ⟨L0, X, eT, r⟩ := X
  obtain ⟨T', X', e', k⟩ := initO X B.1 B.2.1 B.2.2.2.2.1 w1 w2 w3 eT (g := mkF m pc Ls (.ref a :: st)) rfl (hsz.trans B.2.2.2.1.symm) rfl (hb B.2.2.1 hd) hf (W := W) (by show 2 * 0 + _ ≤ _; rw [Nat.mul_zero, Nat.zero_add]; exact hW) hl
  exact Go.to k (g T' ⟨L0, X', e', r⟩)
theorem gcallS (B : Fix p Z s m meth c bytes maxL own nm ret) (X : St p l e R s m args below meth c h0 ws T h cells slots) {y : MethodName} {bytes' : ByteArray} {maxL' : Nat} {ret' : Option FieldType} {rm : Room} {ws' : List Addr} {Q' : Option Value → Heap → Prop} {stk argsL : List Value} {i W : Nat} {ps : List FieldType} {rr : Option FieldType}  (w1 : (Cond.methodLink own i y).before a0 Z = true) (w2 : (Cond.static y).before a0 Z = true) (w3 : (Cond.initialized y.cls).before a0 Z = true) (w4 : (Cond.code y bytes' maxL' ret').before a0 Z = true) (hy : y.cls ≠ "java/lang/invoke/MethodHandle" ∧ y.cls ≠ "java/lang/invoke/VarHandle") (M : Meth l Z y bytes' maxL' ret' rm argsL.toArray h ws' Q') (hpd : parseMethodDescriptor y.desc = some ⟨ps, rr⟩) (hlen : argsL.length = ps.length) (hstk : stk = argsL.reverse ++ st) (hsz : Ls.size = maxL) (hW : (st.map fun v => v.category).sum ≤ W) (hfr : rm.frames + 1 ≤ R.frames) (hlo : W + (maxL' + 11) + rm.locals ≤ R.locals) (hcs : cells + rm.cells ≤ R.cells) (hss : slots + rm.slots ≤ R.slots) (hws : ∀ x ∈ ws', x ∈ ws ∨ h0.size ≤ x) (hd : decode bytes pc = .ok (.invokestatic i, 3)) (hp : pc' = pc + 3)
    (g : ∀ T' h' v, St p l e R s m args below meth c h0 ws T' h' (cells + rm.cells) (slots + rm.slots) → Keep h h' ws' → Q' v h' → Go p e below s K N h0 ws Q T' (mkF m pc' Ls (v.toList ++ st))) : Go p e below s K N h0 ws Q T (mkF m pc Ls stk) := by
  subst hp; subst hstk; obtain ⟨L0, X, eT, KK, FF⟩ := X
  obtain ⟨v2, _, ⟨T2, L2, c2, n2⟩, -, X2, ⟨Lc2, hq, l2, y2, z2⟩, k2⟩ := Jvm.LawKit.callS X B.1 (y := y) B.2.2.2.2.1 (mvT B.2.1 w1) (mvT B.2.1 w2) (mvT B.2.1 w3) (mvT B.2.1 w4) hy (backOf (W := W) (Q := fun v h' L => Q' v h' ∧ Keep h h' ws' ∧ FrW h ws' L) (M []) B.2.1 w4 w3 hfr hlo) (g := mkF m pc Ls (argsL.reverse ++ st)) rfl (hsz.trans B.2.2.2.1.symm) (argsL := argsL) (rest := st) (lenOf hpd hlen) rfl (by show 2 * 0 + _ ≤ _; rw [Nat.mul_zero, Nat.zero_add]; exact hW) (hb B.2.2.1 hd) (fun _ _ => ⟨rfl, eT, hcs, hss⟩)
  dsimp only [Pt.U, Pt.locs, Pt.cells, Pt.slots] at X2 l2 y2 z2 k2 hq
  subst l2 y2 z2
  refine Go.to k2 (g T2 T2.heap v2 ⟨_, X2, rfl, KK.trans hq.2.1 hws, fun y hy => (List.mem_append.mp hy).elim (FF y) fun q => ?_⟩ hq.2.1 hq.1)
  exact (hq.2.2 y q).elim (fun z => hws _ z) fun z => Or.inr (Nat.le_trans KK.1 z)
theorem gcallI (B : Fix p Z s m meth c bytes maxL own nm ret) (X : St p l e R s m args below meth c h0 ws T h cells slots) {y : MethodName} {bytes' : ByteArray} {maxL' : Nat} {ret' : Option FieldType} {rm : Room} {ws' : List Addr} {Q' : Option Value → Heap → Prop} {stk argsL : List Value} {i W : Nat} {ps : List FieldType} {rr : Option FieldType} {a : Addr} (hni : y.name = "<init>") (hret : ret' = none) (w1 : (Cond.methodLink own i y).before a0 Z = true) (w2 : (Cond.instanceMethod y).before a0 Z = true) (w3 : (Cond.initialized y.cls).before a0 Z = true) (w4 : (Cond.code y bytes' maxL' ret').before a0 Z = true) (hy : y.cls ≠ "java/lang/invoke/MethodHandle" ∧ y.cls ≠ "java/lang/invoke/VarHandle") (M : Meth l Z y bytes' maxL' ret' rm (.ref a :: argsL).toArray h ws' Q') (hpd : parseMethodDescriptor y.desc = some ⟨ps, rr⟩) (hlen : argsL.length = ps.length) (hstk : stk = argsL.reverse ++ .ref a :: st) (hsz : Ls.size = maxL) (hW : (st.map fun v => v.category).sum ≤ W) (hfr : rm.frames + 1 ≤ R.frames) (hlo : W + (maxL' + 11) + rm.locals ≤ R.locals) (hcs : cells + rm.cells ≤ R.cells) (hss : slots + rm.slots ≤ R.slots) (hws : ∀ x ∈ ws', x ∈ ws ∨ h0.size ≤ x) (hd : decode bytes pc = .ok (.invokespecial i, 3)) (hp : pc' = pc + 3)
    (g : ∀ T' h' v, St p l e R s m args below meth c h0 ws T' h' (cells + rm.cells) (slots + rm.slots) → Keep h h' ws' → Q' v h' → Go p e below s K N h0 ws Q T' (mkF m pc' Ls (v.toList ++ st))) : Go p e below s K N h0 ws Q T (mkF m pc Ls stk) := by
  subst hp; subst hstk; obtain ⟨L0, X, eT, KK, FF⟩ := X
  subst hret
  obtain ⟨v2, _, ⟨T2, L2, c2, n2⟩, -, X2, ⟨Lc2, hq, l2, y2, z2⟩, k2⟩ := X.specialBack B.1 (y := y) hni B.2.2.2.2.1 (mvT B.2.1 w1) (mvT B.2.1 w2) (mvT B.2.1 w4) hy (backOf (W := W) (Q := fun v h' L => Q' v h' ∧ Keep h h' ws' ∧ FrW h ws' L) (M []) B.2.1 w4 w3 hfr hlo) (g := mkF m pc Ls (argsL.reverse ++ .ref a :: st)) rfl (hsz.trans B.2.2.2.1.symm) (Steps.refl _) (a := a) (argsL := argsL) (rest := st) (lenOf hpd hlen) rfl (by show 2 * 0 + _ ≤ _; rw [Nat.mul_zero, Nat.zero_add]; exact hW) (hb B.2.2.1 hd) (fun _ _ => ⟨rfl, eT, hcs, hss⟩)
  dsimp only [Pt.U, Pt.locs, Pt.cells, Pt.slots] at X2 l2 y2 z2 k2 hq
  subst l2 y2 z2
  refine Go.to (fun t kt => k2.trans kt) (g T2 T2.heap v2 ⟨_, X2, rfl, KK.trans hq.2.1 hws, fun y hy => (List.mem_append.mp hy).elim (FF y) fun q => ?_⟩ hq.2.1 hq.1)
  exact (hq.2.2 y q).elim (fun z => hws _ z) fun z => Or.inr (Nat.le_trans KK.1 z)
theorem gcallV (B : Fix p Z s m meth c bytes maxL own nm ret) (X : St p l e R s m args below meth c h0 ws T h cells slots) {y : MethodName} {bytes' : ByteArray} {maxL' : Nat} {ret' : Option FieldType} {rm : Room} {ws' : List Addr} {Q' : Option Value → Heap → Prop} {stk argsL : List Value} {i W : Nat} {ps : List FieldType} {rr : Option FieldType} {a : Addr} {z : MethodName} {C : String} (E : Exa Z h a C) (w1 : (Cond.methodLink own i y).before a0 Z = true) (w2 : (Cond.declares y).before a0 Z = true) (w5 : (Cond.selects C y z).before a0 Z = true) (w6 : (Cond.instanceMethod z).before a0 Z = true) (w3 : (Cond.initialized z.cls).before a0 Z = true) (w4 : (Cond.code z bytes' maxL' ret').before a0 Z = true) (hyz : y = z) (hy : y.cls ≠ "java/lang/invoke/MethodHandle" ∧ y.cls ≠ "java/lang/invoke/VarHandle") (M : Meth l Z z bytes' maxL' ret' rm (.ref a :: argsL).toArray h ws' Q') (hpd : parseMethodDescriptor y.desc = some ⟨ps, rr⟩) (hlen : argsL.length = ps.length) (hstk : stk = argsL.reverse ++ .ref a :: st) (hsz : Ls.size = maxL) (hW : (st.map fun v => v.category).sum ≤ W) (hfr : rm.frames + 1 ≤ R.frames) (hlo : W + (maxL' + 11) + rm.locals ≤ R.locals) (hcs : cells + rm.cells ≤ R.cells) (hss : slots + rm.slots ≤ R.slots) (hws : ∀ x ∈ ws', x ∈ ws ∨ h0.size ≤ x) (hd : decode bytes pc = .ok (.invokevirtual i, 3)) (hp : pc' = pc + 3)
    (g : ∀ T' h' v, St p l e R s m args below meth c h0 ws T' h' (cells + rm.cells) (slots + rm.slots) → Keep h h' ws' → Q' v h' → Go p e below s K N h0 ws Q T' (mkF m pc' Ls (v.toList ++ st))) : Go p e below s K N h0 ws Q T (mkF m pc Ls stk) := by
  subst hp; subst hstk; obtain ⟨L0, X, eT, KK, FF⟩ := X
  subst hyz
  obtain ⟨cq, kq, qa, qb, qc⟩ := isOf B.2.1 eT E
  obtain ⟨v2, _, ⟨T2, L2, c2, n2⟩, -, X2, ⟨Lc2, hq, l2, y2, z2⟩, k2⟩ := X.virtualBack B.1 (y := y) (z := y) B.2.2.2.2.1 (mvT B.2.1 w1) (mvT B.2.1 w2) (notFace_of_selects (args := #[]) (mvT B.2.1 w5)) (mvT B.2.1 w5) (mvT B.2.1 w6) hy (backOf (W := W) (Q := fun v h' L => Q' v h' ∧ Keep h h' ws' ∧ FrW h ws' L) (M []) B.2.1 w4 w3 hfr hlo) qa qc (g := mkF m pc Ls (argsL.reverse ++ .ref a :: st)) rfl (hsz.trans B.2.2.2.1.symm) (Steps.refl _) (argsL := argsL) (rest := st) (lenOf hpd hlen) rfl (by show 2 * 0 + _ ≤ _; rw [Nat.mul_zero, Nat.zero_add]; exact hW) (hb B.2.2.1 hd) (fun _ _ => ⟨rfl, eT, hcs, hss⟩)
  dsimp only [Pt.U, Pt.locs, Pt.cells, Pt.slots] at X2 l2 y2 z2 k2 hq
  subst l2 y2 z2
  refine Go.to (fun t kt => k2.trans kt) (g T2 T2.heap v2 ⟨_, X2, rfl, KK.trans hq.2.1 hws, fun y hy => (List.mem_append.mp hy).elim (FF y) fun q => ?_⟩ hq.2.1 hq.1)
  exact (hq.2.2 y q).elim (fun z => hws _ z) fun z => Or.inr (Nat.le_trans KK.1 z)
theorem gcallP (B : Fix p Z s m meth c bytes maxL own nm ret) (X : St p l e R s m args below meth c h0 ws T h cells slots) {y : MethodName} {bytes' : ByteArray} {maxL' : Nat} {ret' : Option FieldType} {rm : Room} {ws' : List Addr} {Q' : Option Value → Heap → Prop} {stk argsL : List Value} {i W : Nat} {ps : List FieldType} {rr : Option FieldType} {a : Addr} {C : String} (E : Exa Z h a C) (w1 : (Cond.methodLink own i y).before a0 Z = true) (w2 : (Cond.instanceMethod y).before a0 Z = true) (w5 : (Cond.selects y.cls y y).before a0 Z = true) (w6 : (Cond.privateMethod y).before a0 Z = true) (w3 : (Cond.initialized y.cls).before a0 Z = true) (w4 : (Cond.code y bytes' maxL' ret').before a0 Z = true) (hy : y.cls ≠ "java/lang/invoke/MethodHandle" ∧ y.cls ≠ "java/lang/invoke/VarHandle") (M : Meth l Z y bytes' maxL' ret' rm (.ref a :: argsL).toArray h ws' Q') (hpd : parseMethodDescriptor y.desc = some ⟨ps, rr⟩) (hlen : argsL.length = ps.length) (hstk : stk = argsL.reverse ++ .ref a :: st) (hsz : Ls.size = maxL) (hW : (st.map fun v => v.category).sum ≤ W) (hfr : rm.frames + 1 ≤ R.frames) (hlo : W + (maxL' + 11) + rm.locals ≤ R.locals) (hcs : cells + rm.cells ≤ R.cells) (hss : slots + rm.slots ≤ R.slots) (hws : ∀ x ∈ ws', x ∈ ws ∨ h0.size ≤ x) (hd : decode bytes pc = .ok (.invokevirtual i, 3)) (hp : pc' = pc + 3)
    (g : ∀ T' h' v, St p l e R s m args below meth c h0 ws T' h' (cells + rm.cells) (slots + rm.slots) → Keep h h' ws' → Q' v h' → Go p e below s K N h0 ws Q T' (mkF m pc' Ls (v.toList ++ st))) : Go p e below s K N h0 ws Q T (mkF m pc Ls stk) := by
  subst hp; subst hstk; obtain ⟨L0, X, eT, KK, FF⟩ := X
  obtain ⟨cq, q, q'⟩ := E.cell
  obtain ⟨v2, _, ⟨T2, L2, c2, n2⟩, -, X2, ⟨Lc2, hq, l2, y2, z2⟩, k2⟩ := X.privateBack B.1 (y := y) B.2.2.2.2.1 (mvT B.2.1 w1) (mvT B.2.1 w2) (mvT B.2.1 w5) (Cond.privateMethod_at (mvP B.2.1 w6 (args := #[]))) (mvT B.2.1 w4) hy (backOf (W := W) (Q := fun v h' L => Q' v h' ∧ Keep h h' ws' ∧ FrW h ws' L) (M []) B.2.1 w4 w3 hfr hlo) (g := mkF m pc Ls (argsL.reverse ++ .ref a :: st)) rfl (hsz.trans B.2.2.2.1.symm) (Steps.refl _) (a := a) (by rw [eT]; exact q) q' (argsL := argsL) (rest := st) (lenOf hpd hlen) rfl (by show 2 * 0 + _ ≤ _; rw [Nat.mul_zero, Nat.zero_add]; exact hW) (hb B.2.2.1 hd) (fun _ _ => ⟨rfl, eT, hcs, hss⟩)
  dsimp only [Pt.U, Pt.locs, Pt.cells, Pt.slots] at X2 l2 y2 z2 k2 hq
  subst l2 y2 z2
  refine Go.to (fun t kt => k2.trans kt) (g T2 T2.heap v2 ⟨_, X2, rfl, KK.trans hq.2.1 hws, fun y hy => (List.mem_append.mp hy).elim (FF y) fun q => ?_⟩ hq.2.1 hq.1)
  exact (hq.2.2 y q).elim (fun z => hws _ z) fun z => Or.inr (Nat.le_trans KK.1 z)
theorem pureG {rm : Room} {r : Value} {ws' : List Addr} (hc : rm.cells = 0) (hs : rm.slots = 0) (g : ∀ T', St p l e R s m args below meth c h0 ws T' h cells slots → Go p e below s K N h0 ws Q T' (mkF m pc' Ls (r :: st))) : ∀ T' h' v, St p l e R s m args below meth c h0 ws T' h' (cells + rm.cells) (slots + rm.slots) → Keep h h' ws' → (v = some r ∧ h' = h) → Go p e below s K N h0 ws Q T' (mkF m pc' Ls (v.toList ++ st)) := by
  rintro T' h' v X k ⟨rfl, rfl⟩
  rw [hc, hs] at X; exact g T' X
theorem pureV {rm : Room} {r : Value} {ws' : List Addr} (hc : rm.cells = 0) (hs : rm.slots = 0) (g : ∀ T', St p l e R s m args below meth c h0 ws T' h cells slots → Go p e below s K N h0 ws Q T' (mkF m pc' Ls st)) : ∀ T' h' v, St p l e R s m args below meth c h0 ws T' h' (cells + rm.cells) (slots + rm.slots) → Keep h h' ws' → (v = none ∧ h' = h) → Go p e below s K N h0 ws Q T' (mkF m pc' Ls (v.toList ++ st)) := by
  rintro T' h' v X k ⟨rfl, rfl⟩
  rw [hc, hs] at X; exact g T' X
theorem nbb (x : Int32) : x.toInt8.toInt32.toInt8.toInt32 = x.toInt8.toInt32 := by simp
theorem nb (x : Int32) : nar .byte x.toInt8.toInt32 = x.toInt8.toInt32 := by simp [nar]
theorem retI (X : Stand p l e R s m args below meth c T locs cells slots) (hx : p.tables.exec = Jvm.exec) {z : Int32} {rest : List Value} (hret : meth.sig.returnType = some .int) (hd : decode c.code pc = .ok (.ireturn, 1)) {fs : List Frame}
    (hl : ∀ (f : JFrame) (acts : List Action), f.method = m → f.locked = none → f.entered = [] → (doReturn e (T.setTop f) acts (some (.int z))).1 = T.setFrames fs) : Steps p.tables e below (T.setTop (mkF m pc Ls (.int z :: rest))) (T.setFrames fs) := by
  have hm' : T.vm.method? m = some meth := X.method'
  have hn : narrow .int (.int z) = .int z := rfl
  show Steps p.tables e below (T.setTop { method := m, pc := pc, locals := Ls, stack := _ :: rest, locked := none }) _
  jvm_step X.here [X.here.top, hx, hd, hm', hret, hn]
  first | (intro acts; rw [hl _ acts rfl rfl rfl]) | rw [hl _ _ rfl rfl rfl]
  exact Steps.refl _
theorem gretI (B : Fix p Z s m meth c bytes maxL own nm (some .int)) (X : St p l e R s m args below meth c h0 ws T h cells slots) {z : Int32} (hd : decode bytes pc = .ok (.ireturn, 1)) (hk : cells ≤ K) (hn : slots ≤ N) (hQ : Q (some (.int z)) h) : Go p e below s K N h0 ws Q T (mkF m pc Ls (.int z :: st)) := by
  obtain ⟨L0, X, eT, KK, FF⟩ := X; have hlk := B.2.2.2.2.2.2.2; have hrt := B.2.2.2.2.2.2.1
  obtain ⟨fs, hr, hrun, hended, hW, hsame⟩ := X.leave (v := some (.int z)) (fun h => by rw [hrt] at h; cases h) hlk
  exact ⟨_, _, retI X B.1 hrt (hb B.2.2.1 hd) hr, hrun, hended, _, _, rfl, ⟨by show Q _ T.heap; rw [eT]; exact hQ, by show Keep h0 T.heap ws; rw [eT]; exact KK, FF⟩, ⟨_, rfl⟩, hW, hsame.mono hk hn⟩
theorem gretN {t : FieldType} (B : Fix p Z s m meth c bytes maxL own nm (some t)) (X : St p l e R s m args below meth c h0 ws T h cells slots) {z z' : Int32} (ht : t = .boolean ∨ t = .byte ∨ t = .char ∨ t = .short) (hz : nar t z = z') (hd : decode bytes pc = .ok (.ireturn, 1)) (hk : cells ≤ K) (hn : slots ≤ N) (hQ : Q (some (.int z')) h) : Go p e below s K N h0 ws Q T (mkF m pc Ls (.int z :: st)) := by
  subst hz; obtain ⟨L0, X, eT, KK, FF⟩ := X; have hlk := B.2.2.2.2.2.2.2; have hrt := B.2.2.2.2.2.2.1
  obtain ⟨fs, hr, hrun, hended, hW, hsame⟩ := X.leave (v := some (.int (nar t z))) (fun h => by rw [hrt] at h; cases h) hlk
  exact ⟨_, _, retN X B.1 hrt ht (hb B.2.2.1 hd) hr, hrun, hended, _, _, rfl, ⟨by show Q _ T.heap; rw [eT]; exact hQ, by show Keep h0 T.heap ws; rw [eT]; exact KK, FF⟩, ⟨_, rfl⟩, hW, hsame.mono hk hn⟩
theorem gretL (B : Fix p Z s m meth c bytes maxL own nm (some .long)) (X : St p l e R s m args below meth c h0 ws T h cells slots) {z : Int64} (hd : decode bytes pc = .ok (.lreturn, 1)) (hk : cells ≤ K) (hn : slots ≤ N) (hQ : Q (some (.long z)) h) : Go p e below s K N h0 ws Q T (mkF m pc Ls (.long z :: st)) := by
  obtain ⟨L0, X, eT, KK, FF⟩ := X; have hlk := B.2.2.2.2.2.2.2; have hrt := B.2.2.2.2.2.2.1
  obtain ⟨fs, hr, hrun, hended, hW, hsame⟩ := X.leave (v := some (.long z)) (fun h => by rw [hrt] at h; cases h) hlk
  exact ⟨_, _, retOut X B.1 hrt rfl (Or.inr (Or.inl ⟨rfl, rfl, _, rfl⟩)) (hb B.2.2.1 hd) hr, hrun, hended, _, _, rfl, ⟨by show Q _ T.heap; rw [eT]; exact hQ, by show Keep h0 T.heap ws; rw [eT]; exact KK, FF⟩, ⟨_, rfl⟩, hW, hsame.mono hk hn⟩
theorem gretA {t : FieldType} (B : Fix p Z s m meth c bytes maxL own nm (some t)) (X : St p l e R s m args below meth c h0 ws T h cells slots) {a : Addr} (ht : t.isReference = true) (hnn : narrow t (.ref a) = .ref a) (hd : decode bytes pc = .ok (.areturn, 1)) (hk : cells ≤ K) (hn : slots ≤ N) (hQ : Q (some (.ref a)) h) : Go p e below s K N h0 ws Q T (mkF m pc Ls (.ref a :: st)) := by
  obtain ⟨L0, X, eT, KK, FF⟩ := X; have hlk := B.2.2.2.2.2.2.2; have hrt := B.2.2.2.2.2.2.1
  obtain ⟨fs, hr, hrun, hended, hW, hsame⟩ := X.leave (v := some (.ref a)) (fun h => by rw [hrt] at h; cases h) hlk
  exact ⟨_, _, retOut X B.1 hrt hnn (Or.inr (Or.inr (Or.inr (Or.inr ⟨rfl, ht, rfl⟩)))) (hb B.2.2.1 hd) hr, hrun, hended, _, _, rfl, ⟨by show Q _ T.heap; rw [eT]; exact hQ, by show Keep h0 T.heap ws; rw [eT]; exact KK, FF⟩, ⟨_, rfl⟩, hW, hsame.mono hk hn⟩
theorem gretV (B : Fix p Z s m meth c bytes maxL own nm none) (X : St p l e R s m args below meth c h0 ws T h cells slots)  (hd : decode bytes pc = .ok (.return_, 1)) (hk : cells ≤ K) (hn : slots ≤ N) (hQ : Q (none) h) : Go p e below s K N h0 ws Q T (mkF m pc Ls []) := by
  obtain ⟨L0, X, eT, KK, FF⟩ := X; have hlk := B.2.2.2.2.2.2.2; have hrt := B.2.2.2.2.2.2.1
  obtain ⟨fs, hr, hrun, hended, hW, hsame⟩ := X.leave (v := none) (fun h => rfl) hlk
  exact ⟨_, _, X.returnOut B.1 hrt (hb B.2.2.1 hd) hr, hrun, hended, _, _, rfl, ⟨by show Q _ T.heap; rw [eT]; exact hQ, by show Keep h0 T.heap ws; rw [eT]; exact KK, FF⟩, ⟨_, rfl⟩, hW, hsame.mono hk hn⟩
end Go
end Jvm.OwnKit
namespace Jvm.Pilot.@@N@@
open Jvm Jvm.ClassFile Sem Op Lib Jvm.Free Jvm.Stand Jvm.LawKit Jvm.RoadKit Jvm.OwnKit Bundle Jvm.Pilot.@@N@@.Jvm.D
theorem d1_0 : decode method_2_code 0 = .ok (.iload_n 0, 1) := by decide +kernel
theorem d1_1 : decode method_2_code 1 = .ok (.iconst 3, 1) := by decide +kernel
theorem d1_2 : decode method_2_code 2 = .ok (.iand, 1) := by decide +kernel
theorem d1_3 : decode method_2_code 3 = .ok (.istore_n 1, 1) := by decide +kernel
theorem d1_4 : decode method_2_code 4 = .ok (.iload_n 1, 1) := by decide +kernel
theorem d1_5 : decode method_2_code 5 = .ok (.ifCond .ne 6, 3) := by decide +kernel
theorem d1_8 : decode method_2_code 8 = .ok (.bipush 10, 2) := by decide +kernel
theorem d1_10 : decode method_2_code 10 = .ok (.ireturn, 1) := by decide +kernel
theorem d1_11 : decode method_2_code 11 = .ok (.iload_n 1, 1) := by decide +kernel
theorem d1_12 : decode method_2_code 12 = .ok (.iconst 1, 1) := by decide +kernel
theorem d1_13 : decode method_2_code 13 = .ok (.if_icmp .ne 6, 3) := by decide +kernel
theorem d1_16 : decode method_2_code 16 = .ok (.bipush 13, 2) := by decide +kernel
theorem d1_18 : decode method_2_code 18 = .ok (.ireturn, 1) := by decide +kernel
theorem d1_19 : decode method_2_code 19 = .ok (.iload_n 0, 1) := by decide +kernel
theorem d1_20 : decode method_2_code 20 = .ok (.iconst 2, 1) := by decide +kernel
theorem d1_21 : decode method_2_code 21 = .ok (.ishr, 1) := by decide +kernel
theorem d1_22 : decode method_2_code 22 = .ok (.i2b, 1) := by decide +kernel
theorem d1_23 : decode method_2_code 23 = .ok (.ireturn, 1) := by decide +kernel
theorem pn1 : plainFor (⟨"com/example/nabu/nabu/protocol/PlainFieldsLineEndPinLaw", "pick", "(I)B"⟩ : MethodName) = true := plainFor_of_name (by first | (simp [plainName, overriddenIn]; done) | decide +kernel)
theorem ef1_I (m : MethodId) (x0 : Int32) : entryFrame m #[(.int x0)] 2 = mkF m 0 #[.val (.int x0), .unset] [] := by first | (simp [entryFrame, mkF, argsToLocals, Value.category]; done) | rfl
def f1 (p0 : Int32) : Int32 := if (p0 &&& (3 : Int32)) = (0 : Int32) then (10 : Int32) else (if (p0 &&& (3 : Int32)) = (1 : Int32) then (13 : Int32) else ((p0 >>> ((2 : Int32) &&& 31)).toInt8.toInt32))
def rmr1 : Room := { frames := 0, cells := 0, slots := 0, locals := 0 }
set_option maxRecDepth 65536 in
set_option maxHeartbeats 4000000 in
theorem mt1 (l : Launch) (Z : State) (a0 : Array Value) (hw : ∀ d ∈ tables_1, d.before a0 Z = true) (p0 : Int32)  (h0 : Heap) : Meth l Z (⟨"com/example/nabu/nabu/protocol/PlainFieldsLineEndPinLaw", "pick", "(I)B"⟩ : MethodName) method_2_code 2 (some .byte) rmr1 #[(.int p0)] h0 [] (fun vr h' => vr = some (.int (f1 p0)) ∧ h' = h0) := by
  refine Meth.of pn1 ?_
  intro p e s m below meth c T B X
  refine Go.entry (ef1_I m p0) ?_
  refine giloadN B X d1_0 rfl (pc' := 1) rfl ?_
  refine giconst B X d1_1 (v := (3 : Int32)) rfl (pc' := 2) rfl ?_
  refine giand B X d1_2 rfl (pc' := 3) rfl ?_
  refine gistoreN B X d1_3 (Ls' := #[.val (.int p0), .val (.int (p0 &&& (3 : Int32)))]) rfl (pc' := 4) rfl ?_
  refine giloadN B X d1_4 rfl (pc' := 5) rfl ?_
  by_cases c5_1 : (p0 &&& (3 : Int32)) = (0 : Int32)
  · refine gifN B X d1_5 ((if0 _ _).trans (teq c5_1).2) (pc' := 8) rfl ?_
    refine gbipush B X d1_8 (v := (10 : Int32)) rfl (pc' := 10) rfl ?_
    exact gretN B X (z' := (10 : Int32)) (by simp) (rfl) d1_10 (by decide) (by decide) (⟨by rw [f1, if_pos c5_1], rfl⟩)
  · refine gifY B X (pc' := 11) d1_5 ((if0 _ _).trans (feq c5_1).2) (by decide) ?_
    refine giloadN B X d1_11 rfl (pc' := 12) rfl ?_
    refine giconst B X d1_12 (v := (1 : Int32)) rfl (pc' := 13) rfl ?_
    by_cases c13_2 : (p0 &&& (3 : Int32)) = (1 : Int32)
    · refine gicN B X d1_13 (teq c13_2).2 (pc' := 16) rfl ?_
      refine gbipush B X d1_16 (v := (13 : Int32)) rfl (pc' := 18) rfl ?_
      exact gretN B X (z' := (13 : Int32)) (by simp) (rfl) d1_18 (by decide) (by decide) (⟨by rw [f1, if_neg c5_1, if_pos c13_2], rfl⟩)
    · refine gicY B X (pc' := 19) d1_13 (feq c13_2).2 (by decide) ?_
      refine giloadN B X d1_19 rfl (pc' := 20) rfl ?_
      refine giconst B X d1_20 (v := (2 : Int32)) rfl (pc' := 21) rfl ?_
      refine gishr B X d1_21 rfl (pc' := 22) rfl ?_
      refine gi2b B X d1_22 rfl (pc' := 23) rfl ?_
      exact gretN B X (z' := (p0 >>> ((2 : Int32) &&& 31)).toInt8.toInt32) (by simp) ((nb _)) d1_23 (by decide) (by decide) (⟨by rw [f1, if_neg c5_1, if_neg c13_2], rfl⟩)
theorem d2_0 : decode prog_49_method_6_code 0 = .ok (.iconst (-1), 1) := by decide +kernel
theorem d2_1 : decode prog_49_method_6_code 1 = .ok (.istore_n 2, 1) := by decide +kernel
theorem d2_2 : decode prog_49_method_6_code 2 = .ok (.iload_n 1, 1) := by decide +kernel
theorem d2_3 : decode prog_49_method_6_code 3 = .ok (.ifCond .lt 18, 3) := by decide +kernel
theorem d2_6 : decode prog_49_method_6_code 6 = .ok (.aload_n 0, 1) := by decide +kernel
theorem d2_7 : decode prog_49_method_6_code 7 = .ok (.iload_n 1, 1) := by decide +kernel
theorem d2_8 : decode prog_49_method_6_code 8 = .ok (.baload, 1) := by decide +kernel
theorem d2_9 : decode prog_49_method_6_code 9 = .ok (.bipush 10, 2) := by decide +kernel
theorem d2_11 : decode prog_49_method_6_code 11 = .ok (.if_icmp .ne 10, 3) := by decide +kernel
theorem d2_14 : decode prog_49_method_6_code 14 = .ok (.iload_n 1, 1) := by decide +kernel
theorem d2_15 : decode prog_49_method_6_code 15 = .ok (.iconst 1, 1) := by decide +kernel
theorem d2_16 : decode prog_49_method_6_code 16 = .ok (.iadd, 1) := by decide +kernel
theorem d2_17 : decode prog_49_method_6_code 17 = .ok (.istore_n 2, 1) := by decide +kernel
theorem d2_18 : decode prog_49_method_6_code 18 = .ok (.goto 29, 3) := by decide +kernel
theorem d2_21 : decode prog_49_method_6_code 21 = .ok (.iload_n 1, 1) := by decide +kernel
theorem d2_22 : decode prog_49_method_6_code 22 = .ok (.ifCond .lt 25, 3) := by decide +kernel
theorem d2_25 : decode prog_49_method_6_code 25 = .ok (.aload_n 0, 1) := by decide +kernel
theorem d2_26 : decode prog_49_method_6_code 26 = .ok (.iload_n 1, 1) := by decide +kernel
theorem d2_27 : decode prog_49_method_6_code 27 = .ok (.baload, 1) := by decide +kernel
theorem d2_28 : decode prog_49_method_6_code 28 = .ok (.bipush 13, 2) := by decide +kernel
theorem d2_30 : decode prog_49_method_6_code 30 = .ok (.if_icmp .ne 17, 3) := by decide +kernel
theorem d2_33 : decode prog_49_method_6_code 33 = .ok (.aload_n 0, 1) := by decide +kernel
theorem d2_34 : decode prog_49_method_6_code 34 = .ok (.iload_n 1, 1) := by decide +kernel
theorem d2_35 : decode prog_49_method_6_code 35 = .ok (.iconst 1, 1) := by decide +kernel
theorem d2_36 : decode prog_49_method_6_code 36 = .ok (.iadd, 1) := by decide +kernel
theorem d2_37 : decode prog_49_method_6_code 37 = .ok (.baload, 1) := by decide +kernel
theorem d2_38 : decode prog_49_method_6_code 38 = .ok (.bipush 10, 2) := by decide +kernel
theorem d2_40 : decode prog_49_method_6_code 40 = .ok (.if_icmp .ne 7, 3) := by decide +kernel
theorem d2_43 : decode prog_49_method_6_code 43 = .ok (.iload_n 1, 1) := by decide +kernel
theorem d2_44 : decode prog_49_method_6_code 44 = .ok (.iconst 2, 1) := by decide +kernel
theorem d2_45 : decode prog_49_method_6_code 45 = .ok (.iadd, 1) := by decide +kernel
theorem d2_46 : decode prog_49_method_6_code 46 = .ok (.istore_n 2, 1) := by decide +kernel
theorem d2_47 : decode prog_49_method_6_code 47 = .ok (.iload_n 2, 1) := by decide +kernel
theorem d2_48 : decode prog_49_method_6_code 48 = .ok (.ireturn, 1) := by decide +kernel
theorem pn2 : plainFor (⟨"com/example/nabu/nabu/protocol/PlainFields", "lineEnd", "([BI)I"⟩ : MethodName) = true := plainFor_of_name (by first | (simp [plainName, overriddenIn]; done) | decide +kernel)
theorem ef2_RI (m : MethodId) (x0 : Addr) (x1 : Int32) : entryFrame m #[(.ref x0), (.int x1)] 3 = mkF m 0 #[.val (.ref x0), .val (.int x1), .unset] [] := by first | (simp [entryFrame, mkF, argsToLocals, Value.category]; done) | rfl
def f2 (k : Int32) (x : Int32) (y : Int32) : Int32 := if k < (0 : Int32) then (-1 : Int32) else (if x = (10 : Int32) then (k + (1 : Int32)) else (if x = (13 : Int32) then (if y = (10 : Int32) then (k + (2 : Int32)) else ((-1 : Int32))) else ((-1 : Int32))))
def rmr2 : Room := { frames := 0, cells := 0, slots := 0, locals := 0 }
set_option maxRecDepth 65536 in
set_option maxHeartbeats 4000000 in
theorem mt2 (l : Launch) (Z : State) (a0 : Array Value) (hw : ∀ d ∈ tables_1, d.before a0 Z = true) (a : Addr) (k : Int32) (vs : List Value) (x y : Int32) (n : Nat) (h0 : Heap) (F : VA Z h0 a .byte vs) (hn : vs.length = n) (h1 : ¬ k < (0 : Int32) → (0 ≤ k.toInt ∧ k.toInt < n) ∧ vs[k.toNatClampNeg]? = some (.int x)) (h2 : ¬ k < (0 : Int32) → x = (13 : Int32) → (0 ≤ (k + (1 : Int32)).toInt ∧ (k + (1 : Int32)).toInt < n) ∧ vs[(k + (1 : Int32)).toNatClampNeg]? = some (.int y)) : Meth l Z (⟨"com/example/nabu/nabu/protocol/PlainFields", "lineEnd", "([BI)I"⟩ : MethodName) prog_49_method_6_code 3 (some .int) rmr2 #[(.ref a), (.int k)] h0 [] (fun vr h' => vr = some (.int (f2 k x y)) ∧ h' = h0) := by
  refine Meth.of pn2 ?_
  intro p e s m below meth c T B X
  refine Go.entry (ef2_RI m a k) ?_
  refine giconst B X d2_0 (v := (-1 : Int32)) rfl (pc' := 1) rfl ?_
  refine gistoreN B X d2_1 (Ls' := #[.val (.ref a), .val (.int k), .val (.int (-1 : Int32))]) rfl (pc' := 2) rfl ?_
  refine giloadN B X d2_2 rfl (pc' := 3) rfl ?_
  by_cases c3_3 : k < (0 : Int32)
  · refine gifY B X (pc' := 21) d2_3 ((if0 _ _).trans (tlt c3_3).1) (by decide) ?_
    refine giloadN B X d2_21 rfl (pc' := 22) rfl ?_
    refine gifY B X (pc' := 47) d2_22 ((if0 _ _).trans (tlt c3_3).1) (by decide) ?_
    refine giloadN B X d2_47 rfl (pc' := 48) rfl ?_
    exact gretI B X d2_48 (by decide) (by decide) (⟨by rw [f2, if_pos c3_3], rfl⟩)
  · refine gifN B X d2_3 ((if0 _ _).trans (flt c3_3).1) (pc' := 6) rfl ?_
    refine galoadN B X d2_6 rfl rfl (pc' := 7) rfl ?_
    refine giloadN B X d2_7 rfl (pc' := 8) rfl ?_
    refine gbaload B X F hn (h1 c3_3).1 (v := (.int x)) ((h1 c3_3).2) d2_8 (pc' := 9) rfl ?_
    refine gbipush B X d2_9 (v := (10 : Int32)) rfl (pc' := 11) rfl ?_
    by_cases c11_4 : x = (10 : Int32)
    · refine gicN B X d2_11 (teq c11_4).2 (pc' := 14) rfl ?_
      refine giloadN B X d2_14 rfl (pc' := 15) rfl ?_
      refine giconst B X d2_15 (v := (1 : Int32)) rfl (pc' := 16) rfl ?_
      refine giadd B X d2_16 rfl (pc' := 17) rfl ?_
      refine gistoreN B X d2_17 (Ls' := #[.val (.ref a), .val (.int k), .val (.int (k + (1 : Int32)))]) rfl (pc' := 18) rfl ?_
      refine ggoto B X (pc' := 47) d2_18 (by decide) ?_
      refine giloadN B X d2_47 rfl (pc' := 48) rfl ?_
      exact gretI B X d2_48 (by decide) (by decide) (⟨by rw [f2, if_neg c3_3, if_pos c11_4], rfl⟩)
    · refine gicY B X (pc' := 21) d2_11 (feq c11_4).2 (by decide) ?_
      refine giloadN B X d2_21 rfl (pc' := 22) rfl ?_
      refine gifN B X d2_22 ((if0 _ _).trans (flt c3_3).1) (pc' := 25) rfl ?_
      refine galoadN B X d2_25 rfl rfl (pc' := 26) rfl ?_
      refine giloadN B X d2_26 rfl (pc' := 27) rfl ?_
      refine gbaload B X F hn (h1 c3_3).1 (v := (.int x)) ((h1 c3_3).2) d2_27 (pc' := 28) rfl ?_
      refine gbipush B X d2_28 (v := (13 : Int32)) rfl (pc' := 30) rfl ?_
      by_cases c30_5 : x = (13 : Int32)
      · refine gicN B X d2_30 (teq c30_5).2 (pc' := 33) rfl ?_
        refine galoadN B X d2_33 rfl rfl (pc' := 34) rfl ?_
        refine giloadN B X d2_34 rfl (pc' := 35) rfl ?_
        refine giconst B X d2_35 (v := (1 : Int32)) rfl (pc' := 36) rfl ?_
        refine giadd B X d2_36 rfl (pc' := 37) rfl ?_
        refine gbaload B X F hn (h2 c3_3 c30_5).1 (v := (.int y)) ((h2 c3_3 c30_5).2) d2_37 (pc' := 38) rfl ?_
        refine gbipush B X d2_38 (v := (10 : Int32)) rfl (pc' := 40) rfl ?_
        by_cases c40_6 : y = (10 : Int32)
        · refine gicN B X d2_40 (teq c40_6).2 (pc' := 43) rfl ?_
          refine giloadN B X d2_43 rfl (pc' := 44) rfl ?_
          refine giconst B X d2_44 (v := (2 : Int32)) rfl (pc' := 45) rfl ?_
          refine giadd B X d2_45 rfl (pc' := 46) rfl ?_
          refine gistoreN B X d2_46 (Ls' := #[.val (.ref a), .val (.int k), .val (.int (k + (2 : Int32)))]) rfl (pc' := 47) rfl ?_
          refine giloadN B X d2_47 rfl (pc' := 48) rfl ?_
          exact gretI B X d2_48 (by decide) (by decide) (⟨by rw [f2, if_neg c3_3, if_neg c11_4, if_pos c30_5, if_pos c40_6], rfl⟩)
        · refine gicY B X (pc' := 47) d2_40 (feq c40_6).2 (by decide) ?_
          refine giloadN B X d2_47 rfl (pc' := 48) rfl ?_
          exact gretI B X d2_48 (by decide) (by decide) (⟨by rw [f2, if_neg c3_3, if_neg c11_4, if_pos c30_5, if_neg c40_6], rfl⟩)
      · refine gicY B X (pc' := 47) d2_30 (feq c30_5).2 (by decide) ?_
        refine giloadN B X d2_47 rfl (pc' := 48) rfl ?_
        exact gretI B X d2_48 (by decide) (by decide) (⟨by rw [f2, if_neg c3_3, if_neg c11_4, if_neg c30_5], rfl⟩)
theorem own_line (k x y : Int32) (hk : ¬ k < 0) : (x = 10 ∧ f2 k x y = k + 1) ∨ (¬ x = 10 ∧ x = 13 ∧ y = 10 ∧ f2 k x y = k + 2) ∨ (¬ x = 10 ∧ ¬ (x = 13 ∧ y = 10) ∧ f2 k x y = -1) := by
  unfold f2
  rw [if_neg hk]
  by_cases h1 : x = 10
  · left; exact ⟨h1, by rw [if_pos h1]⟩
  · rw [if_neg h1]
    by_cases h2 : x = 13
    · rw [if_pos h2]
      by_cases h3 : y = 10
      · right; left; exact ⟨h1, h2, h3, by rw [if_pos h3]⟩
      · right; right; exact ⟨h1, fun q => h3 q.2, by rw [if_neg h3]⟩
    · right; right; exact ⟨h1, fun q => h2 q.1, by rw [if_neg h2]⟩
theorem own_neg (k x y : Int32) (hk : k < 0) : f2 k x y = -1 := by unfold f2; rw [if_pos hk]
theorem own_rem (x : Int32) (h : ¬ x < 0) : x % 4 = 0 ∨ x % 4 = 1 ∨ x % 4 = 2 ∨ x % 4 = 3 := by
  simp only [Int32.lt_iff_toInt_lt, Int32.reduceToInt] at h
  have h1 := (c_irem x 4 4 (by decide)).1 (by omega)
  simp only [← Int32.toInt_inj, h1, Int32.reduceToInt]; omega
theorem pn0 : plainFor (⟨"com/example/nabu/nabu/protocol/PlainFieldsLineEndPinLaw", "law", "(IIII)Z"⟩ : MethodName) = true := plainFor_of_name (by first | (simp [plainName, overriddenIn]; done) | decide +kernel)
theorem ef0_IIII (m : MethodId) (x0 : Int32) (x1 : Int32) (x2 : Int32) (x3 : Int32) : entryFrame m #[(.int x0), (.int x1), (.int x2), (.int x3)] 8 = mkF m 0 #[.val (.int x0), .val (.int x1), .val (.int x2), .val (.int x3), .unset, .unset, .unset, .unset] [] := by first | (simp [entryFrame, mkF, argsToLocals, Value.category]; done) | rfl
theorem pd__I_B : parseMethodDescriptor "(I)B" = some ⟨[.int], some .byte⟩ := by decide +kernel
theorem pd___BI_I : parseMethodDescriptor "([BI)I" = some ⟨[(.array .byte), .int], some .int⟩ := by decide +kernel
set_option maxRecDepth 65536 in
set_option maxHeartbeats 4000000 in
theorem mt0 (l : Launch) (Z : State) (a0 : Array Value) (hw : ∀ d ∈ tables_1, d.before a0 Z = true) (p0 : Int32) (p1 : Int32) (p2 : Int32) (p3 : Int32) (h0 : Heap) : Meth l Z x code maxLocals ret room_1 #[(.int p0), (.int p1), (.int p2), (.int p3)] h0 [] (fun v h' => v = some (.int 1)) := by
  refine Meth.of pn0 ?_
  intro p e s m below meth c T B X
  have B : Fix p Z s m meth c code 8 "com/example/nabu/nabu/protocol/PlainFieldsLineEndPinLaw" "law" (some .boolean) := B
  refine Go.entry (ef0_IIII m p0 p1 p2 p3) ?_
  refine giconst B X at_0 (v := (4 : Int32)) rfl (pc' := 1) rfl ?_
  refine gnewarray B X (cap := 4) (vs := [(.int (0 : Int32)), (.int (0 : Int32)), (.int (0 : Int32)), (.int (0 : Int32))]) (ty := .byte) rfl rfl (hw _ (List.mem_of_getElem? (i := 0) rfl)) (by decide) (by decide) (by decide) (by decide) (by decide) at_1 (pc' := 3) rfl fun T7 h8 a9 X10 q11 E12 z_a9 A13 => ?_
  refine gdup B X10 at_3 rfl (pc' := 4) rfl ?_
  refine giconst B X10 at_4 (v := (0 : Int32)) rfl (pc' := 5) rfl ?_
  refine giloadN B X10 at_5 rfl (pc' := 6) rfl ?_
  refine gcallS B X10 (hw _ (List.mem_of_getElem? (i := 1) rfl)) (hw _ (List.mem_of_getElem? (i := 2) rfl)) (hw _ (List.mem_of_getElem? (i := 3) rfl)) (hw _ (List.mem_of_getElem? (i := 4) rfl)) (by decide) (mt1 l Z a0 hw p0  h8 ) pd__I_B rfl (argsL := [(.int p0)]) (st := [(.int (0 : Int32)), (.ref a9), (.ref a9)]) rfl rfl (W := 3) (Nat.le_of_eq rfl) (by decide) (by decide) (by decide) (by decide) (fun x q => nomatch q) at_6 rfl (pureG rfl rfl fun T14 X15 => ?_)
  generalize e_b0 : (f1 p0) = b0
  refine gbastore B X15 (i := 0) (n := 4) A13 rfl (by decide) rfl (vs' := [(.int b0.toInt8.toInt32), (.int (0 : Int32)), (.int (0 : Int32)), (.int (0 : Int32))]) rfl (Or.inr z_a9) at_9 (pc' := 10) rfl fun T16 h17 X18 W19 A20 => ?_
  refine gdup B X18 at_10 rfl (pc' := 11) rfl ?_
  refine giconst B X18 at_11 (v := (1 : Int32)) rfl (pc' := 12) rfl ?_
  refine giloadN B X18 at_12 rfl (pc' := 13) rfl ?_
  refine gcallS B X18 (hw _ (List.mem_of_getElem? (i := 1) rfl)) (hw _ (List.mem_of_getElem? (i := 2) rfl)) (hw _ (List.mem_of_getElem? (i := 3) rfl)) (hw _ (List.mem_of_getElem? (i := 4) rfl)) (by decide) (mt1 l Z a0 hw p1  h17 ) pd__I_B rfl (argsL := [(.int p1)]) (st := [(.int (1 : Int32)), (.ref a9), (.ref a9)]) rfl rfl (W := 3) (Nat.le_of_eq rfl) (by decide) (by decide) (by decide) (by decide) (fun x q => nomatch q) at_13 rfl (pureG rfl rfl fun T21 X22 => ?_)
  generalize e_b1 : (f1 p1) = b1
  refine gbastore B X22 (i := 1) (n := 4) A20 rfl (by decide) rfl (vs' := [(.int b0.toInt8.toInt32), (.int b1.toInt8.toInt32), (.int (0 : Int32)), (.int (0 : Int32))]) rfl (Or.inr z_a9) at_16 (pc' := 17) rfl fun T23 h24 X25 W26 A27 => ?_
  refine gdup B X25 at_17 rfl (pc' := 18) rfl ?_
  refine giconst B X25 at_18 (v := (2 : Int32)) rfl (pc' := 19) rfl ?_
  refine giloadN B X25 at_19 rfl (pc' := 20) rfl ?_
  refine gcallS B X25 (hw _ (List.mem_of_getElem? (i := 1) rfl)) (hw _ (List.mem_of_getElem? (i := 2) rfl)) (hw _ (List.mem_of_getElem? (i := 3) rfl)) (hw _ (List.mem_of_getElem? (i := 4) rfl)) (by decide) (mt1 l Z a0 hw p2  h24 ) pd__I_B rfl (argsL := [(.int p2)]) (st := [(.int (2 : Int32)), (.ref a9), (.ref a9)]) rfl rfl (W := 3) (Nat.le_of_eq rfl) (by decide) (by decide) (by decide) (by decide) (fun x q => nomatch q) at_20 rfl (pureG rfl rfl fun T28 X29 => ?_)
  generalize e_b2 : (f1 p2) = b2
  refine gbastore B X29 (i := 2) (n := 4) A27 rfl (by decide) rfl (vs' := [(.int b0.toInt8.toInt32), (.int b1.toInt8.toInt32), (.int b2.toInt8.toInt32), (.int (0 : Int32))]) rfl (Or.inr z_a9) at_23 (pc' := 24) rfl fun T30 h31 X32 W33 A34 => ?_
  refine gdup B X32 at_24 rfl (pc' := 25) rfl ?_
  refine giconst B X32 at_25 (v := (3 : Int32)) rfl (pc' := 26) rfl ?_
  refine gbipush B X32 at_26 (v := (10 : Int32)) rfl (pc' := 28) rfl ?_
  refine gbastore B X32 (i := 3) (n := 4) A34 rfl (by decide) rfl (vs' := [(.int b0.toInt8.toInt32), (.int b1.toInt8.toInt32), (.int b2.toInt8.toInt32), (.int (10 : Int32))]) rfl (Or.inr z_a9) at_28 (pc' := 29) rfl fun T35 h36 X37 W38 A39 => ?_
  refine gastore B X37 at_29 rfl (Ls' := #[.val (.int p0), .val (.int p1), .val (.int p2), .val (.int p3), .val (.ref a9), .unset, .unset, .unset]) rfl (pc' := 31) rfl ?_
  refine giloadN B X37 at_31 rfl (pc' := 32) rfl ?_
  by_cases c32_40 : p3 < (0 : Int32)
  · refine gifN B X37 at_32 ((if0 _ _).trans (tlt c32_40).2.1) (pc' := 35) rfl ?_
    refine giloadN B X37 at_35 rfl (pc' := 36) rfl ?_
    refine ggoto B X37 (pc' := 42) at_36 (by decide) ?_
    refine gistore B X37 at_42 (Ls' := #[.val (.int p0), .val (.int p1), .val (.int p2), .val (.int p3), .val (.ref a9), .val (.int p3), .unset, .unset]) rfl (pc' := 44) rfl ?_
    refine gaload B X37 at_44 rfl rfl (pc' := 46) rfl ?_
    refine giload B X37 at_46 rfl (pc' := 48) rfl ?_
    refine gcallS B X37 (hw _ (List.mem_of_getElem? (i := 5) rfl)) (hw _ (List.mem_of_getElem? (i := 6) rfl)) (hw _ (List.mem_of_getElem? (i := 7) rfl)) (hw _ (List.mem_of_getElem? (i := 8) rfl)) (by decide) (mt2 l Z a0 hw a9 p3 [(.int b0.toInt8.toInt32), (.int b1.toInt8.toInt32), (.int b2.toInt8.toInt32), (.int (10 : Int32))] 0 0 4 h36 A39 rfl (fun q => absurd c32_40 q) (fun q => absurd c32_40 q)) pd___BI_I rfl (argsL := [(.ref a9), (.int p3)]) (st := []) rfl rfl (W := 0) (Nat.le_of_eq rfl) (by decide) (by decide) (by decide) (by decide) (fun x q => nomatch q) at_48 rfl (pureG rfl rfl fun T41 X42 => ?_)
    have e5 := own_neg p3 0 0 c32_40
    · rw [e5]
      refine gistore B X42 at_51 (Ls' := #[.val (.int p0), .val (.int p1), .val (.int p2), .val (.int p3), .val (.ref a9), .val (.int p3), .val (.int (-1 : Int32)), .unset]) rfl (pc' := 53) rfl ?_
      refine giload B X42 at_53 rfl (pc' := 55) rfl ?_
      refine gifN B X42 at_55 ((if0 _ _).trans (tlt c32_40).2.1) (pc' := 58) rfl ?_
      refine giload B X42 at_58 rfl (pc' := 60) rfl ?_
      refine giconst B X42 at_60 (v := (-1 : Int32)) rfl (pc' := 61) rfl ?_
      have c61_43 : (-1 : Int32) = (-1 : Int32) := (by decide)
      refine gicN B X42 at_61 (teq c61_43).2 (pc' := 64) rfl ?_
      refine giconst B X42 at_64 (v := (1 : Int32)) rfl (pc' := 65) rfl ?_
      refine ggoto B X42 (pc' := 69) at_65 (by decide) ?_
      exact gretN B X42 (z' := (1 : Int32)) (by simp) (rfl) at_69 (by decide) (by decide) (rfl)
  · refine gifY B X37 (pc' := 39) at_32 ((if0 _ _).trans (flt c32_40).2.1) (by decide) ?_
    refine giloadN B X37 at_39 rfl (pc' := 40) rfl ?_
    refine giconst B X37 at_40 (v := (4 : Int32)) rfl (pc' := 41) rfl ?_
    refine girem B X37 at_41 (by decide) rfl (pc' := 42) rfl ?_
    rcases own_rem p3 c32_40 with e4 | e4 | e4 | e4
    · rw [e4]
      refine gistore B X37 at_42 (Ls' := #[.val (.int p0), .val (.int p1), .val (.int p2), .val (.int p3), .val (.ref a9), .val (.int (0 : Int32)), .unset, .unset]) rfl (pc' := 44) rfl ?_
      refine gaload B X37 at_44 rfl rfl (pc' := 46) rfl ?_
      refine giload B X37 at_46 rfl (pc' := 48) rfl ?_
      refine gcallS B X37 (hw _ (List.mem_of_getElem? (i := 5) rfl)) (hw _ (List.mem_of_getElem? (i := 6) rfl)) (hw _ (List.mem_of_getElem? (i := 7) rfl)) (hw _ (List.mem_of_getElem? (i := 8) rfl)) (by decide) (mt2 l Z a0 hw a9 (0 : Int32) [(.int b0.toInt8.toInt32), (.int b1.toInt8.toInt32), (.int b2.toInt8.toInt32), (.int (10 : Int32))] b0.toInt8.toInt32 b1.toInt8.toInt32 4 h36 A39 rfl (fun _ => ⟨by decide, rfl⟩) (fun _ _ => ⟨by decide, rfl⟩)) pd___BI_I rfl (argsL := [(.ref a9), (.int (0 : Int32))]) (st := []) rfl rfl (W := 0) (Nat.le_of_eq rfl) (by decide) (by decide) (by decide) (by decide) (fun x q => nomatch q) at_48 rfl (pureG rfl rfl fun T44 X45 => ?_)
      rcases own_line (0 : Int32) b0.toInt8.toInt32 b1.toInt8.toInt32 (by decide) with ⟨q1, q2⟩ | ⟨q1, q2, q3, q4⟩ | ⟨q1, q2, q3⟩
      · have e5 : (f2 (0 : Int32) b0.toInt8.toInt32 b1.toInt8.toInt32) = (1 : Int32) := q2
        rw [e5]
        refine gistore B X45 at_51 (Ls' := #[.val (.int p0), .val (.int p1), .val (.int p2), .val (.int p3), .val (.ref a9), .val (.int (0 : Int32)), .val (.int (1 : Int32)), .unset]) rfl (pc' := 53) rfl ?_
        refine giload B X45 at_53 rfl (pc' := 55) rfl ?_
        have c55_46 : ¬ ((0 : Int32) < (0 : Int32)) := (by decide)
        refine gifY B X45 (pc' := 70) at_55 ((if0 _ _).trans (flt c55_46).2.1) (by decide) ?_
        refine giload B X45 at_70 rfl (pc' := 72) rfl ?_
        refine giconst B X45 at_72 (v := (-1 : Int32)) rfl (pc' := 73) rfl ?_
        have c73_47 : ¬ ((1 : Int32) = (-1 : Int32)) := (by decide)
        refine gicY B X45 (pc' := 114) at_73 (feq c73_47).2 (by decide) ?_
        refine giload B X45 at_114 rfl (pc' := 116) rfl ?_
        refine giload B X45 at_116 rfl (pc' := 118) rfl ?_
        refine gisub B X45 at_118 (v := (1 : Int32)) (by decide) (pc' := 119) rfl ?_
        refine gistore B X45 at_119 (Ls' := #[.val (.int p0), .val (.int p1), .val (.int p2), .val (.int p3), .val (.ref a9), .val (.int (0 : Int32)), .val (.int (1 : Int32)), .val (.int (1 : Int32))]) rfl (pc' := 121) rfl ?_
        refine giload B X45 at_121 rfl (pc' := 123) rfl ?_
        refine giconst B X45 at_123 (v := (1 : Int32)) rfl (pc' := 124) rfl ?_
        have c124_48 : ¬ ((1 : Int32) < (1 : Int32)) := (by decide)
        refine gicN B X45 at_124 (flt c124_48).1 (pc' := 127) rfl ?_
        refine giload B X45 at_127 rfl (pc' := 129) rfl ?_
        refine giconst B X45 at_129 (v := (2 : Int32)) rfl (pc' := 130) rfl ?_
        have c130_49 : ¬ ((2 : Int32) < (1 : Int32)) := (by decide)
        refine gicN B X45 at_130 (flt c130_49).2.2.1 (pc' := 133) rfl ?_
        refine giload B X45 at_133 rfl (pc' := 135) rfl ?_
        refine gaload B X45 at_135 rfl rfl (pc' := 137) rfl ?_
        refine glength B X45 (n := (4 : Int32)) A39 (k := 4) rfl (by decide) at_137 (pc' := 138) rfl ?_
        have c138_50 : ¬ ((4 : Int32) < (1 : Int32)) := (by decide)
        refine gicY B X45 (pc' := 143) at_138 (flt c138_50).2.2.2 (by decide) ?_
        refine gaload B X45 at_143 rfl rfl (pc' := 145) rfl ?_
        refine giload B X45 at_145 rfl (pc' := 147) rfl ?_
        refine giconst B X45 at_147 (v := (1 : Int32)) rfl (pc' := 148) rfl ?_
        refine gisub B X45 at_148 (v := (0 : Int32)) (by decide) (pc' := 149) rfl ?_
        refine gbaload B X45 (n := 4) A39 rfl (by decide) (v := (.int b0.toInt8.toInt32)) rfl at_149 (pc' := 150) rfl ?_
        refine gbipush B X45 at_150 (v := (10 : Int32)) rfl (pc' := 152) rfl ?_
        refine gicN B X45 at_152 (teq q1).2 (pc' := 155) rfl ?_
        refine giload B X45 at_155 rfl (pc' := 157) rfl ?_
        refine giconst B X45 at_157 (v := (1 : Int32)) rfl (pc' := 158) rfl ?_
        have c158_51 : (1 : Int32) = (1 : Int32) := (by decide)
        refine gicY B X45 (pc' := 171) at_158 (teq c158_51).1 (by decide) ?_
        refine giconst B X45 at_171 (v := (1 : Int32)) rfl (pc' := 172) rfl ?_
        refine ggoto B X45 (pc' := 176) at_172 (by decide) ?_
        exact gretN B X45 (z' := (1 : Int32)) (by simp) (rfl) at_176 (by decide) (by decide) (rfl)
      · have e5 : (f2 (0 : Int32) b0.toInt8.toInt32 b1.toInt8.toInt32) = (2 : Int32) := q4
        rw [e5]
        refine gistore B X45 at_51 (Ls' := #[.val (.int p0), .val (.int p1), .val (.int p2), .val (.int p3), .val (.ref a9), .val (.int (0 : Int32)), .val (.int (2 : Int32)), .unset]) rfl (pc' := 53) rfl ?_
        refine giload B X45 at_53 rfl (pc' := 55) rfl ?_
        have c55_52 : ¬ ((0 : Int32) < (0 : Int32)) := (by decide)
        refine gifY B X45 (pc' := 70) at_55 ((if0 _ _).trans (flt c55_52).2.1) (by decide) ?_
        refine giload B X45 at_70 rfl (pc' := 72) rfl ?_
        refine giconst B X45 at_72 (v := (-1 : Int32)) rfl (pc' := 73) rfl ?_
        have c73_53 : ¬ ((2 : Int32) = (-1 : Int32)) := (by decide)
        refine gicY B X45 (pc' := 114) at_73 (feq c73_53).2 (by decide) ?_
        refine giload B X45 at_114 rfl (pc' := 116) rfl ?_
        refine giload B X45 at_116 rfl (pc' := 118) rfl ?_
        refine gisub B X45 at_118 (v := (2 : Int32)) (by decide) (pc' := 119) rfl ?_
        refine gistore B X45 at_119 (Ls' := #[.val (.int p0), .val (.int p1), .val (.int p2), .val (.int p3), .val (.ref a9), .val (.int (0 : Int32)), .val (.int (2 : Int32)), .val (.int (2 : Int32))]) rfl (pc' := 121) rfl ?_
        refine giload B X45 at_121 rfl (pc' := 123) rfl ?_
        refine giconst B X45 at_123 (v := (1 : Int32)) rfl (pc' := 124) rfl ?_
        have c124_54 : ¬ ((2 : Int32) < (1 : Int32)) := (by decide)
        refine gicN B X45 at_124 (flt c124_54).1 (pc' := 127) rfl ?_
        refine giload B X45 at_127 rfl (pc' := 129) rfl ?_
        refine giconst B X45 at_129 (v := (2 : Int32)) rfl (pc' := 130) rfl ?_
        have c130_55 : ¬ ((2 : Int32) < (2 : Int32)) := (by decide)
        refine gicN B X45 at_130 (flt c130_55).2.2.1 (pc' := 133) rfl ?_
        refine giload B X45 at_133 rfl (pc' := 135) rfl ?_
        refine gaload B X45 at_135 rfl rfl (pc' := 137) rfl ?_
        refine glength B X45 (n := (4 : Int32)) A39 (k := 4) rfl (by decide) at_137 (pc' := 138) rfl ?_
        have c138_56 : ¬ ((4 : Int32) < (2 : Int32)) := (by decide)
        refine gicY B X45 (pc' := 143) at_138 (flt c138_56).2.2.2 (by decide) ?_
        refine gaload B X45 at_143 rfl rfl (pc' := 145) rfl ?_
        refine giload B X45 at_145 rfl (pc' := 147) rfl ?_
        refine giconst B X45 at_147 (v := (1 : Int32)) rfl (pc' := 148) rfl ?_
        refine gisub B X45 at_148 (v := (1 : Int32)) (by decide) (pc' := 149) rfl ?_
        refine gbaload B X45 (n := 4) A39 rfl (by decide) (v := (.int b1.toInt8.toInt32)) rfl at_149 (pc' := 150) rfl ?_
        refine gbipush B X45 at_150 (v := (10 : Int32)) rfl (pc' := 152) rfl ?_
        refine gicN B X45 at_152 (teq q3).2 (pc' := 155) rfl ?_
        refine giload B X45 at_155 rfl (pc' := 157) rfl ?_
        refine giconst B X45 at_157 (v := (1 : Int32)) rfl (pc' := 158) rfl ?_
        have c158_57 : ¬ ((2 : Int32) = (1 : Int32)) := (by decide)
        refine gicN B X45 at_158 (feq c158_57).1 (pc' := 161) rfl ?_
        refine gaload B X45 at_161 rfl rfl (pc' := 163) rfl ?_
        refine giload B X45 at_163 rfl (pc' := 165) rfl ?_
        refine gbaload B X45 (n := 4) A39 rfl (by decide) (v := (.int b0.toInt8.toInt32)) rfl at_165 (pc' := 166) rfl ?_
        refine gbipush B X45 at_166 (v := (13 : Int32)) rfl (pc' := 168) rfl ?_
        refine gicN B X45 at_168 (teq q2).2 (pc' := 171) rfl ?_
        refine giconst B X45 at_171 (v := (1 : Int32)) rfl (pc' := 172) rfl ?_
        refine ggoto B X45 (pc' := 176) at_172 (by decide) ?_
        exact gretN B X45 (z' := (1 : Int32)) (by simp) (rfl) at_176 (by decide) (by decide) (rfl)
      · rw [q3]
        refine gistore B X45 at_51 (Ls' := #[.val (.int p0), .val (.int p1), .val (.int p2), .val (.int p3), .val (.ref a9), .val (.int (0 : Int32)), .val (.int (-1 : Int32)), .unset]) rfl (pc' := 53) rfl ?_
        refine giload B X45 at_53 rfl (pc' := 55) rfl ?_
        have c55_58 : ¬ ((0 : Int32) < (0 : Int32)) := (by decide)
        refine gifY B X45 (pc' := 70) at_55 ((if0 _ _).trans (flt c55_58).2.1) (by decide) ?_
        refine giload B X45 at_70 rfl (pc' := 72) rfl ?_
        refine giconst B X45 at_72 (v := (-1 : Int32)) rfl (pc' := 73) rfl ?_
        have c73_59 : (-1 : Int32) = (-1 : Int32) := (by decide)
        refine gicN B X45 at_73 (teq c73_59).2 (pc' := 76) rfl ?_
        refine gaload B X45 at_76 rfl rfl (pc' := 78) rfl ?_
        refine giload B X45 at_78 rfl (pc' := 80) rfl ?_
        refine gbaload B X45 (n := 4) A39 rfl (by decide) (v := (.int b0.toInt8.toInt32)) rfl at_80 (pc' := 81) rfl ?_
        refine gbipush B X45 at_81 (v := (10 : Int32)) rfl (pc' := 83) rfl ?_
        refine gicY B X45 (pc' := 88) at_83 (feq q1).2 (by decide) ?_
        refine gaload B X45 at_88 rfl rfl (pc' := 90) rfl ?_
        refine giload B X45 at_90 rfl (pc' := 92) rfl ?_
        refine gbaload B X45 (n := 4) A39 rfl (by decide) (v := (.int b0.toInt8.toInt32)) rfl at_92 (pc' := 93) rfl ?_
        refine gbipush B X45 at_93 (v := (13 : Int32)) rfl (pc' := 95) rfl ?_
        by_cases c95_60 : b0.toInt8.toInt32 = (13 : Int32)
        · refine gicN B X45 at_95 (teq c95_60).2 (pc' := 98) rfl ?_
          refine gaload B X45 at_98 rfl rfl (pc' := 100) rfl ?_
          refine giload B X45 at_100 rfl (pc' := 102) rfl ?_
          refine giconst B X45 at_102 (v := (1 : Int32)) rfl (pc' := 103) rfl ?_
          refine giadd B X45 at_103 (v := (1 : Int32)) (by decide) (pc' := 104) rfl ?_
          refine gbaload B X45 (n := 4) A39 rfl (by decide) (v := (.int b1.toInt8.toInt32)) rfl at_104 (pc' := 105) rfl ?_
          refine gbipush B X45 at_105 (v := (10 : Int32)) rfl (pc' := 107) rfl ?_
          have c107_61 : ¬ (b1.toInt8.toInt32 = (10 : Int32)) := fun q => q2 ⟨c95_60, q⟩
          refine gicY B X45 (pc' := 112) at_107 (feq c107_61).2 (by decide) ?_
          refine giconst B X45 at_112 (v := (1 : Int32)) rfl (pc' := 113) rfl ?_
          exact gretN B X45 (z' := (1 : Int32)) (by simp) (rfl) at_113 (by decide) (by decide) (rfl)
        · refine gicY B X45 (pc' := 112) at_95 (feq c95_60).2 (by decide) ?_
          refine giconst B X45 at_112 (v := (1 : Int32)) rfl (pc' := 113) rfl ?_
          exact gretN B X45 (z' := (1 : Int32)) (by simp) (rfl) at_113 (by decide) (by decide) (rfl)
    · rw [e4]
      refine gistore B X37 at_42 (Ls' := #[.val (.int p0), .val (.int p1), .val (.int p2), .val (.int p3), .val (.ref a9), .val (.int (1 : Int32)), .unset, .unset]) rfl (pc' := 44) rfl ?_
      refine gaload B X37 at_44 rfl rfl (pc' := 46) rfl ?_
      refine giload B X37 at_46 rfl (pc' := 48) rfl ?_
      refine gcallS B X37 (hw _ (List.mem_of_getElem? (i := 5) rfl)) (hw _ (List.mem_of_getElem? (i := 6) rfl)) (hw _ (List.mem_of_getElem? (i := 7) rfl)) (hw _ (List.mem_of_getElem? (i := 8) rfl)) (by decide) (mt2 l Z a0 hw a9 (1 : Int32) [(.int b0.toInt8.toInt32), (.int b1.toInt8.toInt32), (.int b2.toInt8.toInt32), (.int (10 : Int32))] b1.toInt8.toInt32 b2.toInt8.toInt32 4 h36 A39 rfl (fun _ => ⟨by decide, rfl⟩) (fun _ _ => ⟨by decide, rfl⟩)) pd___BI_I rfl (argsL := [(.ref a9), (.int (1 : Int32))]) (st := []) rfl rfl (W := 0) (Nat.le_of_eq rfl) (by decide) (by decide) (by decide) (by decide) (fun x q => nomatch q) at_48 rfl (pureG rfl rfl fun T62 X63 => ?_)
      rcases own_line (1 : Int32) b1.toInt8.toInt32 b2.toInt8.toInt32 (by decide) with ⟨q1, q2⟩ | ⟨q1, q2, q3, q4⟩ | ⟨q1, q2, q3⟩
      · have e5 : (f2 (1 : Int32) b1.toInt8.toInt32 b2.toInt8.toInt32) = (2 : Int32) := q2
        rw [e5]
        refine gistore B X63 at_51 (Ls' := #[.val (.int p0), .val (.int p1), .val (.int p2), .val (.int p3), .val (.ref a9), .val (.int (1 : Int32)), .val (.int (2 : Int32)), .unset]) rfl (pc' := 53) rfl ?_
        refine giload B X63 at_53 rfl (pc' := 55) rfl ?_
        have c55_64 : ¬ ((1 : Int32) < (0 : Int32)) := (by decide)
        refine gifY B X63 (pc' := 70) at_55 ((if0 _ _).trans (flt c55_64).2.1) (by decide) ?_
        refine giload B X63 at_70 rfl (pc' := 72) rfl ?_
        refine giconst B X63 at_72 (v := (-1 : Int32)) rfl (pc' := 73) rfl ?_
        have c73_65 : ¬ ((2 : Int32) = (-1 : Int32)) := (by decide)
        refine gicY B X63 (pc' := 114) at_73 (feq c73_65).2 (by decide) ?_
        refine giload B X63 at_114 rfl (pc' := 116) rfl ?_
        refine giload B X63 at_116 rfl (pc' := 118) rfl ?_
        refine gisub B X63 at_118 (v := (1 : Int32)) (by decide) (pc' := 119) rfl ?_
        refine gistore B X63 at_119 (Ls' := #[.val (.int p0), .val (.int p1), .val (.int p2), .val (.int p3), .val (.ref a9), .val (.int (1 : Int32)), .val (.int (2 : Int32)), .val (.int (1 : Int32))]) rfl (pc' := 121) rfl ?_
        refine giload B X63 at_121 rfl (pc' := 123) rfl ?_
        refine giconst B X63 at_123 (v := (1 : Int32)) rfl (pc' := 124) rfl ?_
        have c124_66 : ¬ ((1 : Int32) < (1 : Int32)) := (by decide)
        refine gicN B X63 at_124 (flt c124_66).1 (pc' := 127) rfl ?_
        refine giload B X63 at_127 rfl (pc' := 129) rfl ?_
        refine giconst B X63 at_129 (v := (2 : Int32)) rfl (pc' := 130) rfl ?_
        have c130_67 : ¬ ((2 : Int32) < (1 : Int32)) := (by decide)
        refine gicN B X63 at_130 (flt c130_67).2.2.1 (pc' := 133) rfl ?_
        refine giload B X63 at_133 rfl (pc' := 135) rfl ?_
        refine gaload B X63 at_135 rfl rfl (pc' := 137) rfl ?_
        refine glength B X63 (n := (4 : Int32)) A39 (k := 4) rfl (by decide) at_137 (pc' := 138) rfl ?_
        have c138_68 : ¬ ((4 : Int32) < (2 : Int32)) := (by decide)
        refine gicY B X63 (pc' := 143) at_138 (flt c138_68).2.2.2 (by decide) ?_
        refine gaload B X63 at_143 rfl rfl (pc' := 145) rfl ?_
        refine giload B X63 at_145 rfl (pc' := 147) rfl ?_
        refine giconst B X63 at_147 (v := (1 : Int32)) rfl (pc' := 148) rfl ?_
        refine gisub B X63 at_148 (v := (1 : Int32)) (by decide) (pc' := 149) rfl ?_
        refine gbaload B X63 (n := 4) A39 rfl (by decide) (v := (.int b1.toInt8.toInt32)) rfl at_149 (pc' := 150) rfl ?_
        refine gbipush B X63 at_150 (v := (10 : Int32)) rfl (pc' := 152) rfl ?_
        refine gicN B X63 at_152 (teq q1).2 (pc' := 155) rfl ?_
        refine giload B X63 at_155 rfl (pc' := 157) rfl ?_
        refine giconst B X63 at_157 (v := (1 : Int32)) rfl (pc' := 158) rfl ?_
        have c158_69 : (1 : Int32) = (1 : Int32) := (by decide)
        refine gicY B X63 (pc' := 171) at_158 (teq c158_69).1 (by decide) ?_
        refine giconst B X63 at_171 (v := (1 : Int32)) rfl (pc' := 172) rfl ?_
        refine ggoto B X63 (pc' := 176) at_172 (by decide) ?_
        exact gretN B X63 (z' := (1 : Int32)) (by simp) (rfl) at_176 (by decide) (by decide) (rfl)
      · have e5 : (f2 (1 : Int32) b1.toInt8.toInt32 b2.toInt8.toInt32) = (3 : Int32) := q4
        rw [e5]
        refine gistore B X63 at_51 (Ls' := #[.val (.int p0), .val (.int p1), .val (.int p2), .val (.int p3), .val (.ref a9), .val (.int (1 : Int32)), .val (.int (3 : Int32)), .unset]) rfl (pc' := 53) rfl ?_
        refine giload B X63 at_53 rfl (pc' := 55) rfl ?_
        have c55_70 : ¬ ((1 : Int32) < (0 : Int32)) := (by decide)
        refine gifY B X63 (pc' := 70) at_55 ((if0 _ _).trans (flt c55_70).2.1) (by decide) ?_
        refine giload B X63 at_70 rfl (pc' := 72) rfl ?_
        refine giconst B X63 at_72 (v := (-1 : Int32)) rfl (pc' := 73) rfl ?_
        have c73_71 : ¬ ((3 : Int32) = (-1 : Int32)) := (by decide)
        refine gicY B X63 (pc' := 114) at_73 (feq c73_71).2 (by decide) ?_
        refine giload B X63 at_114 rfl (pc' := 116) rfl ?_
        refine giload B X63 at_116 rfl (pc' := 118) rfl ?_
        refine gisub B X63 at_118 (v := (2 : Int32)) (by decide) (pc' := 119) rfl ?_
        refine gistore B X63 at_119 (Ls' := #[.val (.int p0), .val (.int p1), .val (.int p2), .val (.int p3), .val (.ref a9), .val (.int (1 : Int32)), .val (.int (3 : Int32)), .val (.int (2 : Int32))]) rfl (pc' := 121) rfl ?_
        refine giload B X63 at_121 rfl (pc' := 123) rfl ?_
        refine giconst B X63 at_123 (v := (1 : Int32)) rfl (pc' := 124) rfl ?_
        have c124_72 : ¬ ((2 : Int32) < (1 : Int32)) := (by decide)
        refine gicN B X63 at_124 (flt c124_72).1 (pc' := 127) rfl ?_
        refine giload B X63 at_127 rfl (pc' := 129) rfl ?_
        refine giconst B X63 at_129 (v := (2 : Int32)) rfl (pc' := 130) rfl ?_
        have c130_73 : ¬ ((2 : Int32) < (2 : Int32)) := (by decide)
        refine gicN B X63 at_130 (flt c130_73).2.2.1 (pc' := 133) rfl ?_
        refine giload B X63 at_133 rfl (pc' := 135) rfl ?_
        refine gaload B X63 at_135 rfl rfl (pc' := 137) rfl ?_
        refine glength B X63 (n := (4 : Int32)) A39 (k := 4) rfl (by decide) at_137 (pc' := 138) rfl ?_
        have c138_74 : ¬ ((4 : Int32) < (3 : Int32)) := (by decide)
        refine gicY B X63 (pc' := 143) at_138 (flt c138_74).2.2.2 (by decide) ?_
        refine gaload B X63 at_143 rfl rfl (pc' := 145) rfl ?_
        refine giload B X63 at_145 rfl (pc' := 147) rfl ?_
        refine giconst B X63 at_147 (v := (1 : Int32)) rfl (pc' := 148) rfl ?_
        refine gisub B X63 at_148 (v := (2 : Int32)) (by decide) (pc' := 149) rfl ?_
        refine gbaload B X63 (n := 4) A39 rfl (by decide) (v := (.int b2.toInt8.toInt32)) rfl at_149 (pc' := 150) rfl ?_
        refine gbipush B X63 at_150 (v := (10 : Int32)) rfl (pc' := 152) rfl ?_
        refine gicN B X63 at_152 (teq q3).2 (pc' := 155) rfl ?_
        refine giload B X63 at_155 rfl (pc' := 157) rfl ?_
        refine giconst B X63 at_157 (v := (1 : Int32)) rfl (pc' := 158) rfl ?_
        have c158_75 : ¬ ((2 : Int32) = (1 : Int32)) := (by decide)
        refine gicN B X63 at_158 (feq c158_75).1 (pc' := 161) rfl ?_
        refine gaload B X63 at_161 rfl rfl (pc' := 163) rfl ?_
        refine giload B X63 at_163 rfl (pc' := 165) rfl ?_
        refine gbaload B X63 (n := 4) A39 rfl (by decide) (v := (.int b1.toInt8.toInt32)) rfl at_165 (pc' := 166) rfl ?_
        refine gbipush B X63 at_166 (v := (13 : Int32)) rfl (pc' := 168) rfl ?_
        refine gicN B X63 at_168 (teq q2).2 (pc' := 171) rfl ?_
        refine giconst B X63 at_171 (v := (1 : Int32)) rfl (pc' := 172) rfl ?_
        refine ggoto B X63 (pc' := 176) at_172 (by decide) ?_
        exact gretN B X63 (z' := (1 : Int32)) (by simp) (rfl) at_176 (by decide) (by decide) (rfl)
      · rw [q3]
        refine gistore B X63 at_51 (Ls' := #[.val (.int p0), .val (.int p1), .val (.int p2), .val (.int p3), .val (.ref a9), .val (.int (1 : Int32)), .val (.int (-1 : Int32)), .unset]) rfl (pc' := 53) rfl ?_
        refine giload B X63 at_53 rfl (pc' := 55) rfl ?_
        have c55_76 : ¬ ((1 : Int32) < (0 : Int32)) := (by decide)
        refine gifY B X63 (pc' := 70) at_55 ((if0 _ _).trans (flt c55_76).2.1) (by decide) ?_
        refine giload B X63 at_70 rfl (pc' := 72) rfl ?_
        refine giconst B X63 at_72 (v := (-1 : Int32)) rfl (pc' := 73) rfl ?_
        have c73_77 : (-1 : Int32) = (-1 : Int32) := (by decide)
        refine gicN B X63 at_73 (teq c73_77).2 (pc' := 76) rfl ?_
        refine gaload B X63 at_76 rfl rfl (pc' := 78) rfl ?_
        refine giload B X63 at_78 rfl (pc' := 80) rfl ?_
        refine gbaload B X63 (n := 4) A39 rfl (by decide) (v := (.int b1.toInt8.toInt32)) rfl at_80 (pc' := 81) rfl ?_
        refine gbipush B X63 at_81 (v := (10 : Int32)) rfl (pc' := 83) rfl ?_
        refine gicY B X63 (pc' := 88) at_83 (feq q1).2 (by decide) ?_
        refine gaload B X63 at_88 rfl rfl (pc' := 90) rfl ?_
        refine giload B X63 at_90 rfl (pc' := 92) rfl ?_
        refine gbaload B X63 (n := 4) A39 rfl (by decide) (v := (.int b1.toInt8.toInt32)) rfl at_92 (pc' := 93) rfl ?_
        refine gbipush B X63 at_93 (v := (13 : Int32)) rfl (pc' := 95) rfl ?_
        by_cases c95_78 : b1.toInt8.toInt32 = (13 : Int32)
        · refine gicN B X63 at_95 (teq c95_78).2 (pc' := 98) rfl ?_
          refine gaload B X63 at_98 rfl rfl (pc' := 100) rfl ?_
          refine giload B X63 at_100 rfl (pc' := 102) rfl ?_
          refine giconst B X63 at_102 (v := (1 : Int32)) rfl (pc' := 103) rfl ?_
          refine giadd B X63 at_103 (v := (2 : Int32)) (by decide) (pc' := 104) rfl ?_
          refine gbaload B X63 (n := 4) A39 rfl (by decide) (v := (.int b2.toInt8.toInt32)) rfl at_104 (pc' := 105) rfl ?_
          refine gbipush B X63 at_105 (v := (10 : Int32)) rfl (pc' := 107) rfl ?_
          have c107_79 : ¬ (b2.toInt8.toInt32 = (10 : Int32)) := fun q => q2 ⟨c95_78, q⟩
          refine gicY B X63 (pc' := 112) at_107 (feq c107_79).2 (by decide) ?_
          refine giconst B X63 at_112 (v := (1 : Int32)) rfl (pc' := 113) rfl ?_
          exact gretN B X63 (z' := (1 : Int32)) (by simp) (rfl) at_113 (by decide) (by decide) (rfl)
        · refine gicY B X63 (pc' := 112) at_95 (feq c95_78).2 (by decide) ?_
          refine giconst B X63 at_112 (v := (1 : Int32)) rfl (pc' := 113) rfl ?_
          exact gretN B X63 (z' := (1 : Int32)) (by simp) (rfl) at_113 (by decide) (by decide) (rfl)
    · rw [e4]
      refine gistore B X37 at_42 (Ls' := #[.val (.int p0), .val (.int p1), .val (.int p2), .val (.int p3), .val (.ref a9), .val (.int (2 : Int32)), .unset, .unset]) rfl (pc' := 44) rfl ?_
      refine gaload B X37 at_44 rfl rfl (pc' := 46) rfl ?_
      refine giload B X37 at_46 rfl (pc' := 48) rfl ?_
      refine gcallS B X37 (hw _ (List.mem_of_getElem? (i := 5) rfl)) (hw _ (List.mem_of_getElem? (i := 6) rfl)) (hw _ (List.mem_of_getElem? (i := 7) rfl)) (hw _ (List.mem_of_getElem? (i := 8) rfl)) (by decide) (mt2 l Z a0 hw a9 (2 : Int32) [(.int b0.toInt8.toInt32), (.int b1.toInt8.toInt32), (.int b2.toInt8.toInt32), (.int (10 : Int32))] b2.toInt8.toInt32 (10 : Int32) 4 h36 A39 rfl (fun _ => ⟨by decide, rfl⟩) (fun _ _ => ⟨by decide, rfl⟩)) pd___BI_I rfl (argsL := [(.ref a9), (.int (2 : Int32))]) (st := []) rfl rfl (W := 0) (Nat.le_of_eq rfl) (by decide) (by decide) (by decide) (by decide) (fun x q => nomatch q) at_48 rfl (pureG rfl rfl fun T80 X81 => ?_)
      rcases own_line (2 : Int32) b2.toInt8.toInt32 (10 : Int32) (by decide) with ⟨q1, q2⟩ | ⟨q1, q2, q3, q4⟩ | ⟨q1, q2, q3⟩
      · have e5 : (f2 (2 : Int32) b2.toInt8.toInt32 (10 : Int32)) = (3 : Int32) := q2
        rw [e5]
        refine gistore B X81 at_51 (Ls' := #[.val (.int p0), .val (.int p1), .val (.int p2), .val (.int p3), .val (.ref a9), .val (.int (2 : Int32)), .val (.int (3 : Int32)), .unset]) rfl (pc' := 53) rfl ?_
        refine giload B X81 at_53 rfl (pc' := 55) rfl ?_
        have c55_82 : ¬ ((2 : Int32) < (0 : Int32)) := (by decide)
        refine gifY B X81 (pc' := 70) at_55 ((if0 _ _).trans (flt c55_82).2.1) (by decide) ?_
        refine giload B X81 at_70 rfl (pc' := 72) rfl ?_
        refine giconst B X81 at_72 (v := (-1 : Int32)) rfl (pc' := 73) rfl ?_
        have c73_83 : ¬ ((3 : Int32) = (-1 : Int32)) := (by decide)
        refine gicY B X81 (pc' := 114) at_73 (feq c73_83).2 (by decide) ?_
        refine giload B X81 at_114 rfl (pc' := 116) rfl ?_
        refine giload B X81 at_116 rfl (pc' := 118) rfl ?_
        refine gisub B X81 at_118 (v := (1 : Int32)) (by decide) (pc' := 119) rfl ?_
        refine gistore B X81 at_119 (Ls' := #[.val (.int p0), .val (.int p1), .val (.int p2), .val (.int p3), .val (.ref a9), .val (.int (2 : Int32)), .val (.int (3 : Int32)), .val (.int (1 : Int32))]) rfl (pc' := 121) rfl ?_
        refine giload B X81 at_121 rfl (pc' := 123) rfl ?_
        refine giconst B X81 at_123 (v := (1 : Int32)) rfl (pc' := 124) rfl ?_
        have c124_84 : ¬ ((1 : Int32) < (1 : Int32)) := (by decide)
        refine gicN B X81 at_124 (flt c124_84).1 (pc' := 127) rfl ?_
        refine giload B X81 at_127 rfl (pc' := 129) rfl ?_
        refine giconst B X81 at_129 (v := (2 : Int32)) rfl (pc' := 130) rfl ?_
        have c130_85 : ¬ ((2 : Int32) < (1 : Int32)) := (by decide)
        refine gicN B X81 at_130 (flt c130_85).2.2.1 (pc' := 133) rfl ?_
        refine giload B X81 at_133 rfl (pc' := 135) rfl ?_
        refine gaload B X81 at_135 rfl rfl (pc' := 137) rfl ?_
        refine glength B X81 (n := (4 : Int32)) A39 (k := 4) rfl (by decide) at_137 (pc' := 138) rfl ?_
        have c138_86 : ¬ ((4 : Int32) < (3 : Int32)) := (by decide)
        refine gicY B X81 (pc' := 143) at_138 (flt c138_86).2.2.2 (by decide) ?_
        refine gaload B X81 at_143 rfl rfl (pc' := 145) rfl ?_
        refine giload B X81 at_145 rfl (pc' := 147) rfl ?_
        refine giconst B X81 at_147 (v := (1 : Int32)) rfl (pc' := 148) rfl ?_
        refine gisub B X81 at_148 (v := (2 : Int32)) (by decide) (pc' := 149) rfl ?_
        refine gbaload B X81 (n := 4) A39 rfl (by decide) (v := (.int b2.toInt8.toInt32)) rfl at_149 (pc' := 150) rfl ?_
        refine gbipush B X81 at_150 (v := (10 : Int32)) rfl (pc' := 152) rfl ?_
        refine gicN B X81 at_152 (teq q1).2 (pc' := 155) rfl ?_
        refine giload B X81 at_155 rfl (pc' := 157) rfl ?_
        refine giconst B X81 at_157 (v := (1 : Int32)) rfl (pc' := 158) rfl ?_
        have c158_87 : (1 : Int32) = (1 : Int32) := (by decide)
        refine gicY B X81 (pc' := 171) at_158 (teq c158_87).1 (by decide) ?_
        refine giconst B X81 at_171 (v := (1 : Int32)) rfl (pc' := 172) rfl ?_
        refine ggoto B X81 (pc' := 176) at_172 (by decide) ?_
        exact gretN B X81 (z' := (1 : Int32)) (by simp) (rfl) at_176 (by decide) (by decide) (rfl)
      · have e5 : (f2 (2 : Int32) b2.toInt8.toInt32 (10 : Int32)) = (4 : Int32) := q4
        rw [e5]
        refine gistore B X81 at_51 (Ls' := #[.val (.int p0), .val (.int p1), .val (.int p2), .val (.int p3), .val (.ref a9), .val (.int (2 : Int32)), .val (.int (4 : Int32)), .unset]) rfl (pc' := 53) rfl ?_
        refine giload B X81 at_53 rfl (pc' := 55) rfl ?_
        have c55_88 : ¬ ((2 : Int32) < (0 : Int32)) := (by decide)
        refine gifY B X81 (pc' := 70) at_55 ((if0 _ _).trans (flt c55_88).2.1) (by decide) ?_
        refine giload B X81 at_70 rfl (pc' := 72) rfl ?_
        refine giconst B X81 at_72 (v := (-1 : Int32)) rfl (pc' := 73) rfl ?_
        have c73_89 : ¬ ((4 : Int32) = (-1 : Int32)) := (by decide)
        refine gicY B X81 (pc' := 114) at_73 (feq c73_89).2 (by decide) ?_
        refine giload B X81 at_114 rfl (pc' := 116) rfl ?_
        refine giload B X81 at_116 rfl (pc' := 118) rfl ?_
        refine gisub B X81 at_118 (v := (2 : Int32)) (by decide) (pc' := 119) rfl ?_
        refine gistore B X81 at_119 (Ls' := #[.val (.int p0), .val (.int p1), .val (.int p2), .val (.int p3), .val (.ref a9), .val (.int (2 : Int32)), .val (.int (4 : Int32)), .val (.int (2 : Int32))]) rfl (pc' := 121) rfl ?_
        refine giload B X81 at_121 rfl (pc' := 123) rfl ?_
        refine giconst B X81 at_123 (v := (1 : Int32)) rfl (pc' := 124) rfl ?_
        have c124_90 : ¬ ((2 : Int32) < (1 : Int32)) := (by decide)
        refine gicN B X81 at_124 (flt c124_90).1 (pc' := 127) rfl ?_
        refine giload B X81 at_127 rfl (pc' := 129) rfl ?_
        refine giconst B X81 at_129 (v := (2 : Int32)) rfl (pc' := 130) rfl ?_
        have c130_91 : ¬ ((2 : Int32) < (2 : Int32)) := (by decide)
        refine gicN B X81 at_130 (flt c130_91).2.2.1 (pc' := 133) rfl ?_
        refine giload B X81 at_133 rfl (pc' := 135) rfl ?_
        refine gaload B X81 at_135 rfl rfl (pc' := 137) rfl ?_
        refine glength B X81 (n := (4 : Int32)) A39 (k := 4) rfl (by decide) at_137 (pc' := 138) rfl ?_
        have c138_92 : ¬ ((4 : Int32) < (4 : Int32)) := (by decide)
        refine gicY B X81 (pc' := 143) at_138 (flt c138_92).2.2.2 (by decide) ?_
        refine gaload B X81 at_143 rfl rfl (pc' := 145) rfl ?_
        refine giload B X81 at_145 rfl (pc' := 147) rfl ?_
        refine giconst B X81 at_147 (v := (1 : Int32)) rfl (pc' := 148) rfl ?_
        refine gisub B X81 at_148 (v := (3 : Int32)) (by decide) (pc' := 149) rfl ?_
        refine gbaload B X81 (n := 4) A39 rfl (by decide) (v := (.int (10 : Int32))) rfl at_149 (pc' := 150) rfl ?_
        refine gbipush B X81 at_150 (v := (10 : Int32)) rfl (pc' := 152) rfl ?_
        have c152_93 : (10 : Int32) = (10 : Int32) := (by decide)
        refine gicN B X81 at_152 (teq c152_93).2 (pc' := 155) rfl ?_
        refine giload B X81 at_155 rfl (pc' := 157) rfl ?_
        refine giconst B X81 at_157 (v := (1 : Int32)) rfl (pc' := 158) rfl ?_
        have c158_94 : ¬ ((2 : Int32) = (1 : Int32)) := (by decide)
        refine gicN B X81 at_158 (feq c158_94).1 (pc' := 161) rfl ?_
        refine gaload B X81 at_161 rfl rfl (pc' := 163) rfl ?_
        refine giload B X81 at_163 rfl (pc' := 165) rfl ?_
        refine gbaload B X81 (n := 4) A39 rfl (by decide) (v := (.int b2.toInt8.toInt32)) rfl at_165 (pc' := 166) rfl ?_
        refine gbipush B X81 at_166 (v := (13 : Int32)) rfl (pc' := 168) rfl ?_
        refine gicN B X81 at_168 (teq q2).2 (pc' := 171) rfl ?_
        refine giconst B X81 at_171 (v := (1 : Int32)) rfl (pc' := 172) rfl ?_
        refine ggoto B X81 (pc' := 176) at_172 (by decide) ?_
        exact gretN B X81 (z' := (1 : Int32)) (by simp) (rfl) at_176 (by decide) (by decide) (rfl)
      · rw [q3]
        refine gistore B X81 at_51 (Ls' := #[.val (.int p0), .val (.int p1), .val (.int p2), .val (.int p3), .val (.ref a9), .val (.int (2 : Int32)), .val (.int (-1 : Int32)), .unset]) rfl (pc' := 53) rfl ?_
        refine giload B X81 at_53 rfl (pc' := 55) rfl ?_
        have c55_95 : ¬ ((2 : Int32) < (0 : Int32)) := (by decide)
        refine gifY B X81 (pc' := 70) at_55 ((if0 _ _).trans (flt c55_95).2.1) (by decide) ?_
        refine giload B X81 at_70 rfl (pc' := 72) rfl ?_
        refine giconst B X81 at_72 (v := (-1 : Int32)) rfl (pc' := 73) rfl ?_
        have c73_96 : (-1 : Int32) = (-1 : Int32) := (by decide)
        refine gicN B X81 at_73 (teq c73_96).2 (pc' := 76) rfl ?_
        refine gaload B X81 at_76 rfl rfl (pc' := 78) rfl ?_
        refine giload B X81 at_78 rfl (pc' := 80) rfl ?_
        refine gbaload B X81 (n := 4) A39 rfl (by decide) (v := (.int b2.toInt8.toInt32)) rfl at_80 (pc' := 81) rfl ?_
        refine gbipush B X81 at_81 (v := (10 : Int32)) rfl (pc' := 83) rfl ?_
        refine gicY B X81 (pc' := 88) at_83 (feq q1).2 (by decide) ?_
        refine gaload B X81 at_88 rfl rfl (pc' := 90) rfl ?_
        refine giload B X81 at_90 rfl (pc' := 92) rfl ?_
        refine gbaload B X81 (n := 4) A39 rfl (by decide) (v := (.int b2.toInt8.toInt32)) rfl at_92 (pc' := 93) rfl ?_
        refine gbipush B X81 at_93 (v := (13 : Int32)) rfl (pc' := 95) rfl ?_
        by_cases c95_97 : b2.toInt8.toInt32 = (13 : Int32)
        · refine gicN B X81 at_95 (teq c95_97).2 (pc' := 98) rfl ?_
          refine gaload B X81 at_98 rfl rfl (pc' := 100) rfl ?_
          refine giload B X81 at_100 rfl (pc' := 102) rfl ?_
          refine giconst B X81 at_102 (v := (1 : Int32)) rfl (pc' := 103) rfl ?_
          refine giadd B X81 at_103 (v := (3 : Int32)) (by decide) (pc' := 104) rfl ?_
          refine gbaload B X81 (n := 4) A39 rfl (by decide) (v := (.int (10 : Int32))) rfl at_104 (pc' := 105) rfl ?_
          refine gbipush B X81 at_105 (v := (10 : Int32)) rfl (pc' := 107) rfl ?_
          have c107_98 : ¬ ((10 : Int32) = (10 : Int32)) := fun q => q2 ⟨c95_97, q⟩
          refine gicY B X81 (pc' := 112) at_107 (feq c107_98).2 (by decide) ?_
          refine giconst B X81 at_112 (v := (1 : Int32)) rfl (pc' := 113) rfl ?_
          exact gretN B X81 (z' := (1 : Int32)) (by simp) (rfl) at_113 (by decide) (by decide) (rfl)
        · refine gicY B X81 (pc' := 112) at_95 (feq c95_97).2 (by decide) ?_
          refine giconst B X81 at_112 (v := (1 : Int32)) rfl (pc' := 113) rfl ?_
          exact gretN B X81 (z' := (1 : Int32)) (by simp) (rfl) at_113 (by decide) (by decide) (rfl)
    · rw [e4]
      refine gistore B X37 at_42 (Ls' := #[.val (.int p0), .val (.int p1), .val (.int p2), .val (.int p3), .val (.ref a9), .val (.int (3 : Int32)), .unset, .unset]) rfl (pc' := 44) rfl ?_
      refine gaload B X37 at_44 rfl rfl (pc' := 46) rfl ?_
      refine giload B X37 at_46 rfl (pc' := 48) rfl ?_
      refine gcallS B X37 (hw _ (List.mem_of_getElem? (i := 5) rfl)) (hw _ (List.mem_of_getElem? (i := 6) rfl)) (hw _ (List.mem_of_getElem? (i := 7) rfl)) (hw _ (List.mem_of_getElem? (i := 8) rfl)) (by decide) (mt2 l Z a0 hw a9 (3 : Int32) [(.int b0.toInt8.toInt32), (.int b1.toInt8.toInt32), (.int b2.toInt8.toInt32), (.int (10 : Int32))] (10 : Int32) (0 : Int32) 4 h36 A39 rfl (fun _ => ⟨by decide, rfl⟩) (fun _ q => absurd q (by decide))) pd___BI_I rfl (argsL := [(.ref a9), (.int (3 : Int32))]) (st := []) rfl rfl (W := 0) (Nat.le_of_eq rfl) (by decide) (by decide) (by decide) (by decide) (fun x q => nomatch q) at_48 rfl (pureG rfl rfl fun T99 X100 => ?_)
      rcases own_line (3 : Int32) (10 : Int32) (0 : Int32) (by decide) with ⟨q1, q2⟩ | ⟨q1, q2, q3, q4⟩ | ⟨q1, q2, q3⟩
      rotate_left
      · exact absurd rfl q1
      · exact absurd rfl q1
      · have e5 : (f2 (3 : Int32) (10 : Int32) (0 : Int32)) = (4 : Int32) := q2
        rw [e5]
        refine gistore B X100 at_51 (Ls' := #[.val (.int p0), .val (.int p1), .val (.int p2), .val (.int p3), .val (.ref a9), .val (.int (3 : Int32)), .val (.int (4 : Int32)), .unset]) rfl (pc' := 53) rfl ?_
        refine giload B X100 at_53 rfl (pc' := 55) rfl ?_
        have c55_101 : ¬ ((3 : Int32) < (0 : Int32)) := (by decide)
        refine gifY B X100 (pc' := 70) at_55 ((if0 _ _).trans (flt c55_101).2.1) (by decide) ?_
        refine giload B X100 at_70 rfl (pc' := 72) rfl ?_
        refine giconst B X100 at_72 (v := (-1 : Int32)) rfl (pc' := 73) rfl ?_
        have c73_102 : ¬ ((4 : Int32) = (-1 : Int32)) := (by decide)
        refine gicY B X100 (pc' := 114) at_73 (feq c73_102).2 (by decide) ?_
        refine giload B X100 at_114 rfl (pc' := 116) rfl ?_
        refine giload B X100 at_116 rfl (pc' := 118) rfl ?_
        refine gisub B X100 at_118 (v := (1 : Int32)) (by decide) (pc' := 119) rfl ?_
        refine gistore B X100 at_119 (Ls' := #[.val (.int p0), .val (.int p1), .val (.int p2), .val (.int p3), .val (.ref a9), .val (.int (3 : Int32)), .val (.int (4 : Int32)), .val (.int (1 : Int32))]) rfl (pc' := 121) rfl ?_
        refine giload B X100 at_121 rfl (pc' := 123) rfl ?_
        refine giconst B X100 at_123 (v := (1 : Int32)) rfl (pc' := 124) rfl ?_
        have c124_103 : ¬ ((1 : Int32) < (1 : Int32)) := (by decide)
        refine gicN B X100 at_124 (flt c124_103).1 (pc' := 127) rfl ?_
        refine giload B X100 at_127 rfl (pc' := 129) rfl ?_
        refine giconst B X100 at_129 (v := (2 : Int32)) rfl (pc' := 130) rfl ?_
        have c130_104 : ¬ ((2 : Int32) < (1 : Int32)) := (by decide)
        refine gicN B X100 at_130 (flt c130_104).2.2.1 (pc' := 133) rfl ?_
        refine giload B X100 at_133 rfl (pc' := 135) rfl ?_
        refine gaload B X100 at_135 rfl rfl (pc' := 137) rfl ?_
        refine glength B X100 (n := (4 : Int32)) A39 (k := 4) rfl (by decide) at_137 (pc' := 138) rfl ?_
        have c138_105 : ¬ ((4 : Int32) < (4 : Int32)) := (by decide)
        refine gicY B X100 (pc' := 143) at_138 (flt c138_105).2.2.2 (by decide) ?_
        refine gaload B X100 at_143 rfl rfl (pc' := 145) rfl ?_
        refine giload B X100 at_145 rfl (pc' := 147) rfl ?_
        refine giconst B X100 at_147 (v := (1 : Int32)) rfl (pc' := 148) rfl ?_
        refine gisub B X100 at_148 (v := (3 : Int32)) (by decide) (pc' := 149) rfl ?_
        refine gbaload B X100 (n := 4) A39 rfl (by decide) (v := (.int (10 : Int32))) rfl at_149 (pc' := 150) rfl ?_
        refine gbipush B X100 at_150 (v := (10 : Int32)) rfl (pc' := 152) rfl ?_
        have c152_106 : (10 : Int32) = (10 : Int32) := (by decide)
        refine gicN B X100 at_152 (teq c152_106).2 (pc' := 155) rfl ?_
        refine giload B X100 at_155 rfl (pc' := 157) rfl ?_
        refine giconst B X100 at_157 (v := (1 : Int32)) rfl (pc' := 158) rfl ?_
        have c158_107 : (1 : Int32) = (1 : Int32) := (by decide)
        refine gicY B X100 (pc' := 171) at_158 (teq c158_107).1 (by decide) ?_
        refine giconst B X100 at_171 (v := (1 : Int32)) rfl (pc' := 172) rfl ?_
        refine ggoto B X100 (pc' := 176) at_172 (by decide) ?_
        exact gretN B X100 (z' := (1 : Int32)) (by simp) (rfl) at_176 (by decide) (by decide) (rfl)
set_option maxRecDepth 65536 in
set_option maxHeartbeats 4000000 in
theorem comes_1 {Post : Tables → Env → Array Value → State → Outcome → State → Prop} (hpost : ∀ tb e args s v u, (limb_1_1.after args s (.returned v) u = true ∧ limb_1_2.after args s (.returned v) u = true ∧ True) → FrameEnd s (.returned v) u (Jvm.fieldLocs frame_1_writes args s ++ Jvm.arrayLocs frame_1_arrays args s ++ Jvm.staticLocs frame_1_statics s) 16 128 → Post tb e args s (.returned v) u) :
    ArmFor flags0 classFile x code maxLocals ret World_1 tables_1 room_1 Calls_1 rest_1 Pre_1 Post := by
  intro l hfl _ _ p e ha hc hk s m args below hf hA hF happ hP
  obtain ⟨hcalls, hrest, hpre⟩ := hP
  obtain ⟨-, -, -, hnamed, -, -, -, hat⟩ := (Spec.applies_iff hf).mp happ
  obtain ⟨hg, hn⟩ := and_e (Cond.before_iff.mp (show (Jvm.Cond.and given_1 narrow_1).before args s = true from hpre))
  obtain ⟨g2, g3⟩ := and_e hg
  obtain ⟨g4, g5⟩ := and_e g3
  obtain ⟨g6, g7⟩ := and_e g5
  obtain ⟨g8, g9⟩ := and_e g7
  obtain ⟨w0, w1, w2, w3, rfl⟩ : ∃ w0 w1 w2 w3 : Value, args = #[w0, w1, w2, w3] := by
    have hs : args.size = 4 := by simpa [Cond.value, given_1] using g2
    obtain ⟨L⟩ := args
    match L, hs with
    | [w0, w1, w2, w3], _ => exact ⟨w0, w1, w2, w3, rfl⟩
  have hw := fun d (hd : d ∈ tables_1) => atoms_spec (ws := Jvm.Cond.code x code maxLocals ret :: tables_1) hat d (List.mem_cons_of_mem _ hd)
  obtain ⟨i0, ei0⟩ := is_v g4
  obtain rfl : w0 = (.int i0) := Option.some.inj ei0
  obtain ⟨i1, ei1⟩ := is_v g6
  obtain rfl : w1 = (.int i1) := Option.some.inj ei1
  obtain ⟨i2, ei2⟩ := is_v g8
  obtain rfl : w2 = (.int i2) := Option.some.inj ei2
  obtain ⟨i3, ei3⟩ := is_v g9
  obtain rfl : w3 = (.int i3) := Option.some.inj ei3
  obtain ⟨n, o, h1, h2, h3, _, L, rfl, ⟨rfl, N, N2⟩, hq⟩ := mt0 l s _ hw i0 i1 i2 i3 s.heap tables_1 p e ha hc hk s m _ below hf ((Spec.applies_iff_loose hf).mp happ).1 ⟨rfl, State.Warmed39.refl s, rfl⟩ trivial
  refine ⟨n, _, h1, h2, h3, hpost _ _ _ _ _ _ ⟨Cond.after_iff.mpr rfl, Cond.after_iff.mpr (eq_i res_at (Term.int_eval (1)) rfl), trivial⟩ ⟨hq.1, hq.2.1, (hq.2.2.sift fun y hy => Or.inr ((N2 y hy).elim (fun z => nomatch z) id)).mono (by decide) (by decide)⟩⟩
theorem main_1_1 : Claimed_1_1 := comes_1 fun _ _ _ _ _ _ h hF => ⟨h.1, hF⟩
theorem main_1_2 : Claimed_1_2 := comes_1 fun _ _ _ _ _ _ h hF => ⟨h.2.1, hF⟩
end Jvm.Pilot.@@N@@
namespace Jvm.Pilot.@@N@@
open Jvm Jvm.ClassFile Sem Op Lib Jvm.Free Jvm.Stand Jvm.Pilot.@@N@@.Jvm.D
/-! MADE BY PROGRAM (witnessworld.py) out of the Statement's table words and the real class files: 9 classes; the members and pool entries that the words name. The judged class is class 1, her method 2. -/
namespace start1
open Jvm.ClassFile
def u (s : String) : CpInfo := .utf8 (stringToUtf16 s)
/-- a pool by its gaps: so many unusable entries, then the entry; so many at the end -/
def gap : Nat → List CpInfo → List CpInfo
  | 0, r => r
  | n + 1, r => .unusable :: gap n r
def poolList (es : List (Nat × CpInfo)) (last : Nat) : List CpInfo := es.foldr (fun e r => gap e.1 (e.2 :: r)) (gap last [])
def pool (es : List (Nat × CpInfo)) (last : Nat) : Array CpInfo := ⟨poolList es last⟩
def fileOf (pool : Array CpInfo) (this : Nat) (attrs : Array Attribute := #[]) (ms : Array MethodInfo := #[]) (fl : Nat := 33) (sup : Nat := 0) (ifs : Array Nat := #[]) (fds : Array FieldInfo := #[]) : ClassFile where
  minorVersion := 0
  majorVersion := 65
  constantPool := pool
  accessFlags := fl
  thisClass := this
  superClass := sup
  interfaces := ifs
  fields := fds
  methods := ms
  attributes := attrs
def plain (name : String) (sup : Option ClassId) : Class where
  name := name
  kind := .ordinary
  loader := none
  accessFlags := 33
  super := sup
  interfaces := #[]
  cf := none
  fields := #[]
  methods := #[]
  instanceTypes := #[]
  staticTypes := #[]
  resolved := #[]
  callSites := []
  init := .initialized
  statics := none
  mirror := none

def pool0 : Array CpInfo := pool [(5, u "<init>"), (0, u "()V"), (1, .class_ 10), (1, u "java/lang/Object")] 113

def k0m0 : Method := { name := "<init>", desc := "()V", sig := { parameters := [], returnType := none }, accessFlags := 1, code := none }
/-- java/lang/Object -/
def k0 : Class := { plain "java/lang/Object" none with
  accessFlags := 33
  interfaces := #[]
  cf := some (fileOf pool0 8 #[] #[{ accessFlags := 1, nameIndex := 5, descriptorIndex := 6, attributes := #[] }] 33 0 #[] #[])
  fields := #[]
  methods := #[k0m0]
  instanceTypes := #[]
  staticTypes := #[]
  resolved := Array.replicate 124 none
  statics := none }

def pool1 : Array CpInfo := pool [(2, .class_ 4), (1, u "java/lang/Object"), (0, u "<init>"), (0, u "()V"), (0, .methodref 8 9), (0, .class_ 10), (0, .nameAndType 11 12), (0, u "com/example/nabu/nabu/protocol/PlainFieldsLineEndPinLaw"), (0, u "pick"), (0, u "(I)B"), (0, .methodref 14 15), (0, .class_ 16), (0, .nameAndType 17 18), (0, u "com/example/nabu/nabu/protocol/PlainFields"), (0, u "lineEnd"), (0, u "([BI)I"), (3, u "law"), (0, u "(IIII)Z")] 4

def k1m0 : Method := { name := "<init>", desc := "()V", sig := { parameters := [], returnType := none }, accessFlags := 1, code := none }
def k1c1 : Code := { maxStack := 2, maxLocals := 2, code := method_2_code, exceptionTable := #[], attributes := #[] }
def k1m1 : Method := { name := "pick", desc := "(I)B", sig := { parameters := [.int], returnType := some .byte }, accessFlags := 10, code := some k1c1 }
def k1c2 : Code := { maxStack := 4, maxLocals := 8, code := code, exceptionTable := #[], attributes := #[] }
def k1m2 : Method := { name := "law", desc := "(IIII)Z", sig := { parameters := [.int, .int, .int, .int], returnType := some .boolean }, accessFlags := 9, code := some k1c2 }
/-- com/example/nabu/nabu/protocol/PlainFieldsLineEndPinLaw -/
def k1 : Class := { plain "com/example/nabu/nabu/protocol/PlainFieldsLineEndPinLaw" (some 0) with
  accessFlags := 49
  interfaces := #[]
  cf := some (fileOf pool1 8 #[] #[{ accessFlags := 1, nameIndex := 5, descriptorIndex := 6, attributes := #[] }, { accessFlags := 10, nameIndex := 11, descriptorIndex := 12, attributes := #[] }, { accessFlags := 9, nameIndex := 22, descriptorIndex := 23, attributes := #[] }] 49 2 #[] #[])
  fields := #[]
  methods := #[k1m0, k1m1, k1m2]
  instanceTypes := #[]
  staticTypes := #[]
  resolved := Array.replicate 28 none
  statics := none }

def pool2 : Array CpInfo := pool [(2, .class_ 4), (1, u "java/lang/Object"), (0, u "<init>"), (0, u "()V"), (0, .class_ 8), (0, u "com/example/nabu/nabu/protocol/PlainFields"), (4, u "NONE"), (0, u "J"), (1, u "MAX_DIGITS"), (0, u "I"), (13, u "lineEnd"), (0, u "([BI)I")] 2

def k2m0 : Method := { name := "<init>", desc := "()V", sig := { parameters := [], returnType := none }, accessFlags := 2, code := none }
def k2c1 : Code := { maxStack := 3, maxLocals := 3, code := prog_49_method_6_code, exceptionTable := #[], attributes := #[] }
def k2m1 : Method := { name := "lineEnd", desc := "([BI)I", sig := { parameters := [(.array .byte), .int], returnType := some .int }, accessFlags := 8, code := some k2c1 }
/-- com/example/nabu/nabu/protocol/PlainFields -/
def k2 : Class := { plain "com/example/nabu/nabu/protocol/PlainFields" (some 0) with
  accessFlags := 48
  interfaces := #[]
  cf := some (fileOf pool2 7 #[] #[{ accessFlags := 2, nameIndex := 5, descriptorIndex := 6, attributes := #[] }, { accessFlags := 8, nameIndex := 31, descriptorIndex := 32, attributes := #[] }] 48 2 #[] #[{ accessFlags := 24, nameIndex := 13, descriptorIndex := 14, attributes := #[] }, { accessFlags := 26, nameIndex := 16, descriptorIndex := 17, attributes := #[] }])
  fields := #[{ name := "NONE", type := .long, accessFlags := 24, slot := 0, constantValue := 0 }, { name := "MAX_DIGITS", type := .int, accessFlags := 26, slot := 1, constantValue := 0 }]
  methods := #[k2m0, k2m1]
  instanceTypes := #[]
  staticTypes := #[.long, .int]
  resolved := Array.replicate 35 none
  statics := none }

def pool3 : Array CpInfo := pool [(1, u "java/lang/Cloneable"), (0, .class_ 1), (0, u "java/lang/Object"), (0, .class_ 3)] 3

/-- java/lang/Cloneable -/
def k3 : Class := { plain "java/lang/Cloneable" (some 0) with
  accessFlags := 1537
  interfaces := #[]
  cf := some (fileOf pool3 2 #[] #[] 1537 4 #[] #[])
  fields := #[]
  methods := #[]
  instanceTypes := #[]
  staticTypes := #[]
  resolved := Array.replicate 8 none
  statics := none }

def pool4 : Array CpInfo := pool [(1, u "java/io/Serializable"), (0, .class_ 1), (0, u "java/lang/Object"), (0, .class_ 3)] 3

/-- java/io/Serializable -/
def k4 : Class := { plain "java/io/Serializable" (some 0) with
  accessFlags := 1537
  interfaces := #[]
  cf := some (fileOf pool4 2 #[] #[] 1537 4 #[] #[])
  fields := #[]
  methods := #[]
  instanceTypes := #[]
  staticTypes := #[]
  resolved := Array.replicate 8 none
  statics := none }

/-- the primitive byte -/
def k5 : Class := { plain "byte" none with kind := .primitive 'B', accessFlags := 0x411 }
/-- [B -/
def k6 : Class := { plain "[B" (some 0) with kind := .array 5 .byte, interfaces := #[3, 4], accessFlags := 1041 }

/-- the primitive int -/
def k7 : Class := { plain "int" none with kind := .primitive 'I', accessFlags := 0x411 }
/-- [I -/
def k8 : Class := { plain "[I" (some 0) with kind := .array 7 .int, interfaces := #[3, 4], accessFlags := 1041 }

def heap : Heap := #[]
def classes : Array Class := #[k0, k1, k2, k3, k4, k5, k6, k7, k8]
def interned : List (Array UInt16 × Addr) := []
def slotsUsed : Nat := 0
def theMethod : MethodId := ⟨1, 2⟩
def args0 : Array Value := #[.int 0, .int 1, .int 5, .int 2]
def aboutOver (below : List Frame) : State where
  vm := { classes := classes, interned := interned.toArray }
  heap := heap
  slotsUsed := slotsUsed
  threads := #[{ frames := .invoking theMethod args0 :: below }]
def below0 : List Frame := [.native { method := ⟨0, 0⟩, args := #[] }]
def about1 : State := aboutOver below0
def p0 : Program := .bare "" "" ""
def e0 : Env := launch0.env 0 0 0
theorem w_frames : about1.frames = Frame.invoking theMethod args0 :: below0 := rfl
set_option maxRecDepth 65536 in
theorem w_args : argsFit about1.vm theMethod args0 = true := by decide +kernel
set_option maxRecDepth 65536 in
theorem w_heap : heapFits about1 = true := by decide +kernel
set_option maxRecDepth 65536 in
theorem w_runnable : about1.curStatus? = some .runnable := by decide +kernel
set_option maxRecDepth 65536 in
theorem w_alone : about1.alone = true := by decide +kernel
set_option maxRecDepth 65536 in
theorem w_named : about1.methodNamed? x = some theMethod := by decide +kernel
set_option maxRecDepth 65536 in
theorem w_hears : about1.hears theMethod below0 = true := by decide +kernel
set_option maxRecDepth 65536 in
theorem w_ripe : about1.ripe theMethod args0 below0 = true := by decide +kernel
theorem w_running : about1.status = .running := rfl
set_option maxRecDepth 65536 in
theorem w_room : about1.hasRoom e0.platform room_1 = true :=
  launch0.hasRoom_least _ room_1 (by decide +kernel) (by decide +kernel) (by decide +kernel) (by decide +kernel) (by decide +kernel) (by decide +kernel)
theorem allAtoms_all (ts : List Jvm.Cond) (a : Array Jvm.Value) (st : Jvm.State) : (allAtoms ts).before a st = ts.all (fun c => c.before a st) := by
  induction ts with
  | nil => rfl
  | cons c t ih =>
    show (Jvm.Cond.and c (allAtoms t)).before a st = _
    rw [Jvm.Cond.before_and, ih, List.all_cons]
def words1 : List Jvm.Cond := Jvm.Cond.code x code maxLocals ret :: tables_1
/-- a 'code' word, met by the world's own term for the bytes: nothing is compared byte by byte -/
theorem code_word {y : MethodName} {bytes : ByteArray} {mx : Nat} {rt : Option FieldType} {a : Array Value} {s : State} {m : MethodId} {meth : Method} {c : Code} (h1 : s.methodNamed? y = some m) (h2 : s.vm.method? m = some meth) (h3 : meth.code = some c) (h4 : c.code = bytes)
    (h5 : (c.maxLocals == mx && c.exceptionTable.isEmpty && decide (c.maxStack ≤ mostOperands) && decide (meth.sig.returnType = rt) && !meth.locks && decide (parseMethodDescriptor y.desc = some meth.sig)) = true) : (Jvm.Cond.code y bytes mx rt).before a s = true := by
  simp only [Bool.and_eq_true, beq_iff_eq, Bool.not_eq_true', decide_eq_true_eq] at h5
  obtain ⟨⟨⟨⟨⟨g1, g2⟩, g3⟩, g4⟩, g5⟩, g6⟩ := h5
  simp [Cond.before, Cond.holds, Cond.value, h1, h2, h3, h4, g1, g2, g3, g4, g5, g6]
def isCode : Jvm.Cond → Bool
  | .code _ _ _ _ => true
  | _ => false
theorem all_split {L : List Jvm.Cond} {P : Jvm.Cond → Bool} (h1 : L.all (fun c => isCode c || P c) = true) (h2 : ∀ c ∈ L.filter isCode, P c = true) : L.all P = true := by
  refine List.all_eq_true.mpr fun c hc => ?_
  have h := List.all_eq_true.mp h1 c hc
  rcases Bool.eq_false_or_eq_true (isCode c) with hi | hi
  · exact h2 c (List.mem_filter.mpr ⟨hc, hi⟩)
  · simpa [hi] using h
set_option maxRecDepth 65536 in
theorem w_c0 : (Jvm.Cond.code x code maxLocals ret).before args0 about1 = true := code_word (m := ⟨1, 2⟩) (meth := k1m2) (c := k1c2) (by decide +kernel) rfl rfl rfl (by decide +kernel)
set_option maxRecDepth 65536 in
theorem w_c1 : (Jvm.Cond.code ({ cls := "com/example/nabu/nabu/protocol/PlainFieldsLineEndPinLaw", name := "pick", desc := "(I)B" } : Jvm.MethodName) method_2_code (2 : Nat) (Option.some Jvm.ClassFile.FieldType.byte)).before args0 about1 = true := code_word (m := ⟨1, 1⟩) (meth := k1m1) (c := k1c1) (by decide +kernel) rfl rfl rfl (by decide +kernel)
set_option maxRecDepth 65536 in
theorem w_c2 : (Jvm.Cond.code ({ cls := "com/example/nabu/nabu/protocol/PlainFields", name := "lineEnd", desc := "([BI)I" } : Jvm.MethodName) prog_49_method_6_code (3 : Nat) (Option.some Jvm.ClassFile.FieldType.int)).before args0 about1 = true := code_word (m := ⟨2, 1⟩) (meth := k2m1) (c := k2c1) (by decide +kernel) rfl rfl rfl (by decide +kernel)
def codes1 : List Jvm.Cond := [Jvm.Cond.code x code maxLocals ret, Jvm.Cond.code ({ cls := "com/example/nabu/nabu/protocol/PlainFieldsLineEndPinLaw", name := "pick", desc := "(I)B" } : Jvm.MethodName) method_2_code (2 : Nat) (Option.some Jvm.ClassFile.FieldType.byte), Jvm.Cond.code ({ cls := "com/example/nabu/nabu/protocol/PlainFields", name := "lineEnd", desc := "([BI)I" } : Jvm.MethodName) prog_49_method_6_code (3 : Nat) (Option.some Jvm.ClassFile.FieldType.int)]
set_option maxRecDepth 65536 in
theorem codes_eq : words1.filter isCode = codes1 := rfl
theorem w_codes : ∀ c ∈ words1.filter isCode, c.before args0 about1 = true := by
  rw [codes_eq]
  intro c hc
  simp only [codes1, List.mem_cons, List.not_mem_nil, or_false] at hc
  rcases hc with rfl | rfl | rfl
  · exact w_c0
  · exact w_c1
  · exact w_c2
set_option maxRecDepth 65536 in
theorem w_t1 : words1.all (fun c => isCode c || c.before args0 about1) = true := by decide +kernel
theorem w_tables : (allAtoms (Jvm.Cond.code x code maxLocals ret :: tables_1)).before args0 about1 = true := by
  rw [allAtoms_all]
  show words1.all (fun c => c.before args0 about1) = true
  refine all_split ?_ w_codes
  rw [w_t1]
set_option maxRecDepth 65536 in
theorem w_case : (Jvm.Cond.and given_1 narrow_1).before args0 about1 = true := by decide +kernel
theorem w_applies : (headSpec (Jvm.Cond.code x code maxLocals ret :: tables_1) room_1).applies x e0.platform about1 = true :=
  (Spec.applies_iff w_frames).mpr ⟨w_running, w_runnable, w_alone, w_named, w_hears, w_ripe, w_room, w_tables⟩
theorem atStart : AtStart classFile x code maxLocals ret World_1 tables_1 room_1 Calls_1 rest_1 Pre_1 launch0 p0 e0 about1 theMethod args0 below0 :=
  ⟨lists_1, trivial, launch0.admits_env _ _ _, launch0.least_env, fairChoices_fair.cas, fairChoices_fair.clock, w_frames, w_args, w_heap, w_applies, trivial, trivial, w_case⟩
end start1
theorem witness_1 : WitnessClaimed_1 := ⟨start1.p0, start1.e0, start1.about1, start1.theMethod, start1.args0, start1.below0, start1.atStart⟩
end Jvm.Pilot.@@N@@
