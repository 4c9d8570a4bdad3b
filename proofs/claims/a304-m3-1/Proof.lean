import JvmDerived
import JvmDerived.Pilot.@@N@@Statement
import JvmDerived.Pilot.@@N@@Code
set_option linter.unusedVariables false
set_option linter.unusedSimpArgs false
namespace Jvm.OwnKit
open Sem ClassFile Op Lib Jvm.Stand Jvm.Free Jvm.LawKit Jvm.RoadKit
/-- every written place is one of ws or new -/
def FrW (h0 : Heap) (ws : List Addr) (L : List Loc) : Prop := ∀ y ∈ L, y.base ∈ ws ∨ h0.size ≤ y.base
/-- what stays fixed while a body runs -/
def Fix (p : Program) (Z s : State) (m : MethodId) (meth : Method) (c : Code) (bytes : ByteArray) (maxL : Nat) (own nm : String) (ret : Option FieldType) : Prop :=
  p.tables.exec = Jvm.exec ∧ Z.Warmed39 s.vm ∧ c.code = bytes ∧ c.maxLocals = maxL ∧ s.vm.findClass own = some m.cls ∧ meth.name = nm ∧ meth.sig.returnType = ret ∧ meth.locks = false
/-- where the run stands: its heap h, what was kept since h0 -/
def St (p : Program) (l : Launch) (e : Env) (R : Room) (s : State) (m : MethodId) (args : Array Value) (below : List Frame) (meth : Method) (c : Code) (h0 : Heap) (ws : List Addr) (T : State) (h : Heap) (cells slots : Nat) : Prop :=
  ∃ locs, Stand p l e R s m args below meth c T locs cells slots ∧ T.heap = h ∧ Keep h0 h ws ∧ FrW h0 ws locs
/-- from T with the top frame f the body comes to its end, and Q holds there -/
def Go (p : Program) (e : Env) (below : List Frame) (s : State) (K N : Nat) (h0 : Heap) (ws : List Addr) (Q : Option Value → Heap → Prop) (T : State) (f : JFrame) : Prop :=
  ∃ t o, Steps p.tables e below (T.setTop f) t ∧ t.status = .running ∧ Ended t below o ∧ ∃ v L, o = .returned v ∧ (Q v t.heap ∧ Keep h0 t.heap ws ∧ FrW h0 ws L) ∧ FrameEnd s o t L K N
/-- a method's contract: called with as' at the heap h0 it returns, writes ws and new cells alone, and Q holds -/
def Meth (l : Launch) (Z : State) (y : MethodName) (bytes : ByteArray) (maxL : Nat) (ret : Option FieldType) (rm : Room) (as' : Array Value) (h0 : Heap) (ws : List Addr) (Q : Option Value → Heap → Prop) : Prop :=
  ∀ wl, MetFree l y (head1 (Cond.code y bytes maxL ret :: wl) rm) (fun a U => a = as' ∧ Z.Warmed39 U.vm ∧ U.heap = h0) (fun _ _ _ _ _ => True) (fun _ U o U' => ∃ v L, o = .returned v ∧ (Q v U'.heap ∧ Keep h0 U'.heap ws ∧ FrW h0 ws L) ∧ FrameEnd U o U' L rm.cells rm.slots)
/-- an array of the kind ty that holds vs -/
def VA (Z : State) (h : Heap) (a : Addr) (ty : FieldType) (vs : List Value) : Prop := ∃ c : Cell, Arr Z h a c ty ∧ c.slots = vs.toArray ∧ vs.length < 2 ^ 31
section Arrays
variable {Z : State} {h h' : Heap} {a b : Addr} {ty : FieldType} {vs : List Value} {sl : Nat} {v : Value} {ws : List Addr}
theorem VA.lt (F : VA Z h a ty vs) : a < h.size := by obtain ⟨c, A, -⟩ := F; exact A.lt
theorem VA.ext (F : VA Z h a ty vs) (E : Ext h h') : VA Z h' a ty vs := by obtain ⟨c, A, r⟩ := F; exact ⟨c, A.ext E, r⟩
theorem VA.other (F : VA Z h b ty vs) (W : Wr h h' a sl v) (q : b ≠ a) : VA Z h' b ty vs := by obtain ⟨c, A, r⟩ := F; exact ⟨c, A.other W q, r⟩
theorem VA.keep (F : VA Z h a ty vs) (K : Keep h h' ws) (q : a ∉ ws) : VA Z h' a ty vs := by obtain ⟨c, A, r⟩ := F; exact ⟨c, ⟨K.2.1 a c A.1 q, A.2⟩, r⟩
theorem VA.set (F : VA Z h a ty vs) (W : Wr h h' a sl v) : VA Z h' a ty (vs.set sl v) := by
  obtain ⟨c, A, r, n⟩ := F
  refine ⟨_, A.same W, ?_, by simpa using n⟩
  show c.slots.setIfInBounds sl v = _
  rw [r]; simp
theorem VA.new {k : ClassId} {n : Int32} (A : Arr Z h a (newA k ty n) ty) (q : ¬ n < 0) : VA Z h a ty (List.replicate n.toNatClampNeg (defaultValue ty)) :=
  ⟨_, A, by simp [newA], by rw [List.length_replicate]; exact (back32 q).2⟩
theorem VA.len31 (F : VA Z h a ty vs) : vs.length < 2 ^ 31 := by obtain ⟨c, A, r, n⟩ := F; exact n
theorem inb {n : Nat} {j : Int32} (hj : 0 ≤ j.toInt ∧ j.toInt < n) : ¬ (j < 0 ∨ n ≤ j.toNatClampNeg) := by
  simp only [Int32.lt_iff_toInt_lt, Int32.toNatClampNeg, Int32.reduceToInt]; omega
theorem own_at {xs : List Int32} {j : Nat} (hj : j < xs.length) : (xs.map Value.int)[j]? = some (.int (xs.getD j 0)) := by
  simp [List.getElem?_eq_getElem hj]
theorem own_atL {xs : List Int64} {j : Nat} (hj : j < xs.length) : (xs.map Value.long)[j]? = some (.long (xs.getD j 0)) := by
  simp [List.getElem?_eq_getElem hj]
end Arrays
section Go
variable {p : Program} {l : Launch} {e : Env} {R : Room} {s : State} {m : MethodId} {args : Array Value} {below : List Frame} {meth : Method} {c : Code} {Z : State} {bytes : ByteArray} {maxL : Nat} {own nm : String} {ret : Option FieldType} {h0 : Heap} {ws : List Addr} {T T' : State} {locs : List Loc} {h : Heap} {cells slots K N : Nat} {Q : Option Value → Heap → Prop} {pc pc' : Nat} {Ls Ls' : Array Slot} {st : List Value} {a0 : Array Value}
theorem Go.to {f f' : JFrame} (k : ∀ t, Steps p.tables e below (T'.setTop f') t → Steps p.tables e below (T.setTop f) t) (g : Go p e below s K N h0 ws Q T' f') : Go p e below s K N h0 ws Q T f := by
  obtain ⟨t, o, a, r⟩ := g; exact ⟨t, o, k t a, r⟩
theorem Go.mono {Q' : Option Value → Heap → Prop} {f : JFrame} (g : Go p e below s K N h0 ws Q T f) (hq : ∀ v h, Q v h → Q' v h) : Go p e below s K N h0 ws Q' T f := by
  obtain ⟨t, o, a, b, d, v, L, e1, ⟨q, r⟩, z⟩ := g; exact ⟨t, o, a, b, d, v, L, e1, ⟨hq _ _ q, r⟩, z⟩
theorem Go.entry {f f' : JFrame} (q : f = f') (g : Go p e below s K N h0 ws Q T f') : Go p e below s K N h0 ws Q T f := q ▸ g
theorem St.more (X : St p l e R s m args below meth c h0 ws T h cells slots) {cells' slots' : Nat} (h1 : cells ≤ cells') (h2 : slots ≤ slots') : St p l e R s m args below meth c h0 ws T h cells' slots' := by
  obtain ⟨L, X, r⟩ := X; exact ⟨L, X.more h1 h2, r⟩
theorem St.kept (X : St p l e R s m args below meth c h0 ws T h cells slots) : Keep h0 h ws := by obtain ⟨L, X, e1, k, f⟩ := X; exact k
theorem St.here (X : St p l e R s m args below meth c h0 ws T h cells slots) : At T m c below := by obtain ⟨L, X, r⟩ := X; exact X.here
theorem Meth.mono {y : MethodName} {rm : Room} {as' : Array Value} {Q' : Option Value → Heap → Prop} (M : Meth l Z y bytes maxL ret rm as' h0 ws Q) (hq : ∀ v h, Q v h → Q' v h) : Meth l Z y bytes maxL ret rm as' h0 ws Q' := by
  intro wl p e ha hc hk s m args below hf happ hP hK
  obtain ⟨n, o, a, b, d, v, L, e1, ⟨q, r⟩, z⟩ := M wl p e ha hc hk s m args below hf happ hP hK
  exact ⟨n, o, a, b, d, v, L, e1, ⟨hq _ _ q, r⟩, z⟩
theorem Meth.of {y : MethodName} {rm : Room} {as' : Array Value} (hpl : plainFor y = true)
    (body : ∀ (p : Program) (e : Env) (s : State) (m : MethodId) (below : List Frame) (meth : Method) (c : Code) (T : State), Fix p Z s m meth c bytes maxL y.cls y.name ret → St p l e rm s m as' below meth c h0 ws T h0 0 0 → Go p e below s rm.cells rm.slots h0 ws Q T (entryFrame m as' maxL)) :
    Meth l Z y bytes maxL ret rm as' h0 ws Q := by
  intro wl
  refine MetFree.of_bodySF hpl hisR ?_
  intro p e s m args below meth c s₁ Bd hml0 hP hK
  obtain ⟨rfl, hZ, hh⟩ := hP
  have X0 : Stand p l e rm s m _ below meth c s₁ [] 0 0 := Stand.of_body Bd
  have e0 : s₁.heap = h0 := by rw [← hh, Bd.state]; rfl
  exact body p e s m below meth c s₁ ⟨Bd.exec, hZ, Bd.bytes, hml0, findClass_of_methodNamed Bd.named, (name_of_methodNamed Bd.named Bd.method).1, Bd.returns, Bd.notSynchronized⟩ ⟨[], X0, e0, Keep.refl _ _, fun y hy => nomatch hy⟩

theorem giload (B : Fix p Z s m meth c bytes maxL own nm ret) (X : St p l e R s m args below meth c h0 ws T h cells slots) {k : Nat} {v : Int32} (hd : decode bytes pc = .ok (.iload k, 2)) (hl : Ls[k]? = some (.val (.int v))) (hp : pc' = pc + 2) (g : Go p e below s K N h0 ws Q T (mkF m pc' Ls (.int v :: st))) : Go p e below s K N h0 ws Q T (mkF m pc Ls st) := by
  subst hp; obtain ⟨L, X, -⟩ := X; exact Go.to (fun t k => XS.iload X.here B.1 rfl (hb B.2.2.1 hd) hl k) g
theorem giloadN (B : Fix p Z s m meth c bytes maxL own nm ret) (X : St p l e R s m args below meth c h0 ws T h cells slots) {k : Fin 4} {v : Int32} (hd : decode bytes pc = .ok (.iload_n k, 1)) (hl : Ls[k.val]? = some (.val (.int v))) (hp : pc' = pc + 1) (g : Go p e below s K N h0 ws Q T (mkF m pc' Ls (.int v :: st))) : Go p e below s K N h0 ws Q T (mkF m pc Ls st) := by
  subst hp; obtain ⟨L, X, -⟩ := X; exact Go.to (fun t k => XS.iloadN X.here B.1 rfl (hb B.2.2.1 hd) hl k) g
theorem gistore (B : Fix p Z s m meth c bytes maxL own nm ret) (X : St p l e R s m args below meth c h0 ws T h cells slots) {k : Nat} {v : Int32} (hd : decode bytes pc = .ok (.istore k, 2)) (hl : storeLocals Ls k (.int v) = some Ls') (hp : pc' = pc + 2) (g : Go p e below s K N h0 ws Q T (mkF m pc' Ls' st)) : Go p e below s K N h0 ws Q T (mkF m pc Ls (.int v :: st)) := by
  subst hp; obtain ⟨L, X, -⟩ := X; exact Go.to (fun t k => XS.istore X.here B.1 rfl (hb B.2.2.1 hd) rfl hl k) g
theorem gistoreN (B : Fix p Z s m meth c bytes maxL own nm ret) (X : St p l e R s m args below meth c h0 ws T h cells slots) {k : Fin 4} {v : Int32} (hd : decode bytes pc = .ok (.istore_n k, 1)) (hl : storeLocals Ls k.val (.int v) = some Ls') (hp : pc' = pc + 1) (g : Go p e below s K N h0 ws Q T (mkF m pc' Ls' st)) : Go p e below s K N h0 ws Q T (mkF m pc Ls (.int v :: st)) := by
  subst hp; obtain ⟨L, X, -⟩ := X; exact Go.to (fun t k => XS.istoreN X.here B.1 rfl (hb B.2.2.1 hd) rfl hl k) g
theorem glload (B : Fix p Z s m meth c bytes maxL own nm ret) (X : St p l e R s m args below meth c h0 ws T h cells slots) {k : Nat} {v : Int64} (hd : decode bytes pc = .ok (.lload k, 2)) (hl : Ls[k]? = some (.val (.long v))) (hp : pc' = pc + 2) (g : Go p e below s K N h0 ws Q T (mkF m pc' Ls (.long v :: st))) : Go p e below s K N h0 ws Q T (mkF m pc Ls st) := by
  subst hp; obtain ⟨L, X, -⟩ := X; exact Go.to (fun t k => XS.lload X.here B.1 rfl (hb B.2.2.1 hd) hl k) g
theorem glloadN (B : Fix p Z s m meth c bytes maxL own nm ret) (X : St p l e R s m args below meth c h0 ws T h cells slots) {k : Fin 4} {v : Int64} (hd : decode bytes pc = .ok (.lload_n k, 1)) (hl : Ls[k.val]? = some (.val (.long v))) (hp : pc' = pc + 1) (g : Go p e below s K N h0 ws Q T (mkF m pc' Ls (.long v :: st))) : Go p e below s K N h0 ws Q T (mkF m pc Ls st) := by
  subst hp; obtain ⟨L, X, -⟩ := X; exact Go.to (fun t k => XS.lloadN X.here B.1 rfl (hb B.2.2.1 hd) hl k) g
theorem glstore (B : Fix p Z s m meth c bytes maxL own nm ret) (X : St p l e R s m args below meth c h0 ws T h cells slots) {k : Nat} {v : Int64} (hd : decode bytes pc = .ok (.lstore k, 2)) (hl : storeLocals Ls k (.long v) = some Ls') (hp : pc' = pc + 2) (g : Go p e below s K N h0 ws Q T (mkF m pc' Ls' st)) : Go p e below s K N h0 ws Q T (mkF m pc Ls (.long v :: st)) := by
  subst hp; obtain ⟨L, X, -⟩ := X; exact Go.to (fun t k => XS.lstore X.here B.1 rfl (hb B.2.2.1 hd) rfl hl k) g
theorem glstoreN (B : Fix p Z s m meth c bytes maxL own nm ret) (X : St p l e R s m args below meth c h0 ws T h cells slots) {k : Fin 4} {v : Int64} (hd : decode bytes pc = .ok (.lstore_n k, 1)) (hl : storeLocals Ls k.val (.long v) = some Ls') (hp : pc' = pc + 1) (g : Go p e below s K N h0 ws Q T (mkF m pc' Ls' st)) : Go p e below s K N h0 ws Q T (mkF m pc Ls (.long v :: st)) := by
  subst hp; obtain ⟨L, X, -⟩ := X; exact Go.to (fun t k => XS.lstoreN X.here B.1 rfl (hb B.2.2.1 hd) rfl hl k) g
theorem gaload (B : Fix p Z s m meth c bytes maxL own nm ret) (X : St p l e R s m args below meth c h0 ws T h cells slots) {k : Nat} {v : Value} (hd : decode bytes pc = .ok (.aload k, 2)) (hl : Ls[k]? = some (.val v)) (hv : v.isRef = true) (hp : pc' = pc + 2) (g : Go p e below s K N h0 ws Q T (mkF m pc' Ls (v :: st))) : Go p e below s K N h0 ws Q T (mkF m pc Ls st) := by
  subst hp; obtain ⟨L, X, -⟩ := X; exact Go.to (fun t k => XS.aload X.here B.1 rfl (hb B.2.2.1 hd) hl hv k) g
theorem galoadN (B : Fix p Z s m meth c bytes maxL own nm ret) (X : St p l e R s m args below meth c h0 ws T h cells slots) {k : Fin 4} {v : Value} (hd : decode bytes pc = .ok (.aload_n k, 1)) (hl : Ls[k.val]? = some (.val v)) (hv : v.isRef = true) (hp : pc' = pc + 1) (g : Go p e below s K N h0 ws Q T (mkF m pc' Ls (v :: st))) : Go p e below s K N h0 ws Q T (mkF m pc Ls st) := by
  subst hp; obtain ⟨L, X, -⟩ := X; exact Go.to (fun t k => XS.aloadN X.here B.1 rfl (hb B.2.2.1 hd) hl hv k) g
theorem gastore (B : Fix p Z s m meth c bytes maxL own nm ret) (X : St p l e R s m args below meth c h0 ws T h cells slots) {k : Nat} {v : Value} (hd : decode bytes pc = .ok (.astore k, 2)) (hv : v.isRef = true) (hl : storeLocals Ls k v = some Ls') (hp : pc' = pc + 2) (g : Go p e below s K N h0 ws Q T (mkF m pc' Ls' st)) : Go p e below s K N h0 ws Q T (mkF m pc Ls (v :: st)) := by
  subst hp; obtain ⟨L, X, -⟩ := X; exact Go.to (fun t k => XS.astore X.here B.1 rfl (hb B.2.2.1 hd) rfl hv hl k) g
theorem gastoreN (B : Fix p Z s m meth c bytes maxL own nm ret) (X : St p l e R s m args below meth c h0 ws T h cells slots) {k : Fin 4} {v : Value} (hd : decode bytes pc = .ok (.astore_n k, 1)) (hv : v.isRef = true) (hl : storeLocals Ls k.val v = some Ls') (hp : pc' = pc + 1) (g : Go p e below s K N h0 ws Q T (mkF m pc' Ls' st)) : Go p e below s K N h0 ws Q T (mkF m pc Ls (v :: st)) := by
  subst hp; obtain ⟨L, X, -⟩ := X; exact Go.to (fun t k => XS.astoreN X.here B.1 rfl (hb B.2.2.1 hd) rfl hv hl k) g
theorem giconst (B : Fix p Z s m meth c bytes maxL own nm ret) (X : St p l e R s m args below meth c h0 ws T h cells slots) {i : Int} {v : Int32} (hd : decode bytes pc = .ok (.iconst i, 1)) (hv : Int32.ofInt i = v) (hp : pc' = pc + 1) (g : Go p e below s K N h0 ws Q T (mkF m pc' Ls (.int v :: st))) : Go p e below s K N h0 ws Q T (mkF m pc Ls st) := by
  subst hp; subst hv; obtain ⟨L, X, -⟩ := X; exact Go.to (fun t k => XS.iconst X.here B.1 rfl (hb B.2.2.1 hd) k) g
theorem gbipush (B : Fix p Z s m meth c bytes maxL own nm ret) (X : St p l e R s m args below meth c h0 ws T h cells slots) {i : Int} {v : Int32} (hd : decode bytes pc = .ok (.bipush i, 2)) (hv : (Int8.ofInt i).toInt32 = v) (hp : pc' = pc + 2) (g : Go p e below s K N h0 ws Q T (mkF m pc' Ls (.int v :: st))) : Go p e below s K N h0 ws Q T (mkF m pc Ls st) := by
  subst hp; subst hv; obtain ⟨L, X, -⟩ := X; exact Go.to (fun t k => XS.bipush X.here B.1 rfl (hb B.2.2.1 hd) k) g
theorem gsipush (B : Fix p Z s m meth c bytes maxL own nm ret) (X : St p l e R s m args below meth c h0 ws T h cells slots) {i : Int} {v : Int32} (hd : decode bytes pc = .ok (.sipush i, 3)) (hv : (Int16.ofInt i).toInt32 = v) (hp : pc' = pc + 3) (g : Go p e below s K N h0 ws Q T (mkF m pc' Ls (.int v :: st))) : Go p e below s K N h0 ws Q T (mkF m pc Ls st) := by
  subst hp; subst hv; obtain ⟨L, X, -⟩ := X; exact Go.to (fun t k => XS.sipush X.here B.1 rfl (hb B.2.2.1 hd) k) g
theorem glconst (B : Fix p Z s m meth c bytes maxL own nm ret) (X : St p l e R s m args below meth c h0 ws T h cells slots) {k : Fin 2} {v : Int64} (hd : decode bytes pc = .ok (.lconst k, 1)) (hv : Int64.ofNat k = v) (hp : pc' = pc + 1) (g : Go p e below s K N h0 ws Q T (mkF m pc' Ls (.long v :: st))) : Go p e below s K N h0 ws Q T (mkF m pc Ls st) := by
  subst hp; subst hv; obtain ⟨L, X, -⟩ := X; exact Go.to (fun t k => XS.lconst X.here B.1 rfl (hb B.2.2.1 hd) k) g
theorem gnull (B : Fix p Z s m meth c bytes maxL own nm ret) (X : St p l e R s m args below meth c h0 ws T h cells slots)  (hd : decode bytes pc = .ok (.aconst_null, 1))  (hp : pc' = pc + 1) (g : Go p e below s K N h0 ws Q T (mkF m pc' Ls (.null :: st))) : Go p e below s K N h0 ws Q T (mkF m pc Ls st) := by
  subst hp; obtain ⟨L, X, -⟩ := X; exact Go.to (fun t k => XS.aconstNull X.here B.1 rfl (hb B.2.2.1 hd)  k) g
theorem giadd (B : Fix p Z s m meth c bytes maxL own nm ret) (X : St p l e R s m args below meth c h0 ws T h cells slots) {x y : Int32} {v : Int32} (hd : decode bytes pc = .ok (.iadd, 1))  (hv : x + y = v) (hp : pc' = pc + 1) (g : Go p e below s K N h0 ws Q T (mkF m pc' Ls (.int v :: st))) : Go p e below s K N h0 ws Q T (mkF m pc Ls (.int y :: .int x :: st)) := by
  subst hp; subst hv; obtain ⟨L, X, -⟩ := X; exact Go.to (fun t k => XS.iadd X.here B.1 rfl (hb B.2.2.1 hd) rfl k) g
theorem gladd (B : Fix p Z s m meth c bytes maxL own nm ret) (X : St p l e R s m args below meth c h0 ws T h cells slots) {x y : Int64} {v : Int64} (hd : decode bytes pc = .ok (.ladd, 1))  (hv : x + y = v) (hp : pc' = pc + 1) (g : Go p e below s K N h0 ws Q T (mkF m pc' Ls (.long v :: st))) : Go p e below s K N h0 ws Q T (mkF m pc Ls (.long y :: .long x :: st)) := by
  subst hp; subst hv; obtain ⟨L, X, -⟩ := X; exact Go.to (fun t k => XS.ladd X.here B.1 rfl (hb B.2.2.1 hd) rfl k) g
theorem gisub (B : Fix p Z s m meth c bytes maxL own nm ret) (X : St p l e R s m args below meth c h0 ws T h cells slots) {x y : Int32} {v : Int32} (hd : decode bytes pc = .ok (.isub, 1))  (hv : x - y = v) (hp : pc' = pc + 1) (g : Go p e below s K N h0 ws Q T (mkF m pc' Ls (.int v :: st))) : Go p e below s K N h0 ws Q T (mkF m pc Ls (.int y :: .int x :: st)) := by
  subst hp; subst hv; obtain ⟨L, X, -⟩ := X; exact Go.to (fun t k => XS.isub X.here B.1 rfl (hb B.2.2.1 hd) rfl k) g
theorem glsub (B : Fix p Z s m meth c bytes maxL own nm ret) (X : St p l e R s m args below meth c h0 ws T h cells slots) {x y : Int64} {v : Int64} (hd : decode bytes pc = .ok (.lsub, 1))  (hv : x - y = v) (hp : pc' = pc + 1) (g : Go p e below s K N h0 ws Q T (mkF m pc' Ls (.long v :: st))) : Go p e below s K N h0 ws Q T (mkF m pc Ls (.long y :: .long x :: st)) := by
  subst hp; subst hv; obtain ⟨L, X, -⟩ := X; exact Go.to (fun t k => XS.lsub X.here B.1 rfl (hb B.2.2.1 hd) rfl k) g
theorem gimul (B : Fix p Z s m meth c bytes maxL own nm ret) (X : St p l e R s m args below meth c h0 ws T h cells slots) {x y : Int32} {v : Int32} (hd : decode bytes pc = .ok (.imul, 1))  (hv : x * y = v) (hp : pc' = pc + 1) (g : Go p e below s K N h0 ws Q T (mkF m pc' Ls (.int v :: st))) : Go p e below s K N h0 ws Q T (mkF m pc Ls (.int y :: .int x :: st)) := by
  subst hp; subst hv; obtain ⟨L, X, -⟩ := X; exact Go.to (fun t k => XS.imul X.here B.1 rfl (hb B.2.2.1 hd) rfl k) g
theorem glmul (B : Fix p Z s m meth c bytes maxL own nm ret) (X : St p l e R s m args below meth c h0 ws T h cells slots) {x y : Int64} {v : Int64} (hd : decode bytes pc = .ok (.lmul, 1))  (hv : x * y = v) (hp : pc' = pc + 1) (g : Go p e below s K N h0 ws Q T (mkF m pc' Ls (.long v :: st))) : Go p e below s K N h0 ws Q T (mkF m pc Ls (.long y :: .long x :: st)) := by
  subst hp; subst hv; obtain ⟨L, X, -⟩ := X; exact Go.to (fun t k => XS.lmul X.here B.1 rfl (hb B.2.2.1 hd) rfl k) g
theorem giand (B : Fix p Z s m meth c bytes maxL own nm ret) (X : St p l e R s m args below meth c h0 ws T h cells slots) {x y : Int32} {v : Int32} (hd : decode bytes pc = .ok (.iand, 1))  (hv : x &&& y = v) (hp : pc' = pc + 1) (g : Go p e below s K N h0 ws Q T (mkF m pc' Ls (.int v :: st))) : Go p e below s K N h0 ws Q T (mkF m pc Ls (.int y :: .int x :: st)) := by
  subst hp; subst hv; obtain ⟨L, X, -⟩ := X; exact Go.to (fun t k => XS.iand X.here B.1 rfl (hb B.2.2.1 hd) rfl k) g
theorem gland (B : Fix p Z s m meth c bytes maxL own nm ret) (X : St p l e R s m args below meth c h0 ws T h cells slots) {x y : Int64} {v : Int64} (hd : decode bytes pc = .ok (.land, 1))  (hv : x &&& y = v) (hp : pc' = pc + 1) (g : Go p e below s K N h0 ws Q T (mkF m pc' Ls (.long v :: st))) : Go p e below s K N h0 ws Q T (mkF m pc Ls (.long y :: .long x :: st)) := by
  subst hp; subst hv; obtain ⟨L, X, -⟩ := X; exact Go.to (fun t k => XS.land X.here B.1 rfl (hb B.2.2.1 hd) rfl k) g
theorem gior (B : Fix p Z s m meth c bytes maxL own nm ret) (X : St p l e R s m args below meth c h0 ws T h cells slots) {x y : Int32} {v : Int32} (hd : decode bytes pc = .ok (.ior, 1))  (hv : x ||| y = v) (hp : pc' = pc + 1) (g : Go p e below s K N h0 ws Q T (mkF m pc' Ls (.int v :: st))) : Go p e below s K N h0 ws Q T (mkF m pc Ls (.int y :: .int x :: st)) := by
  subst hp; subst hv; obtain ⟨L, X, -⟩ := X; exact Go.to (fun t k => XS.ior X.here B.1 rfl (hb B.2.2.1 hd) rfl k) g
theorem glor (B : Fix p Z s m meth c bytes maxL own nm ret) (X : St p l e R s m args below meth c h0 ws T h cells slots) {x y : Int64} {v : Int64} (hd : decode bytes pc = .ok (.lor, 1))  (hv : x ||| y = v) (hp : pc' = pc + 1) (g : Go p e below s K N h0 ws Q T (mkF m pc' Ls (.long v :: st))) : Go p e below s K N h0 ws Q T (mkF m pc Ls (.long y :: .long x :: st)) := by
  subst hp; subst hv; obtain ⟨L, X, -⟩ := X; exact Go.to (fun t k => XS.lor X.here B.1 rfl (hb B.2.2.1 hd) rfl k) g
theorem gixor (B : Fix p Z s m meth c bytes maxL own nm ret) (X : St p l e R s m args below meth c h0 ws T h cells slots) {x y : Int32} {v : Int32} (hd : decode bytes pc = .ok (.ixor, 1))  (hv : x ^^^ y = v) (hp : pc' = pc + 1) (g : Go p e below s K N h0 ws Q T (mkF m pc' Ls (.int v :: st))) : Go p e below s K N h0 ws Q T (mkF m pc Ls (.int y :: .int x :: st)) := by
  subst hp; subst hv; obtain ⟨L, X, -⟩ := X; exact Go.to (fun t k => XS.ixor X.here B.1 rfl (hb B.2.2.1 hd) rfl k) g
theorem glxor (B : Fix p Z s m meth c bytes maxL own nm ret) (X : St p l e R s m args below meth c h0 ws T h cells slots) {x y : Int64} {v : Int64} (hd : decode bytes pc = .ok (.lxor, 1))  (hv : x ^^^ y = v) (hp : pc' = pc + 1) (g : Go p e below s K N h0 ws Q T (mkF m pc' Ls (.long v :: st))) : Go p e below s K N h0 ws Q T (mkF m pc Ls (.long y :: .long x :: st)) := by
  subst hp; subst hv; obtain ⟨L, X, -⟩ := X; exact Go.to (fun t k => XS.lxor X.here B.1 rfl (hb B.2.2.1 hd) rfl k) g
theorem gidiv (B : Fix p Z s m meth c bytes maxL own nm ret) (X : St p l e R s m args below meth c h0 ws T h cells slots) {x y : Int32} {v : Int32} (hd : decode bytes pc = .ok (.idiv, 1)) (hy : y ≠ 0) (hv : x / y = v) (hp : pc' = pc + 1) (g : Go p e below s K N h0 ws Q T (mkF m pc' Ls (.int v :: st))) : Go p e below s K N h0 ws Q T (mkF m pc Ls (.int y :: .int x :: st)) := by
  subst hp; subst hv; obtain ⟨L, X, -⟩ := X; exact Go.to (fun t k => XS.idiv X.here B.1 rfl (hb B.2.2.1 hd) rfl hy k) g
theorem gldiv (B : Fix p Z s m meth c bytes maxL own nm ret) (X : St p l e R s m args below meth c h0 ws T h cells slots) {x y : Int64} {v : Int64} (hd : decode bytes pc = .ok (.ldiv, 1)) (hy : y ≠ 0) (hv : x / y = v) (hp : pc' = pc + 1) (g : Go p e below s K N h0 ws Q T (mkF m pc' Ls (.long v :: st))) : Go p e below s K N h0 ws Q T (mkF m pc Ls (.long y :: .long x :: st)) := by
  subst hp; subst hv; obtain ⟨L, X, -⟩ := X; exact Go.to (fun t k => XS.ldiv X.here B.1 rfl (hb B.2.2.1 hd) rfl hy k) g
theorem girem (B : Fix p Z s m meth c bytes maxL own nm ret) (X : St p l e R s m args below meth c h0 ws T h cells slots) {x y v : Int32} (hd : decode bytes pc = .ok (.irem, 1)) (hy : y ≠ 0) (hv : x % y = v) (hp : pc' = pc + 1) (g : Go p e below s K N h0 ws Q T (mkF m pc' Ls (.int v :: st))) : Go p e below s K N h0 ws Q T (mkF m pc Ls (.int y :: .int x :: st)) := by
  subst hp; subst hv; obtain ⟨L, X, -⟩ := X; exact Go.to (fun t k => iremM X B.1 rfl (hb B.2.2.1 hd) rfl hy k) g
theorem glrem (B : Fix p Z s m meth c bytes maxL own nm ret) (X : St p l e R s m args below meth c h0 ws T h cells slots) {x y v : Int64} (hd : decode bytes pc = .ok (.lrem, 1)) (hy : y ≠ 0) (hv : x % y = v) (hp : pc' = pc + 1) (g : Go p e below s K N h0 ws Q T (mkF m pc' Ls (.long v :: st))) : Go p e below s K N h0 ws Q T (mkF m pc Ls (.long y :: .long x :: st)) := by
  subst hp; subst hv; obtain ⟨L, X, -⟩ := X; exact Go.to (fun t k => XS.lrem X.here B.1 rfl (hb B.2.2.1 hd) rfl hy (by rw [lrem_mod]; exact k)) g
theorem gishl (B : Fix p Z s m meth c bytes maxL own nm ret) (X : St p l e R s m args below meth c h0 ws T h cells slots) {x y : Int32} {v : Int32} (hd : decode bytes pc = .ok (.ishl, 1))  (hv : x <<< (y &&& 31) = v) (hp : pc' = pc + 1) (g : Go p e below s K N h0 ws Q T (mkF m pc' Ls (.int v :: st))) : Go p e below s K N h0 ws Q T (mkF m pc Ls (.int y :: .int x :: st)) := by
  subst hp; subst hv; obtain ⟨L, X, -⟩ := X; exact Go.to (fun t k => XS.ishl X.here B.1 rfl (hb B.2.2.1 hd) rfl k) g
theorem gishr (B : Fix p Z s m meth c bytes maxL own nm ret) (X : St p l e R s m args below meth c h0 ws T h cells slots) {x y : Int32} {v : Int32} (hd : decode bytes pc = .ok (.ishr, 1))  (hv : x >>> (y &&& 31) = v) (hp : pc' = pc + 1) (g : Go p e below s K N h0 ws Q T (mkF m pc' Ls (.int v :: st))) : Go p e below s K N h0 ws Q T (mkF m pc Ls (.int y :: .int x :: st)) := by
  subst hp; subst hv; obtain ⟨L, X, -⟩ := X; exact Go.to (fun t k => XS.ishr X.here B.1 rfl (hb B.2.2.1 hd) rfl k) g
theorem giushr (B : Fix p Z s m meth c bytes maxL own nm ret) (X : St p l e R s m args below meth c h0 ws T h cells slots) {x y : Int32} {v : Int32} (hd : decode bytes pc = .ok (.iushr, 1))  (hv : (x.toUInt32 >>> (y &&& 31).toUInt32).toInt32 = v) (hp : pc' = pc + 1) (g : Go p e below s K N h0 ws Q T (mkF m pc' Ls (.int v :: st))) : Go p e below s K N h0 ws Q T (mkF m pc Ls (.int y :: .int x :: st)) := by
  subst hp; subst hv; obtain ⟨L, X, -⟩ := X; exact Go.to (fun t k => XS.iushr X.here B.1 rfl (hb B.2.2.1 hd) rfl k) g
theorem glshl (B : Fix p Z s m meth c bytes maxL own nm ret) (X : St p l e R s m args below meth c h0 ws T h cells slots) {x : Int64} {y : Int32} {v : Int64} (hd : decode bytes pc = .ok (.lshl, 1))  (hv : x <<< (y &&& 0x3f).toInt64 = v) (hp : pc' = pc + 1) (g : Go p e below s K N h0 ws Q T (mkF m pc' Ls (.long v :: st))) : Go p e below s K N h0 ws Q T (mkF m pc Ls (.int y :: .long x :: st)) := by
  subst hp; subst hv; obtain ⟨L, X, -⟩ := X; exact Go.to (fun t k => XS.lshl X.here B.1 rfl (hb B.2.2.1 hd) rfl k) g
theorem glshr (B : Fix p Z s m meth c bytes maxL own nm ret) (X : St p l e R s m args below meth c h0 ws T h cells slots) {x : Int64} {y : Int32} {v : Int64} (hd : decode bytes pc = .ok (.lshr, 1))  (hv : x >>> (y &&& 0x3f).toInt64 = v) (hp : pc' = pc + 1) (g : Go p e below s K N h0 ws Q T (mkF m pc' Ls (.long v :: st))) : Go p e below s K N h0 ws Q T (mkF m pc Ls (.int y :: .long x :: st)) := by
  subst hp; subst hv; obtain ⟨L, X, -⟩ := X; exact Go.to (fun t k => XS.lshr X.here B.1 rfl (hb B.2.2.1 hd) rfl k) g
theorem glushr (B : Fix p Z s m meth c bytes maxL own nm ret) (X : St p l e R s m args below meth c h0 ws T h cells slots) {x : Int64} {y : Int32} {v : Int64} (hd : decode bytes pc = .ok (.lushr, 1))  (hv : (x.toUInt64 >>> (y &&& 0x3f).toInt64.toUInt64).toInt64 = v) (hp : pc' = pc + 1) (g : Go p e below s K N h0 ws Q T (mkF m pc' Ls (.long v :: st))) : Go p e below s K N h0 ws Q T (mkF m pc Ls (.int y :: .long x :: st)) := by
  subst hp; subst hv; obtain ⟨L, X, -⟩ := X; exact Go.to (fun t k => XS.lushr X.here B.1 rfl (hb B.2.2.1 hd) rfl k) g
theorem gineg (B : Fix p Z s m meth c bytes maxL own nm ret) (X : St p l e R s m args below meth c h0 ws T h cells slots) {x : Int32} {v : Int32} (hd : decode bytes pc = .ok (.ineg, 1))  (hv : -x = v) (hp : pc' = pc + 1) (g : Go p e below s K N h0 ws Q T (mkF m pc' Ls (.int v :: st))) : Go p e below s K N h0 ws Q T (mkF m pc Ls (.int x :: st)) := by
  subst hp; subst hv; obtain ⟨L, X, -⟩ := X; exact Go.to (fun t k => XS.ineg X.here B.1 rfl (hb B.2.2.1 hd) rfl k) g
theorem glneg (B : Fix p Z s m meth c bytes maxL own nm ret) (X : St p l e R s m args below meth c h0 ws T h cells slots) {x : Int64} {v : Int64} (hd : decode bytes pc = .ok (.lneg, 1))  (hv : -x = v) (hp : pc' = pc + 1) (g : Go p e below s K N h0 ws Q T (mkF m pc' Ls (.long v :: st))) : Go p e below s K N h0 ws Q T (mkF m pc Ls (.long x :: st)) := by
  subst hp; subst hv; obtain ⟨L, X, -⟩ := X; exact Go.to (fun t k => XS.lneg X.here B.1 rfl (hb B.2.2.1 hd) rfl k) g
theorem gi2l (B : Fix p Z s m meth c bytes maxL own nm ret) (X : St p l e R s m args below meth c h0 ws T h cells slots) {x : Int32} {v : Int64} (hd : decode bytes pc = .ok (.i2l, 1))  (hv : x.toInt64 = v) (hp : pc' = pc + 1) (g : Go p e below s K N h0 ws Q T (mkF m pc' Ls (.long v :: st))) : Go p e below s K N h0 ws Q T (mkF m pc Ls (.int x :: st)) := by
  subst hp; subst hv; obtain ⟨L, X, -⟩ := X; exact Go.to (fun t k => XS.i2l X.here B.1 rfl (hb B.2.2.1 hd) rfl k) g
theorem gl2i (B : Fix p Z s m meth c bytes maxL own nm ret) (X : St p l e R s m args below meth c h0 ws T h cells slots) {x : Int64} {v : Int32} (hd : decode bytes pc = .ok (.l2i, 1))  (hv : x.toInt32 = v) (hp : pc' = pc + 1) (g : Go p e below s K N h0 ws Q T (mkF m pc' Ls (.int v :: st))) : Go p e below s K N h0 ws Q T (mkF m pc Ls (.long x :: st)) := by
  subst hp; subst hv; obtain ⟨L, X, -⟩ := X; exact Go.to (fun t k => XS.l2i X.here B.1 rfl (hb B.2.2.1 hd) rfl k) g
theorem gi2b (B : Fix p Z s m meth c bytes maxL own nm ret) (X : St p l e R s m args below meth c h0 ws T h cells slots) {x : Int32} {v : Int32} (hd : decode bytes pc = .ok (.i2b, 1))  (hv : x.toInt8.toInt32 = v) (hp : pc' = pc + 1) (g : Go p e below s K N h0 ws Q T (mkF m pc' Ls (.int v :: st))) : Go p e below s K N h0 ws Q T (mkF m pc Ls (.int x :: st)) := by
  subst hp; subst hv; obtain ⟨L, X, -⟩ := X; exact Go.to (fun t k => XS.i2b X.here B.1 rfl (hb B.2.2.1 hd) rfl k) g
theorem gi2s (B : Fix p Z s m meth c bytes maxL own nm ret) (X : St p l e R s m args below meth c h0 ws T h cells slots) {x : Int32} {v : Int32} (hd : decode bytes pc = .ok (.i2s, 1))  (hv : x.toInt16.toInt32 = v) (hp : pc' = pc + 1) (g : Go p e below s K N h0 ws Q T (mkF m pc' Ls (.int v :: st))) : Go p e below s K N h0 ws Q T (mkF m pc Ls (.int x :: st)) := by
  subst hp; subst hv; obtain ⟨L, X, -⟩ := X; exact Go.to (fun t k => XS.i2s X.here B.1 rfl (hb B.2.2.1 hd) rfl k) g
theorem gi2c (B : Fix p Z s m meth c bytes maxL own nm ret) (X : St p l e R s m args below meth c h0 ws T h cells slots) {x : Int32} {v : Int32} (hd : decode bytes pc = .ok (.i2c, 1))  (hv : x.toUInt32.toUInt16.toUInt32.toInt32 = v) (hp : pc' = pc + 1) (g : Go p e below s K N h0 ws Q T (mkF m pc' Ls (.int v :: st))) : Go p e below s K N h0 ws Q T (mkF m pc Ls (.int x :: st)) := by
  subst hp; subst hv; obtain ⟨L, X, -⟩ := X; exact Go.to (fun t k => XS.i2c X.here B.1 rfl (hb B.2.2.1 hd) rfl k) g
theorem glcmp (B : Fix p Z s m meth c bytes maxL own nm ret) (X : St p l e R s m args below meth c h0 ws T h cells slots) {x y : Int64} (hd : decode bytes pc = .ok (.lcmp, 1))  (hp : pc' = pc + 1) (g : Go p e below s K N h0 ws Q T (mkF m pc' Ls (.int (lcmpW x y) :: st))) : Go p e below s K N h0 ws Q T (mkF m pc Ls (.long y :: .long x :: st)) := by
  subst hp; obtain ⟨L, X, -⟩ := X; exact Go.to (fun t k => XS.lcmp X.here B.1 rfl (hb B.2.2.1 hd) rfl k) g
theorem gdup (B : Fix p Z s m meth c bytes maxL own nm ret) (X : St p l e R s m args below meth c h0 ws T h cells slots) {x : Value} (hd : decode bytes pc = .ok (.dup, 1)) (hc : x.category = 1) (hp : pc' = pc + 1) (g : Go p e below s K N h0 ws Q T (mkF m pc' Ls (x :: x :: st))) : Go p e below s K N h0 ws Q T (mkF m pc Ls (x :: st)) := by
  subst hp; obtain ⟨L, X, -⟩ := X; exact Go.to (fun t k => XS.dup X.here B.1 rfl (hb B.2.2.1 hd) rfl hc k) g
theorem gpop (B : Fix p Z s m meth c bytes maxL own nm ret) (X : St p l e R s m args below meth c h0 ws T h cells slots) {x : Value} (hd : decode bytes pc = .ok (.pop, 1)) (hc : x.category = 1) (hp : pc' = pc + 1) (g : Go p e below s K N h0 ws Q T (mkF m pc' Ls st)) : Go p e below s K N h0 ws Q T (mkF m pc Ls (x :: st)) := by
  subst hp; obtain ⟨L, X, -⟩ := X; exact Go.to (fun t k => XS.pop X.here B.1 rfl (hb B.2.2.1 hd) rfl hc k) g
theorem gdup_x1 (B : Fix p Z s m meth c bytes maxL own nm ret) (X : St p l e R s m args below meth c h0 ws T h cells slots) {x y : Value} (hd : decode bytes pc = .ok (.dup_x1, 1)) (hc : x.category = 1) (hc2 : y.category = 1) (hp : pc' = pc + 1) (g : Go p e below s K N h0 ws Q T (mkF m pc' Ls (x :: y :: x :: st))) : Go p e below s K N h0 ws Q T (mkF m pc Ls (x :: y :: st)) := by
  subst hp; obtain ⟨L, X, -⟩ := X; exact Go.to (fun t k => XS.dupX1 X.here B.1 rfl (hb B.2.2.1 hd) rfl hc hc2 k) g
theorem gdup2 (B : Fix p Z s m meth c bytes maxL own nm ret) (X : St p l e R s m args below meth c h0 ws T h cells slots) {x y : Value} (hd : decode bytes pc = .ok (.dup2, 1)) (hc : x.category = 1) (hc2 : y.category = 1) (hp : pc' = pc + 1) (g : Go p e below s K N h0 ws Q T (mkF m pc' Ls (x :: y :: x :: y :: st))) : Go p e below s K N h0 ws Q T (mkF m pc Ls (x :: y :: st)) := by
  subst hp; obtain ⟨L, X, -⟩ := X; exact Go.to (fun t k => Jvm.Free.XT.dup2 X.here B.1 rfl (hb B.2.2.1 hd) rfl hc hc2 k) g
theorem xdup_x2 {tb : Tables} [Ours tb] {target : State} {g : JFrame} (h : At T m c below) (hx : tb.exec = Jvm.exec) (hg : g.method = m) {x y z : Value} {rest : List Value} (hd : decode c.code g.pc = .ok (.dup_x2, 1)) (hs : g.stack = x :: y :: z :: rest) (hc : x.category = 1) (hc' : y.category = 1) (hc2 : z.category = 1)
    (hr : Steps tb e below (T.setTop { g with pc := g.pc + 1, stack := x :: y :: z :: x :: rest }) target) : Steps tb e below (T.setTop g) target := by
  subst hg
  jvm_step h [h.top, hx, hd, hs, hc, hc', hc2]
  exact hr
theorem gdup_x2 (B : Fix p Z s m meth c bytes maxL own nm ret) (X : St p l e R s m args below meth c h0 ws T h cells slots) {x y z : Value} (hd : decode bytes pc = .ok (.dup_x2, 1)) (hc : x.category = 1) (hc2 : y.category = 1) (hc3 : z.category = 1) (hp : pc' = pc + 1) (g : Go p e below s K N h0 ws Q T (mkF m pc' Ls (x :: y :: z :: x :: st))) : Go p e below s K N h0 ws Q T (mkF m pc Ls (x :: y :: z :: st)) := by
  subst hp; obtain ⟨L, X, -⟩ := X; exact Go.to (fun t k => xdup_x2 X.here B.1 rfl (hb B.2.2.1 hd) rfl hc hc2 hc3 k) g
theorem giinc (B : Fix p Z s m meth c bytes maxL own nm ret) (X : St p l e R s m args below meth c h0 ws T h cells slots) {k : Nat} {cst : Int} {x v : Int32} (hd : decode bytes pc = .ok (.iinc k cst, 3)) (hl : Ls[k]? = some (.val (.int x))) (hv : x + Int32.ofInt cst = v) (hl' : storeLocals Ls k (.int v) = some Ls') (hp : pc' = pc + 3) (g : Go p e below s K N h0 ws Q T (mkF m pc' Ls' st)) : Go p e below s K N h0 ws Q T (mkF m pc Ls st) := by
  subst hp; subst hv; obtain ⟨L, X, -⟩ := X; exact Go.to (fun t k => XS.iinc X.here B.1 rfl (hb B.2.2.1 hd) hl hl' k) g
theorem ggoto (B : Fix p Z s m meth c bytes maxL own nm ret) (X : St p l e R s m args below meth c h0 ws T h cells slots) {o : Int} (hd : decode bytes pc = .ok (.goto o, 3)) (ho : 0 ≤ (pc : Int) + o ∧ ((pc : Int) + o).toNat = pc') (g : Go p e below s K N h0 ws Q T (mkF m pc' Ls st)) : Go p e below s K N h0 ws Q T (mkF m pc Ls st) := by
  obtain ⟨L, X, -⟩ := X; exact Go.to (fun t k => XS.goto X.here B.1 rfl (pc0 := pc) rfl (hb B.2.2.1 hd) ho.1 ho.2 k) g
theorem gifY (B : Fix p Z s m meth c bytes maxL own nm ret) (X : St p l e R s m args below meth c h0 ws T h cells slots) {cd : ClassFile.Cond} {o : Int} {x : Int32} (hd : decode bytes pc = .ok (.ifCond cd o, 3)) (hc : ifCond.holds cd x = true) (ho : 0 ≤ (pc : Int) + o ∧ ((pc : Int) + o).toNat = pc') (g : Go p e below s K N h0 ws Q T (mkF m pc' Ls st)) : Go p e below s K N h0 ws Q T (mkF m pc Ls (.int x :: st)) := by
  obtain ⟨L, X, -⟩ := X; exact Go.to (fun t k => XS.ifYes X.here B.1 rfl (pc0 := pc) rfl (hb B.2.2.1 hd) rfl hc ho.1 ho.2 k) g
theorem gifN (B : Fix p Z s m meth c bytes maxL own nm ret) (X : St p l e R s m args below meth c h0 ws T h cells slots) {cd : ClassFile.Cond} {o : Int} {x : Int32} (hd : decode bytes pc = .ok (.ifCond cd o, 3)) (hc : ifCond.holds cd x = false) (hp : pc' = pc + 3) (g : Go p e below s K N h0 ws Q T (mkF m pc' Ls st)) : Go p e below s K N h0 ws Q T (mkF m pc Ls (.int x :: st)) := by
  subst hp; obtain ⟨L, X, -⟩ := X; exact Go.to (fun t k => XS.ifNo X.here B.1 rfl (hb B.2.2.1 hd) rfl hc k) g
theorem gicY (B : Fix p Z s m meth c bytes maxL own nm ret) (X : St p l e R s m args below meth c h0 ws T h cells slots) {cd : ClassFile.Cond} {o : Int} {x y : Int32} (hd : decode bytes pc = .ok (.if_icmp cd o, 3)) (hc : if_icmp.holds cd x y = true) (ho : 0 ≤ (pc : Int) + o ∧ ((pc : Int) + o).toNat = pc') (g : Go p e below s K N h0 ws Q T (mkF m pc' Ls st)) : Go p e below s K N h0 ws Q T (mkF m pc Ls (.int y :: .int x :: st)) := by
  obtain ⟨L, X, -⟩ := X; exact Go.to (fun t k => XS.icmpYes X.here B.1 rfl (pc0 := pc) rfl (hb B.2.2.1 hd) rfl hc ho.1 ho.2 k) g
theorem gicN (B : Fix p Z s m meth c bytes maxL own nm ret) (X : St p l e R s m args below meth c h0 ws T h cells slots) {cd : ClassFile.Cond} {o : Int} {x y : Int32} (hd : decode bytes pc = .ok (.if_icmp cd o, 3)) (hc : if_icmp.holds cd x y = false) (hp : pc' = pc + 3) (g : Go p e below s K N h0 ws Q T (mkF m pc' Ls st)) : Go p e below s K N h0 ws Q T (mkF m pc Ls (.int y :: .int x :: st)) := by
  subst hp; obtain ⟨L, X, -⟩ := X; exact Go.to (fun t k => XS.icmpNo X.here B.1 rfl (hb B.2.2.1 hd) rfl hc k) g
theorem gnullN (B : Fix p Z s m meth c bytes maxL own nm ret) (X : St p l e R s m args below meth c h0 ws T h cells slots) {a : Addr} {o : Int} (hd : decode bytes pc = .ok (.ifnull o, 3)) (hp : pc' = pc + 3) (g : Go p e below s K N h0 ws Q T (mkF m pc' Ls st)) : Go p e below s K N h0 ws Q T (mkF m pc Ls (.ref a :: st)) := by
  subst hp; obtain ⟨L, X, -⟩ := X; exact Go.to (fun t k => XS.ifnullNo X.here B.1 rfl (hb B.2.2.1 hd) rfl k) g
theorem gldc (B : Fix p Z s m meth c bytes maxL own nm ret) (X : St p l e R s m args below meth c h0 ws T h cells slots) {i : Nat} {v : Int32} (w : (Cond.constant own i v).before a0 Z = true) (hd : decode bytes pc = .ok (.ldc i, 2)) (hp : pc' = pc + 2) (g : Go p e below s K N h0 ws Q T (mkF m pc' Ls (.int v :: st))) : Go p e below s K N h0 ws Q T (mkF m pc Ls st) := by
  subst hp; obtain ⟨L, X, -⟩ := X; exact Go.to (fun t k => X.ldcInt B.1 B.2.2.2.2.1 (mvT B.2.1 w) (g := mkF m pc Ls st) rfl (hb B.2.2.1 hd) t k) g
theorem gldcw (B : Fix p Z s m meth c bytes maxL own nm ret) (X : St p l e R s m args below meth c h0 ws T h cells slots) {i : Nat} {v : Int32} (w : (Cond.constant own i v).before a0 Z = true) (hd : decode bytes pc = .ok (.ldc_w i, 3)) (hp : pc' = pc + 3) (g : Go p e below s K N h0 ws Q T (mkF m pc' Ls (.int v :: st))) : Go p e below s K N h0 ws Q T (mkF m pc Ls st) := by
  subst hp; obtain ⟨L, X, -⟩ := X; exact Go.to (fun t k => X.ldcwInt B.1 B.2.2.2.2.1 (mvT B.2.1 w) (g := mkF m pc Ls st) rfl (hb B.2.2.1 hd) t k) g
theorem gldc2 (B : Fix p Z s m meth c bytes maxL own nm ret) (X : St p l e R s m args below meth c h0 ws T h cells slots) {i : Nat} {v : Int64} (w : (Cond.constantLong own i v).before a0 Z = true) (hd : decode bytes pc = .ok (.ldc2_w i, 3)) (hp : pc' = pc + 3) (g : Go p e below s K N h0 ws Q T (mkF m pc' Ls (.long v :: st))) : Go p e below s K N h0 ws Q T (mkF m pc Ls st) := by
  subst hp; obtain ⟨L, X, -⟩ := X; exact Go.to (fun t k => X.ldc2Long B.1 B.2.2.2.2.1 (mvT B.2.1 w) (g := mkF m pc Ls st) rfl (hb B.2.2.1 hd) t k) g
theorem giaload (B : Fix p Z s m meth c bytes maxL own nm ret) (X : St p l e R s m args below meth c h0 ws T h cells slots) {a : Addr} {vs : List Value} {j : Int32} {v : Value} {n : Nat} (A : VA Z h a .int vs) (hn : vs.length = n) (hj : 0 ≤ j.toInt ∧ j.toInt < n) (hv : vs[j.toNatClampNeg]? = some v) (hd : decode bytes pc = .ok (.iaload, 1)) (hp : pc' = pc + 1) (g : Go p e below s K N h0 ws Q T (mkF m pc' Ls (v :: st))) : Go p e below s K N h0 ws Q T (mkF m pc Ls (.int j :: .ref a :: st)) := by
  subst hp; subst hn; obtain ⟨L, X, eT, -⟩ := X; obtain ⟨cl, A, r, n⟩ := A
  exact Go.to (fun t k => X.iaload B.1 (by rw [eT]; exact A.1) (State.isArrayOf_alike B.2.1.alike A.2.1) A.2.2 (by rw [r]; exact inb (by simpa using hj)) (by rw [r]; simpa using hv) (g := mkF m pc Ls (.int j :: .ref a :: st)) rfl rfl (hb B.2.2.1 hd) t k) g
theorem glaload (B : Fix p Z s m meth c bytes maxL own nm ret) (X : St p l e R s m args below meth c h0 ws T h cells slots) {a : Addr} {vs : List Value} {j : Int32} {v : Value} {n : Nat} (A : VA Z h a .long vs) (hn : vs.length = n) (hj : 0 ≤ j.toInt ∧ j.toInt < n) (hv : vs[j.toNatClampNeg]? = some v) (hd : decode bytes pc = .ok (.laload, 1)) (hp : pc' = pc + 1) (g : Go p e below s K N h0 ws Q T (mkF m pc' Ls (v :: st))) : Go p e below s K N h0 ws Q T (mkF m pc Ls (.int j :: .ref a :: st)) := by
  subst hp; subst hn; obtain ⟨L, X, eT, -⟩ := X; obtain ⟨cl, A, r, n⟩ := A
  exact Go.to (fun t k => X.laload B.1 (by rw [eT]; exact A.1) (State.isArrayOf_alike B.2.1.alike A.2.1) A.2.2 (by rw [r]; exact inb (by simpa using hj)) (by rw [r]; simpa using hv) (g := mkF m pc Ls (.int j :: .ref a :: st)) rfl rfl (hb B.2.2.1 hd) t k) g
theorem gbaload (B : Fix p Z s m meth c bytes maxL own nm ret) (X : St p l e R s m args below meth c h0 ws T h cells slots) {a : Addr} {vs : List Value} {j : Int32} {v : Value} {n : Nat} (A : VA Z h a .byte vs) (hn : vs.length = n) (hj : 0 ≤ j.toInt ∧ j.toInt < n) (hv : vs[j.toNatClampNeg]? = some v) (hd : decode bytes pc = .ok (.baload, 1)) (hp : pc' = pc + 1) (g : Go p e below s K N h0 ws Q T (mkF m pc' Ls (v :: st))) : Go p e below s K N h0 ws Q T (mkF m pc Ls (.int j :: .ref a :: st)) := by
  subst hp; subst hn; obtain ⟨L, X, eT, -⟩ := X; obtain ⟨cl, A, r, n⟩ := A
  exact Go.to (fun t k => X.baloadBytes B.1 (by rw [eT]; exact A.1) (State.isArrayOf_alike B.2.1.alike A.2.1) A.2.2 (by rw [r]; exact inb (by simpa using hj)) (by rw [r]; simpa using hv) (g := mkF m pc Ls (.int j :: .ref a :: st)) rfl rfl (hb B.2.2.1 hd) t k) g
theorem gzaload (B : Fix p Z s m meth c bytes maxL own nm ret) (X : St p l e R s m args below meth c h0 ws T h cells slots) {a : Addr} {vs : List Value} {j : Int32} {v : Value} {n : Nat} (A : VA Z h a .boolean vs) (hn : vs.length = n) (hj : 0 ≤ j.toInt ∧ j.toInt < n) (hv : vs[j.toNatClampNeg]? = some v) (hd : decode bytes pc = .ok (.baload, 1)) (hp : pc' = pc + 1) (g : Go p e below s K N h0 ws Q T (mkF m pc' Ls (v :: st))) : Go p e below s K N h0 ws Q T (mkF m pc Ls (.int j :: .ref a :: st)) := by
  subst hp; subst hn; obtain ⟨L, X, eT, -⟩ := X; obtain ⟨cl, A, r, n⟩ := A
  exact Go.to (fun t k => X.baloadBooleans B.1 (by rw [eT]; exact A.1) (State.isArrayOf_alike B.2.1.alike A.2.1) A.2.2 (by rw [r]; exact inb (by simpa using hj)) (by rw [r]; simpa using hv) (g := mkF m pc Ls (.int j :: .ref a :: st)) rfl rfl (hb B.2.2.1 hd) t k) g
theorem glength (B : Fix p Z s m meth c bytes maxL own nm ret) (X : St p l e R s m args below meth c h0 ws T h cells slots) {a : Addr} {ty : FieldType} {vs : List Value} {n : Int32} {k : Nat} (A : VA Z h a ty vs) (hk : vs.length = k) (hn : n.toInt = k) (hd : decode bytes pc = .ok (.arraylength, 1)) (hp : pc' = pc + 1) (g : Go p e below s K N h0 ws Q T (mkF m pc' Ls (.int n :: st))) : Go p e below s K N h0 ws Q T (mkF m pc Ls (.ref a :: st)) := by
  subst hp; subst hk; obtain ⟨L, X, eT, -⟩ := X; obtain ⟨cl, A, r, q⟩ := A
  have e1 : cl.slots.size.toInt32 = n := by rw [r]; apply Int32.toInt_inj.mp; rw [len_toInt (by simpa using q), hn]; simp
  exact Go.to (fun t k => X.arraylength B.1 (by rw [eT]; exact A.1) (State.isArrayOf_alike B.2.1.alike A.2.1) (g := mkF m pc Ls (.ref a :: st)) rfl rfl (hb B.2.2.1 hd) t (by rw [e1]; exact k)) g
theorem giastore (B : Fix p Z s m meth c bytes maxL own nm ret) (X : St p l e R s m args below meth c h0 ws T h cells slots) {a : Addr} {vs vs' : List Value} {j : Int32} {x : Int32} {i n : Nat} (A : VA Z h a .int vs) (hn : vs.length = n) (hj : 0 ≤ j.toInt ∧ j.toInt < n) (hi : j.toNatClampNeg = i) (hvs : vs.set i (.int x) = vs') (ha : a ∈ ws ∨ h0.size ≤ a) (hd : decode bytes pc = .ok (.iastore, 1)) (hp : pc' = pc + 1) (g : ∀ T' h', St p l e R s m args below meth c h0 ws T' h' cells slots → Wr h h' a i (.int x) → VA Z h' a .int vs' → Go p e below s K N h0 ws Q T' (mkF m pc' Ls st)) : Go p e below s K N h0 ws Q T (mkF m pc Ls (.int x :: .int j :: .ref a :: st)) := by
  subst hp; subst hi; subst hvs; subst hn; obtain ⟨L, X, eT, KK, FF⟩ := X; have A0 := A; obtain ⟨cl, A, r, n⟩ := A
  obtain ⟨T', h', X', e', W, k⟩ := stI X B.1 B.2.1 eT A (by rw [r]; exact inb (by simpa using hj)) (g := mkF m pc Ls (.int x :: .int j :: .ref a :: st)) rfl rfl (hb B.2.2.1 hd)
  exact Go.to k (g T' h' ⟨_, X', e', KK.wr W ha, fun y hy => (List.mem_append.mp hy).elim (FF y) fun q => by cases List.mem_singleton.mp q; exact ha⟩ W (A0.set W))
theorem glastore (B : Fix p Z s m meth c bytes maxL own nm ret) (X : St p l e R s m args below meth c h0 ws T h cells slots) {a : Addr} {vs vs' : List Value} {j : Int32} {x : Int64} {i n : Nat} (A : VA Z h a .long vs) (hn : vs.length = n) (hj : 0 ≤ j.toInt ∧ j.toInt < n) (hi : j.toNatClampNeg = i) (hvs : vs.set i (.long x) = vs') (ha : a ∈ ws ∨ h0.size ≤ a) (hd : decode bytes pc = .ok (.lastore, 1)) (hp : pc' = pc + 1) (g : ∀ T' h', St p l e R s m args below meth c h0 ws T' h' cells slots → Wr h h' a i (.long x) → VA Z h' a .long vs' → Go p e below s K N h0 ws Q T' (mkF m pc' Ls st)) : Go p e below s K N h0 ws Q T (mkF m pc Ls (.long x :: .int j :: .ref a :: st)) := by
  subst hp; subst hi; subst hvs; subst hn; obtain ⟨L, X, eT, KK, FF⟩ := X; have A0 := A; obtain ⟨cl, A, r, n⟩ := A
  obtain ⟨T', h', X', e', W, k⟩ := stJ X B.1 B.2.1 eT A (by rw [r]; exact inb (by simpa using hj)) (g := mkF m pc Ls (.long x :: .int j :: .ref a :: st)) rfl rfl (hb B.2.2.1 hd)
  exact Go.to k (g T' h' ⟨_, X', e', KK.wr W ha, fun y hy => (List.mem_append.mp hy).elim (FF y) fun q => by cases List.mem_singleton.mp q; exact ha⟩ W (A0.set W))
theorem gbastore (B : Fix p Z s m meth c bytes maxL own nm ret) (X : St p l e R s m args below meth c h0 ws T h cells slots) {a : Addr} {vs vs' : List Value} {j : Int32} {x : Int32} {i n : Nat} (A : VA Z h a .byte vs) (hn : vs.length = n) (hj : 0 ≤ j.toInt ∧ j.toInt < n) (hi : j.toNatClampNeg = i) (hvs : vs.set i (.int x.toInt8.toInt32) = vs') (ha : a ∈ ws ∨ h0.size ≤ a) (hd : decode bytes pc = .ok (.bastore, 1)) (hp : pc' = pc + 1) (g : ∀ T' h', St p l e R s m args below meth c h0 ws T' h' cells slots → Wr h h' a i (.int x.toInt8.toInt32) → VA Z h' a .byte vs' → Go p e below s K N h0 ws Q T' (mkF m pc' Ls st)) : Go p e below s K N h0 ws Q T (mkF m pc Ls (.int x :: .int j :: .ref a :: st)) := by
  subst hp; subst hi; subst hvs; subst hn; obtain ⟨L, X, eT, KK, FF⟩ := X; have A0 := A; obtain ⟨cl, A, r, n⟩ := A
  obtain ⟨T', h', X', e', W, k⟩ := stB X B.1 B.2.1 eT A (by rw [r]; exact inb (by simpa using hj)) (g := mkF m pc Ls (.int x :: .int j :: .ref a :: st)) rfl rfl (hb B.2.2.1 hd)
  exact Go.to k (g T' h' ⟨_, X', e', KK.wr W ha, fun y hy => (List.mem_append.mp hy).elim (FF y) fun q => by cases List.mem_singleton.mp q; exact ha⟩ W (A0.set W))
theorem gzastore (B : Fix p Z s m meth c bytes maxL own nm ret) (X : St p l e R s m args below meth c h0 ws T h cells slots) {a : Addr} {vs vs' : List Value} {j : Int32} {x : Int32} {i n : Nat} (A : VA Z h a .boolean vs) (hn : vs.length = n) (hj : 0 ≤ j.toInt ∧ j.toInt < n) (hi : j.toNatClampNeg = i) (hvs : vs.set i (.int (x &&& 1)) = vs') (ha : a ∈ ws ∨ h0.size ≤ a) (hd : decode bytes pc = .ok (.bastore, 1)) (hp : pc' = pc + 1) (g : ∀ T' h', St p l e R s m args below meth c h0 ws T' h' cells slots → Wr h h' a i (.int (x &&& 1)) → VA Z h' a .boolean vs' → Go p e below s K N h0 ws Q T' (mkF m pc' Ls st)) : Go p e below s K N h0 ws Q T (mkF m pc Ls (.int x :: .int j :: .ref a :: st)) := by
  subst hp; subst hi; subst hvs; subst hn; obtain ⟨L, X, eT, KK, FF⟩ := X; have A0 := A; obtain ⟨cl, A, r, n⟩ := A
  obtain ⟨T', h', X', e', W, k⟩ := stZ X B.1 B.2.1 eT A (by rw [r]; exact inb (by simpa using hj)) (g := mkF m pc Ls (.int x :: .int j :: .ref a :: st)) rfl rfl (hb B.2.2.1 hd)
  exact Go.to k (g T' h' ⟨_, X', e', KK.wr W ha, fun y hy => (List.mem_append.mp hy).elim (FF y) fun q => by cases List.mem_singleton.mp q; exact ha⟩ W (A0.set W))
theorem gnewarray (B : Fix p Z s m meth c bytes maxL own nm ret) (X : St p l e R s m args below meth c h0 ws T h cells slots) {aty : ArrayType} {n : Int32} {cap : Nat} {vs : List Value} {ty : FieldType} (hty : newarray.typeOf aty = ty) (hvs : List.replicate n.toNatClampNeg (defaultValue ty) = vs) (w : (Cond.arrayClass ty).before a0 Z = true) (hn : 0 ≤ n.toInt) (hcap : n.toInt ≤ cap) (hb8 : cap * 8 ≤ 536870912) (hc : cells + 1 ≤ R.cells) (hl : slots + cap ≤ R.slots) (hd : decode bytes pc = .ok (.newarray aty, 2)) (hp : pc' = pc + 2) (g : ∀ T' h' a, St p l e R s m args below meth c h0 ws T' h' (cells + 1) (slots + cap) → a = h.size → Ext h h' → h0.size ≤ a → VA Z h' a ty vs → Go p e below s K N h0 ws Q T' (mkF m pc' Ls (.ref a :: st))) : Go p e below s K N h0 ws Q T (mkF m pc Ls (.int n :: st)) := by
  subst hp; subst hty; subst hvs; obtain ⟨L, X, eT, KK, FF⟩ := X
  have hn' : ¬ n < 0 := by rw [Int32.lt_iff_toInt_lt, show (0 : Int32).toInt = 0 from rfl]; omega
  obtain ⟨T', h', cA, X', e', E, A, k⟩ := newP X B.1 B.2.1 w eT (g := mkF m pc Ls (.int n :: st)) rfl (hb B.2.2.1 hd) rfl hn' (cap := cap) (by simp only [Int32.toNatClampNeg]; omega) hb8 hc hl
  exact Go.to k (g T' h' _ ⟨_, X', e', KK.ext E, FF⟩ rfl E KK.1 (VA.new A hn'))
theorem gget (B : Fix p Z s m meth c bytes maxL own nm ret) (X : St p l e R s m args below meth c h0 ws T h cells slots) {a : Addr} {i : Nat} {C n d : String} {v : Value} (w : (Cond.fieldLink own i C n d).before a0 Z = true) (F : Fld Z h a C n d v) (hd : decode bytes pc = .ok (.getfield i, 3)) (hp : pc' = pc + 3) (g : ∀ T', St p l e R s m args below meth c h0 ws T' h cells slots → Go p e below s K N h0 ws Q T' (mkF m pc' Ls (v :: st))) : Go p e below s K N h0 ws Q T (mkF m pc Ls (.ref a :: st)) := by
  subst hp; obtain ⟨L, X, eT, r⟩ := X
  obtain ⟨T', X', e', k⟩ := getF X B.1 B.2.1 B.2.2.2.2.1 (host := "") (Or.inl w) Via.refl eT F (g := mkF m pc Ls (.ref a :: st)) rfl rfl (hb B.2.2.1 hd)
  exact Go.to k (g T' ⟨L, X', e', r⟩)
theorem gput (B : Fix p Z s m meth c bytes maxL own nm ret) (X : St p l e R s m args below meth c h0 ws T h cells slots) {a : Addr} {i kk : Nat} {C O n d : String} {ty : FieldType} {v old : Value} (w : (Cond.fieldLink own i O n d).before a0 Z = true) (F : Fld Z h a O n d old) (E : Exa Z h a C) (L : (Cond.lays C O n d).before a0 Z = true ∨ ((Cond.laysFinal C O n d).before a0 Z = true ∧ own = O ∧ nm = "<init>")) (wi : (Cond.instantiable C kk).before a0 Z = true) (hty : parseFieldDescriptor d = some ty) (hn : narrow ty v = v) (hf : fits ty v = true) (ha : a ∈ ws ∨ h0.size ≤ a) (hd : decode bytes pc = .ok (.putfield i, 3)) (hp : pc' = pc + 3) (g : ∀ T' h', St p l e R s m args below meth c h0 ws T' h' cells slots → Wr h h' a (Jvm.RoadKit.slotOf Z O n d) v → Go p e below s K N h0 ws Q T' (mkF m pc' Ls st)) : Go p e below s K N h0 ws Q T (mkF m pc Ls (v :: .ref a :: st)) := by
  subst hp; obtain ⟨L0, X, eT, KK, FF⟩ := X
  obtain ⟨T', h', X', e', W, k⟩ := putF X B.1 B.2.1 B.2.2.2.2.1 (host := "") (Or.inl w) Via.refl eT F E (L.imp id fun q => ⟨q.1, q.2.1, B.2.2.2.2.2.1.trans q.2.2⟩) wi hty hn hf (g := mkF m pc Ls (v :: .ref a :: st)) rfl rfl (hb B.2.2.1 hd)
  exact Go.to k (g T' h' ⟨_, X', e', KK.wr W ha, fun y hy => (List.mem_append.mp hy).elim (FF y) fun q => by cases List.mem_singleton.mp q; exact ha⟩ W)
theorem gnew (B : Fix p Z s m meth c bytes maxL own nm ret) (X : St p l e R s m args below meth c h0 ws T h cells slots) {i n : Nat} {C : String} (w : (Cond.classLink own i C).before a0 Z = true) (wi : (Cond.instantiable C n).before a0 Z = true) (wz : (Cond.initialized C).before a0 Z = true) (hc : cells + 1 ≤ R.cells) (hl : slots + n ≤ R.slots) (hd : decode bytes pc = .ok (.new i, 3)) (hp : pc' = pc + 3) (g : ∀ T' h' a, St p l e R s m args below meth c h0 ws T' h' (cells + 1) (slots + n) → a = h.size → Ext h h' → h0.size ≤ a → Exa Z h' a C → (∀ {O nm d : String} {ty : FieldType}, Laid Z a0 C O nm d → parseFieldDescriptor d = some ty → Fld Z h' a O nm d (defaultValue ty)) → Go p e below s K N h0 ws Q T' (mkF m pc' Ls (.ref a :: st))) : Go p e below s K N h0 ws Q T (mkF m pc Ls st) := by
  subst hp; obtain ⟨L0, X, eT, KK, FF⟩ := X
  obtain ⟨T', h', X', e', E, A, D, -, k⟩ := newO X B.1 B.2.1 B.2.2.2.2.1 w wi wz eT (g := mkF m pc Ls st) rfl (hb B.2.2.1 hd) hc hl
  exact Go.to k (g T' h' _ ⟨_, X', e', KK.ext E, FF⟩ rfl E KK.1 A D)
theorem ginitO (B : Fix p Z s m meth c bytes maxL own nm ret) (X : St p l e R s m args below meth c h0 ws T h cells slots) {a : Addr} {i W : Nat} (w1 : (Cond.methodLink own i Lib.objectInit).before a0 Z = true) (w2 : (Cond.instanceMethod Lib.objectInit).before a0 Z = true) (w3 : (Cond.code Lib.objectInit ⟨#[0xb1]⟩ 1 none).before a0 Z = true) (hsz : Ls.size = maxL) (hf : 1 ≤ R.frames) (hW : (st.map fun v => v.category).sum ≤ W) (hl : W + 12 ≤ R.locals) (hd : decode bytes pc = .ok (.invokespecial i, 3)) (hp : pc' = pc + 3) (g : ∀ T', St p l e R s m args below meth c h0 ws T' h cells slots → Go p e below s K N h0 ws Q T' (mkF m pc' Ls st)) : Go p e below s K N h0 ws Q T (mkF m pc Ls (.ref a :: st)) := by
  subst hp; obtain ⟨L0, X, eT, r⟩ := X
  obtain ⟨T', X', e', k⟩ := initO X B.1 B.2.1 B.2.2.2.2.1 w1 w2 w3 eT (g := mkF m pc Ls (.ref a :: st)) rfl (hsz.trans B.2.2.2.1.symm) rfl (hb B.2.2.1 hd) hf (W := W) (by show 2 * 0 + _ ≤ _; rw [Nat.mul_zero, Nat.zero_add]; exact hW) hl
  exact Go.to k (g T' ⟨L0, X', e', r⟩)
theorem gcallS (B : Fix p Z s m meth c bytes maxL own nm ret) (X : St p l e R s m args below meth c h0 ws T h cells slots) {y : MethodName} {bytes' : ByteArray} {maxL' : Nat} {ret' : Option FieldType} {rm : Room} {ws' : List Addr} {Q' : Option Value → Heap → Prop} {stk argsL : List Value} {i W : Nat} {ps : List FieldType} {rr : Option FieldType}  (w1 : (Cond.methodLink own i y).before a0 Z = true) (w2 : (Cond.static y).before a0 Z = true) (w3 : (Cond.initialized y.cls).before a0 Z = true) (w4 : (Cond.code y bytes' maxL' ret').before a0 Z = true) (hy : y.cls ≠ "java/lang/invoke/MethodHandle" ∧ y.cls ≠ "java/lang/invoke/VarHandle") (M : Meth l Z y bytes' maxL' ret' rm argsL.toArray h ws' Q') (hpd : parseMethodDescriptor y.desc = some ⟨ps, rr⟩) (hlen : argsL.length = ps.length) (hstk : stk = argsL.reverse ++ st) (hsz : Ls.size = maxL) (hW : (st.map fun v => v.category).sum ≤ W) (hfr : rm.frames + 1 ≤ R.frames) (hlo : W + (maxL' + 11) + rm.locals ≤ R.locals) (hcs : cells + rm.cells ≤ R.cells) (hss : slots + rm.slots ≤ R.slots) (hws : ∀ x ∈ ws', x ∈ ws ∨ h0.size ≤ x) (hd : decode bytes pc = .ok (.invokestatic i, 3)) (hp : pc' = pc + 3)
    (g : ∀ T' h' v, St p l e R s m args below meth c h0 ws T' h' (cells + rm.cells) (slots + rm.slots) → Keep h h' ws' → Q' v h' → Go p e below s K N h0 ws Q T' (mkF m pc' Ls (v.toList ++ st))) : Go p e below s K N h0 ws Q T (mkF m pc Ls stk) := by
  subst hp; subst hstk; obtain ⟨L0, X, eT, KK, FF⟩ := X
  obtain ⟨v2, _, ⟨T2, L2, c2, n2⟩, -, X2, ⟨Lc2, hq, l2, y2, z2⟩, k2⟩ := Jvm.LawKit.callS X B.1 (y := y) B.2.2.2.2.1 (mvT B.2.1 w1) (mvT B.2.1 w2) (mvT B.2.1 w3) (mvT B.2.1 w4) hy (backOf (W := W) (Q := fun v h' L => Q' v h' ∧ Keep h h' ws' ∧ FrW h ws' L) (M []) B.2.1 w4 w3 hfr hlo) (g := mkF m pc Ls (argsL.reverse ++ st)) rfl (hsz.trans B.2.2.2.1.symm) (argsL := argsL) (rest := st) (lenOf hpd hlen) rfl (by show 2 * 0 + _ ≤ _; rw [Nat.mul_zero, Nat.zero_add]; exact hW) (hb B.2.2.1 hd) (fun _ _ => ⟨rfl, eT, hcs, hss⟩)
  dsimp only [Pt.U, Pt.locs, Pt.cells, Pt.slots] at X2 l2 y2 z2 k2 hq
  subst l2 y2 z2
  refine Go.to k2 (g T2 T2.heap v2 ⟨_, X2, rfl, KK.trans hq.2.1 hws, fun y hy => (List.mem_append.mp hy).elim (FF y) fun q => ?_⟩ hq.2.1 hq.1)
  exact (hq.2.2 y q).elim (fun z => hws _ z) fun z => Or.inr (Nat.le_trans KK.1 z)
theorem gcallI (B : Fix p Z s m meth c bytes maxL own nm ret) (X : St p l e R s m args below meth c h0 ws T h cells slots) {y : MethodName} {bytes' : ByteArray} {maxL' : Nat} {ret' : Option FieldType} {rm : Room} {ws' : List Addr} {Q' : Option Value → Heap → Prop} {stk argsL : List Value} {i W : Nat} {ps : List FieldType} {rr : Option FieldType} {a : Addr} (hni : y.name = "<init>") (hret : ret' = none) (w1 : (Cond.methodLink own i y).before a0 Z = true) (w2 : (Cond.instanceMethod y).before a0 Z = true) (w3 : (Cond.initialized y.cls).before a0 Z = true) (w4 : (Cond.code y bytes' maxL' ret').before a0 Z = true) (hy : y.cls ≠ "java/lang/invoke/MethodHandle" ∧ y.cls ≠ "java/lang/invoke/VarHandle") (M : Meth l Z y bytes' maxL' ret' rm (.ref a :: argsL).toArray h ws' Q') (hpd : parseMethodDescriptor y.desc = some ⟨ps, rr⟩) (hlen : argsL.length = ps.length) (hstk : stk = argsL.reverse ++ .ref a :: st) (hsz : Ls.size = maxL) (hW : (st.map fun v => v.category).sum ≤ W) (hfr : rm.frames + 1 ≤ R.frames) (hlo : W + (maxL' + 11) + rm.locals ≤ R.locals) (hcs : cells + rm.cells ≤ R.cells) (hss : slots + rm.slots ≤ R.slots) (hws : ∀ x ∈ ws', x ∈ ws ∨ h0.size ≤ x) (hd : decode bytes pc = .ok (.invokespecial i, 3)) (hp : pc' = pc + 3)
    (g : ∀ T' h' v, St p l e R s m args below meth c h0 ws T' h' (cells + rm.cells) (slots + rm.slots) → Keep h h' ws' → Q' v h' → Go p e below s K N h0 ws Q T' (mkF m pc' Ls (v.toList ++ st))) : Go p e below s K N h0 ws Q T (mkF m pc Ls stk) := by
  subst hp; subst hstk; obtain ⟨L0, X, eT, KK, FF⟩ := X
  subst hret
  obtain ⟨v2, _, ⟨T2, L2, c2, n2⟩, -, X2, ⟨Lc2, hq, l2, y2, z2⟩, k2⟩ := X.specialBack B.1 (y := y) hni B.2.2.2.2.1 (mvT B.2.1 w1) (mvT B.2.1 w2) (mvT B.2.1 w4) hy (backOf (W := W) (Q := fun v h' L => Q' v h' ∧ Keep h h' ws' ∧ FrW h ws' L) (M []) B.2.1 w4 w3 hfr hlo) (g := mkF m pc Ls (argsL.reverse ++ .ref a :: st)) rfl (hsz.trans B.2.2.2.1.symm) (Steps.refl _) (a := a) (argsL := argsL) (rest := st) (lenOf hpd hlen) rfl (by show 2 * 0 + _ ≤ _; rw [Nat.mul_zero, Nat.zero_add]; exact hW) (hb B.2.2.1 hd) (fun _ _ => ⟨rfl, eT, hcs, hss⟩)
  dsimp only [Pt.U, Pt.locs, Pt.cells, Pt.slots] at X2 l2 y2 z2 k2 hq
  subst l2 y2 z2
  refine Go.to (fun t kt => k2.trans kt) (g T2 T2.heap v2 ⟨_, X2, rfl, KK.trans hq.2.1 hws, fun y hy => (List.mem_append.mp hy).elim (FF y) fun q => ?_⟩ hq.2.1 hq.1)
  exact (hq.2.2 y q).elim (fun z => hws _ z) fun z => Or.inr (Nat.le_trans KK.1 z)
theorem gcallV (B : Fix p Z s m meth c bytes maxL own nm ret) (X : St p l e R s m args below meth c h0 ws T h cells slots) {y : MethodName} {bytes' : ByteArray} {maxL' : Nat} {ret' : Option FieldType} {rm : Room} {ws' : List Addr} {Q' : Option Value → Heap → Prop} {stk argsL : List Value} {i W : Nat} {ps : List FieldType} {rr : Option FieldType} {a : Addr} {z : MethodName} {C : String} (E : Exa Z h a C) (w1 : (Cond.methodLink own i y).before a0 Z = true) (w2 : (Cond.declares y).before a0 Z = true) (w5 : (Cond.selects C y z).before a0 Z = true) (w6 : (Cond.instanceMethod z).before a0 Z = true) (w3 : (Cond.initialized z.cls).before a0 Z = true) (w4 : (Cond.code z bytes' maxL' ret').before a0 Z = true) (hyz : y = z) (hy : y.cls ≠ "java/lang/invoke/MethodHandle" ∧ y.cls ≠ "java/lang/invoke/VarHandle") (M : Meth l Z z bytes' maxL' ret' rm (.ref a :: argsL).toArray h ws' Q') (hpd : parseMethodDescriptor y.desc = some ⟨ps, rr⟩) (hlen : argsL.length = ps.length) (hstk : stk = argsL.reverse ++ .ref a :: st) (hsz : Ls.size = maxL) (hW : (st.map fun v => v.category).sum ≤ W) (hfr : rm.frames + 1 ≤ R.frames) (hlo : W + (maxL' + 11) + rm.locals ≤ R.locals) (hcs : cells + rm.cells ≤ R.cells) (hss : slots + rm.slots ≤ R.slots) (hws : ∀ x ∈ ws', x ∈ ws ∨ h0.size ≤ x) (hd : decode bytes pc = .ok (.invokevirtual i, 3)) (hp : pc' = pc + 3)
    (g : ∀ T' h' v, St p l e R s m args below meth c h0 ws T' h' (cells + rm.cells) (slots + rm.slots) → Keep h h' ws' → Q' v h' → Go p e below s K N h0 ws Q T' (mkF m pc' Ls (v.toList ++ st))) : Go p e below s K N h0 ws Q T (mkF m pc Ls stk) := by
  subst hp; subst hstk; obtain ⟨L0, X, eT, KK, FF⟩ := X
  subst hyz
  obtain ⟨cq, kq, qa, qb, qc⟩ := isOf B.2.1 eT E
  obtain ⟨v2, _, ⟨T2, L2, c2, n2⟩, -, X2, ⟨Lc2, hq, l2, y2, z2⟩, k2⟩ := X.virtualBack B.1 (y := y) (z := y) B.2.2.2.2.1 (mvT B.2.1 w1) (mvT B.2.1 w2) (notFace_of_selects (args := #[]) (mvT B.2.1 w5)) (mvT B.2.1 w5) (mvT B.2.1 w6) hy (backOf (W := W) (Q := fun v h' L => Q' v h' ∧ Keep h h' ws' ∧ FrW h ws' L) (M []) B.2.1 w4 w3 hfr hlo) qa qc (g := mkF m pc Ls (argsL.reverse ++ .ref a :: st)) rfl (hsz.trans B.2.2.2.1.symm) (Steps.refl _) (argsL := argsL) (rest := st) (lenOf hpd hlen) rfl (by show 2 * 0 + _ ≤ _; rw [Nat.mul_zero, Nat.zero_add]; exact hW) (hb B.2.2.1 hd) (fun _ _ => ⟨rfl, eT, hcs, hss⟩)
  dsimp only [Pt.U, Pt.locs, Pt.cells, Pt.slots] at X2 l2 y2 z2 k2 hq
  subst l2 y2 z2
  refine Go.to (fun t kt => k2.trans kt) (g T2 T2.heap v2 ⟨_, X2, rfl, KK.trans hq.2.1 hws, fun y hy => (List.mem_append.mp hy).elim (FF y) fun q => ?_⟩ hq.2.1 hq.1)
  exact (hq.2.2 y q).elim (fun z => hws _ z) fun z => Or.inr (Nat.le_trans KK.1 z)
theorem gcallP (B : Fix p Z s m meth c bytes maxL own nm ret) (X : St p l e R s m args below meth c h0 ws T h cells slots) {y : MethodName} {bytes' : ByteArray} {maxL' : Nat} {ret' : Option FieldType} {rm : Room} {ws' : List Addr} {Q' : Option Value → Heap → Prop} {stk argsL : List Value} {i W : Nat} {ps : List FieldType} {rr : Option FieldType} {a : Addr} {C : String} (E : Exa Z h a C) (w1 : (Cond.methodLink own i y).before a0 Z = true) (w2 : (Cond.instanceMethod y).before a0 Z = true) (w5 : (Cond.selects y.cls y y).before a0 Z = true) (w6 : (Cond.privateMethod y).before a0 Z = true) (w3 : (Cond.initialized y.cls).before a0 Z = true) (w4 : (Cond.code y bytes' maxL' ret').before a0 Z = true) (hy : y.cls ≠ "java/lang/invoke/MethodHandle" ∧ y.cls ≠ "java/lang/invoke/VarHandle") (M : Meth l Z y bytes' maxL' ret' rm (.ref a :: argsL).toArray h ws' Q') (hpd : parseMethodDescriptor y.desc = some ⟨ps, rr⟩) (hlen : argsL.length = ps.length) (hstk : stk = argsL.reverse ++ .ref a :: st) (hsz : Ls.size = maxL) (hW : (st.map fun v => v.category).sum ≤ W) (hfr : rm.frames + 1 ≤ R.frames) (hlo : W + (maxL' + 11) + rm.locals ≤ R.locals) (hcs : cells + rm.cells ≤ R.cells) (hss : slots + rm.slots ≤ R.slots) (hws : ∀ x ∈ ws', x ∈ ws ∨ h0.size ≤ x) (hd : decode bytes pc = .ok (.invokevirtual i, 3)) (hp : pc' = pc + 3)
    (g : ∀ T' h' v, St p l e R s m args below meth c h0 ws T' h' (cells + rm.cells) (slots + rm.slots) → Keep h h' ws' → Q' v h' → Go p e below s K N h0 ws Q T' (mkF m pc' Ls (v.toList ++ st))) : Go p e below s K N h0 ws Q T (mkF m pc Ls stk) := by
  subst hp; subst hstk; obtain ⟨L0, X, eT, KK, FF⟩ := X
  obtain ⟨cq, q, q'⟩ := E.cell
  obtain ⟨v2, _, ⟨T2, L2, c2, n2⟩, -, X2, ⟨Lc2, hq, l2, y2, z2⟩, k2⟩ := X.privateBack B.1 (y := y) B.2.2.2.2.1 (mvT B.2.1 w1) (mvT B.2.1 w2) (mvT B.2.1 w5) (Cond.privateMethod_at (mvP B.2.1 w6 (args := #[]))) (mvT B.2.1 w4) hy (backOf (W := W) (Q := fun v h' L => Q' v h' ∧ Keep h h' ws' ∧ FrW h ws' L) (M []) B.2.1 w4 w3 hfr hlo) (g := mkF m pc Ls (argsL.reverse ++ .ref a :: st)) rfl (hsz.trans B.2.2.2.1.symm) (Steps.refl _) (a := a) (by rw [eT]; exact q) q' (argsL := argsL) (rest := st) (lenOf hpd hlen) rfl (by show 2 * 0 + _ ≤ _; rw [Nat.mul_zero, Nat.zero_add]; exact hW) (hb B.2.2.1 hd) (fun _ _ => ⟨rfl, eT, hcs, hss⟩)
  dsimp only [Pt.U, Pt.locs, Pt.cells, Pt.slots] at X2 l2 y2 z2 k2 hq
  subst l2 y2 z2
  refine Go.to (fun t kt => k2.trans kt) (g T2 T2.heap v2 ⟨_, X2, rfl, KK.trans hq.2.1 hws, fun y hy => (List.mem_append.mp hy).elim (FF y) fun q => ?_⟩ hq.2.1 hq.1)
  exact (hq.2.2 y q).elim (fun z => hws _ z) fun z => Or.inr (Nat.le_trans KK.1 z)
theorem pureG {rm : Room} {r : Value} {ws' : List Addr} (hc : rm.cells = 0) (hs : rm.slots = 0) (g : ∀ T', St p l e R s m args below meth c h0 ws T' h cells slots → Go p e below s K N h0 ws Q T' (mkF m pc' Ls (r :: st))) : ∀ T' h' v, St p l e R s m args below meth c h0 ws T' h' (cells + rm.cells) (slots + rm.slots) → Keep h h' ws' → (v = some r ∧ h' = h) → Go p e below s K N h0 ws Q T' (mkF m pc' Ls (v.toList ++ st)) := by
  rintro T' h' v X k ⟨rfl, rfl⟩
  rw [hc, hs] at X; exact g T' X
theorem pureV {rm : Room} {ws' : List Addr} (hc : rm.cells = 0) (hs : rm.slots = 0) (g : ∀ T', St p l e R s m args below meth c h0 ws T' h cells slots → Go p e below s K N h0 ws Q T' (mkF m pc' Ls st)) : ∀ T' h' v, St p l e R s m args below meth c h0 ws T' h' (cells + rm.cells) (slots + rm.slots) → Keep h h' ws' → (v = none ∧ h' = h) → Go p e below s K N h0 ws Q T' (mkF m pc' Ls (v.toList ++ st)) := by
  rintro T' h' v X k ⟨rfl, rfl⟩
  rw [hc, hs] at X; exact g T' X
theorem joinG {α : Type} (B : Fix p Z s m meth c bytes maxL own nm ret) (X : St p l e R s m args below meth c h0 ws T h cells slots) {F : α → JFrame} {r : α} {f : JFrame} (b : (∀ T', St p l e R s m args below meth c h0 ws T' h cells slots → Go p e below s K N h0 ws Q T' (F r)) → Go p e below s K N h0 ws Q T f) (k : ∀ T', St p l e R s m args below meth c h0 ws T' h cells slots → Go p e below s K N h0 ws Q T' (F r)) : Go p e below s K N h0 ws Q T f := b k
theorem nbb (x : Int32) : x.toInt8.toInt32.toInt8.toInt32 = x.toInt8.toInt32 := by simp
theorem nb (x : Int32) : nar .byte x.toInt8.toInt32 = x.toInt8.toInt32 := by simp [nar]
theorem retI (X : Stand p l e R s m args below meth c T locs cells slots) (hx : p.tables.exec = Jvm.exec) {z : Int32} {rest : List Value} (hret : meth.sig.returnType = some .int) (hd : decode c.code pc = .ok (.ireturn, 1)) {fs : List Frame}
    (hl : ∀ (f : JFrame) (acts : List Action), f.method = m → f.locked = none → f.entered = [] → (doReturn e (T.setTop f) acts (some (.int z))).1 = T.setFrames fs) : Steps p.tables e below (T.setTop (mkF m pc Ls (.int z :: rest))) (T.setFrames fs) := by
  have hm' : T.vm.method? m = some meth := X.method'
  have hn : narrow .int (.int z) = .int z := rfl
  show Steps p.tables e below (T.setTop { method := m, pc := pc, locals := Ls, stack := _ :: rest, locked := none }) _
  jvm_step X.here [X.here.top, hx, hd, hm', hret, hn]
  first | (intro acts; rw [hl _ acts rfl rfl rfl]) | rw [hl _ _ rfl rfl rfl]
  exact Steps.refl _
theorem gretI (B : Fix p Z s m meth c bytes maxL own nm (some .int)) (X : St p l e R s m args below meth c h0 ws T h cells slots) {z : Int32} (hd : decode bytes pc = .ok (.ireturn, 1)) (hk : cells ≤ K) (hn : slots ≤ N) (hQ : Q (some (.int z)) h) : Go p e below s K N h0 ws Q T (mkF m pc Ls (.int z :: st)) := by
  obtain ⟨L0, X, eT, KK, FF⟩ := X; have hlk := B.2.2.2.2.2.2.2; have hrt := B.2.2.2.2.2.2.1
  obtain ⟨fs, hr, hrun, hended, hW, hsame⟩ := X.leave (v := some (.int z)) (fun h => by rw [hrt] at h; cases h) hlk
  exact ⟨_, _, retI X B.1 hrt (hb B.2.2.1 hd) hr, hrun, hended, _, _, rfl, ⟨by show Q _ T.heap; rw [eT]; exact hQ, by show Keep h0 T.heap ws; rw [eT]; exact KK, FF⟩, ⟨_, rfl⟩, hW, hsame.mono hk hn⟩
theorem gretN {t : FieldType} (B : Fix p Z s m meth c bytes maxL own nm (some t)) (X : St p l e R s m args below meth c h0 ws T h cells slots) {z z' : Int32} (ht : t = .boolean ∨ t = .byte ∨ t = .char ∨ t = .short) (hz : nar t z = z') (hd : decode bytes pc = .ok (.ireturn, 1)) (hk : cells ≤ K) (hn : slots ≤ N) (hQ : Q (some (.int z')) h) : Go p e below s K N h0 ws Q T (mkF m pc Ls (.int z :: st)) := by
  subst hz; obtain ⟨L0, X, eT, KK, FF⟩ := X; have hlk := B.2.2.2.2.2.2.2; have hrt := B.2.2.2.2.2.2.1
  obtain ⟨fs, hr, hrun, hended, hW, hsame⟩ := X.leave (v := some (.int (nar t z))) (fun h => by rw [hrt] at h; cases h) hlk
  exact ⟨_, _, retN X B.1 hrt ht (hb B.2.2.1 hd) hr, hrun, hended, _, _, rfl, ⟨by show Q _ T.heap; rw [eT]; exact hQ, by show Keep h0 T.heap ws; rw [eT]; exact KK, FF⟩, ⟨_, rfl⟩, hW, hsame.mono hk hn⟩
theorem gretL (B : Fix p Z s m meth c bytes maxL own nm (some .long)) (X : St p l e R s m args below meth c h0 ws T h cells slots) {z : Int64} (hd : decode bytes pc = .ok (.lreturn, 1)) (hk : cells ≤ K) (hn : slots ≤ N) (hQ : Q (some (.long z)) h) : Go p e below s K N h0 ws Q T (mkF m pc Ls (.long z :: st)) := by
  obtain ⟨L0, X, eT, KK, FF⟩ := X; have hlk := B.2.2.2.2.2.2.2; have hrt := B.2.2.2.2.2.2.1
  obtain ⟨fs, hr, hrun, hended, hW, hsame⟩ := X.leave (v := some (.long z)) (fun h => by rw [hrt] at h; cases h) hlk
  exact ⟨_, _, retOut X B.1 hrt rfl (Or.inr (Or.inl ⟨rfl, rfl, _, rfl⟩)) (hb B.2.2.1 hd) hr, hrun, hended, _, _, rfl, ⟨by show Q _ T.heap; rw [eT]; exact hQ, by show Keep h0 T.heap ws; rw [eT]; exact KK, FF⟩, ⟨_, rfl⟩, hW, hsame.mono hk hn⟩
theorem gretA {t : FieldType} (B : Fix p Z s m meth c bytes maxL own nm (some t)) (X : St p l e R s m args below meth c h0 ws T h cells slots) {a : Addr} (ht : t.isReference = true) (hnn : narrow t (.ref a) = .ref a) (hd : decode bytes pc = .ok (.areturn, 1)) (hk : cells ≤ K) (hn : slots ≤ N) (hQ : Q (some (.ref a)) h) : Go p e below s K N h0 ws Q T (mkF m pc Ls (.ref a :: st)) := by
  obtain ⟨L0, X, eT, KK, FF⟩ := X; have hlk := B.2.2.2.2.2.2.2; have hrt := B.2.2.2.2.2.2.1
  obtain ⟨fs, hr, hrun, hended, hW, hsame⟩ := X.leave (v := some (.ref a)) (fun h => by rw [hrt] at h; cases h) hlk
  exact ⟨_, _, retOut X B.1 hrt hnn (Or.inr (Or.inr (Or.inr (Or.inr ⟨rfl, ht, rfl⟩)))) (hb B.2.2.1 hd) hr, hrun, hended, _, _, rfl, ⟨by show Q _ T.heap; rw [eT]; exact hQ, by show Keep h0 T.heap ws; rw [eT]; exact KK, FF⟩, ⟨_, rfl⟩, hW, hsame.mono hk hn⟩
theorem gretV (B : Fix p Z s m meth c bytes maxL own nm none) (X : St p l e R s m args below meth c h0 ws T h cells slots)  (hd : decode bytes pc = .ok (.return_, 1)) (hk : cells ≤ K) (hn : slots ≤ N) (hQ : Q (none) h) : Go p e below s K N h0 ws Q T (mkF m pc Ls []) := by
  obtain ⟨L0, X, eT, KK, FF⟩ := X; have hlk := B.2.2.2.2.2.2.2; have hrt := B.2.2.2.2.2.2.1
  obtain ⟨fs, hr, hrun, hended, hW, hsame⟩ := X.leave (v := none) (fun h => rfl) hlk
  exact ⟨_, _, X.returnOut B.1 hrt (hb B.2.2.1 hd) hr, hrun, hended, _, _, rfl, ⟨by show Q _ T.heap; rw [eT]; exact hQ, by show Keep h0 T.heap ws; rw [eT]; exact KK, FF⟩, ⟨_, rfl⟩, hW, hsame.mono hk hn⟩
end Go
end Jvm.OwnKit
namespace Jvm.Pilot.@@N@@
open Jvm Jvm.ClassFile Sem Op Lib Jvm.Free Jvm.Stand Jvm.LawKit Jvm.RoadKit Jvm.OwnKit Bundle Jvm.Pilot.@@N@@.Jvm.D
theorem d2_0 : decode method_3_code 0 = .ok (.iload_n 0, 1) := by decide +kernel
theorem d2_1 : decode method_3_code 1 = .ok (.iload_n 1, 1) := by decide +kernel
theorem d2_2 : decode method_3_code 2 = .ok (.if_icmp .ge 11, 3) := by decide +kernel
theorem d2_5 : decode method_3_code 5 = .ok (.iload_n 2, 1) := by decide +kernel
theorem d2_6 : decode method_3_code 6 = .ok (.iload_n 0, 1) := by decide +kernel
theorem d2_7 : decode method_3_code 7 = .ok (.iushr, 1) := by decide +kernel
theorem d2_8 : decode method_3_code 8 = .ok (.iconst 1, 1) := by decide +kernel
theorem d2_9 : decode method_3_code 9 = .ok (.iand, 1) := by decide +kernel
theorem d2_10 : decode method_3_code 10 = .ok (.ifCond .ne 7, 3) := by decide +kernel
theorem d2_13 : decode method_3_code 13 = .ok (.iconst 1, 1) := by decide +kernel
theorem d2_14 : decode method_3_code 14 = .ok (.goto 4, 3) := by decide +kernel
theorem d2_17 : decode method_3_code 17 = .ok (.iconst 0, 1) := by decide +kernel
theorem d2_18 : decode method_3_code 18 = .ok (.ireturn, 1) := by decide +kernel
theorem pn2 : plainFor (⟨"com/example/nabu/nabu/protocol/PlainFieldsStartsWithPinLaw", "ok", "(III)Z"⟩ : MethodName) = true := plainFor_of_name (by first | (simp [plainName, overriddenIn]; done) | decide +kernel)
theorem ef2_III (m : MethodId) (x0 : Int32) (x1 : Int32) (x2 : Int32) : entryFrame m #[(.int x0), (.int x1), (.int x2)] 3 = mkF m 0 #[.val (.int x0), .val (.int x1), .val (.int x2)] [] := by first | (simp [entryFrame, mkF, argsToLocals, Value.category]; done) | rfl
def f2 (i : Int32) (wl : Int32) (q : Int32) : Int32 := if i < wl then (if (((q.toUInt32 >>> (i &&& 31).toUInt32).toInt32) &&& (1 : Int32)) = (0 : Int32) then (1 : Int32) else ((0 : Int32))) else ((1 : Int32))
def rmr2 : Room := { frames := 0, cells := 0, slots := 0, locals := 0 }
set_option maxRecDepth 65536 in
set_option maxHeartbeats 4000000 in
theorem mt2 (l : Launch) (Z : State) (a0 : Array Value) (hw : ∀ d ∈ tables_1, d.before a0 Z = true) (i : Int32) (wl : Int32) (q : Int32)  (h0 : Heap) : Meth l Z (⟨"com/example/nabu/nabu/protocol/PlainFieldsStartsWithPinLaw", "ok", "(III)Z"⟩ : MethodName) method_3_code 3 (some .boolean) rmr2 #[(.int i), (.int wl), (.int q)] h0 [] (fun vr h' => vr = some (.int (f2 i wl q)) ∧ h' = h0) := by
  refine Meth.of pn2 ?_
  intro p e s m below meth c T B X
  refine Go.entry (ef2_III m i wl q) ?_
  refine giloadN B X d2_0 rfl (pc' := 1) rfl ?_
  refine giloadN B X d2_1 rfl (pc' := 2) rfl ?_
  by_cases c2_1 : i < wl
  · refine gicN B X d2_2 (tlt c2_1).2.1 (pc' := 5) rfl ?_
    refine giloadN B X d2_5 rfl (pc' := 6) rfl ?_
    refine giloadN B X d2_6 rfl (pc' := 7) rfl ?_
    refine giushr B X d2_7 rfl (pc' := 8) rfl ?_
    refine giconst B X d2_8 (v := (1 : Int32)) rfl (pc' := 9) rfl ?_
    refine giand B X d2_9 rfl (pc' := 10) rfl ?_
    by_cases c10_2 : (((q.toUInt32 >>> (i &&& 31).toUInt32).toInt32) &&& (1 : Int32)) = (0 : Int32)
    · refine gifN B X d2_10 ((if0 _ _).trans (teq c10_2).2) (pc' := 13) rfl ?_
      refine giconst B X d2_13 (v := (1 : Int32)) rfl (pc' := 14) rfl ?_
      refine ggoto B X (pc' := 18) d2_14 (by decide) ?_
      exact gretN B X (z' := (1 : Int32)) (by simp) (rfl) d2_18 (by decide) (by decide) (⟨by rw [f2, if_pos c2_1, if_pos c10_2], rfl⟩)
    · refine gifY B X (pc' := 17) d2_10 ((if0 _ _).trans (feq c10_2).2) (by decide) ?_
      refine giconst B X d2_17 (v := (0 : Int32)) rfl (pc' := 18) rfl ?_
      exact gretN B X (z' := (0 : Int32)) (by simp) (rfl) d2_18 (by decide) (by decide) (⟨by rw [f2, if_pos c2_1, if_neg c10_2], rfl⟩)
  · refine gicY B X (pc' := 13) d2_2 (flt c2_1).2.1 (by decide) ?_
    refine giconst B X d2_13 (v := (1 : Int32)) rfl (pc' := 14) rfl ?_
    refine ggoto B X (pc' := 18) d2_14 (by decide) ?_
    exact gretN B X (z' := (1 : Int32)) (by simp) (rfl) d2_18 (by decide) (by decide) (⟨by rw [f2, if_neg c2_1], rfl⟩)
def okk (k : Int32) : Int32 := if k = (0 : Int32) then (1 : Int32) else k
def oc0 (w : Int32) : Int32 := ((w.toUInt32 >>> ((0 : Int32) &&& 31).toUInt32).toInt32).toInt8.toInt32
theorem own_ocb0 (w : Int32) : (oc0 w).toInt8.toInt32 = oc0 w := nbb _
def ox0 (w u q : Int32) : Int32 := if ((q.toUInt32 >>> ((0 : Int32) &&& 31).toUInt32).toInt32 &&& (1 : Int32)) = (0 : Int32) then oc0 w else (oc0 w ^^^ okk ((u.toUInt32 >>> ((0 : Int32) &&& 31).toUInt32).toInt32 &&& (255 : Int32))).toInt8.toInt32
def oc1 (w : Int32) : Int32 := ((w.toUInt32 >>> ((8 : Int32) &&& 31).toUInt32).toInt32).toInt8.toInt32
theorem own_ocb1 (w : Int32) : (oc1 w).toInt8.toInt32 = oc1 w := nbb _
def ox1 (w u q : Int32) : Int32 := if ((q.toUInt32 >>> ((1 : Int32) &&& 31).toUInt32).toInt32 &&& (1 : Int32)) = (0 : Int32) then oc1 w else (oc1 w ^^^ okk ((u.toUInt32 >>> ((8 : Int32) &&& 31).toUInt32).toInt32 &&& (255 : Int32))).toInt8.toInt32
def oc2 (w : Int32) : Int32 := ((w.toUInt32 >>> ((16 : Int32) &&& 31).toUInt32).toInt32).toInt8.toInt32
theorem own_ocb2 (w : Int32) : (oc2 w).toInt8.toInt32 = oc2 w := nbb _
def ox2 (w u q : Int32) : Int32 := if ((q.toUInt32 >>> ((2 : Int32) &&& 31).toUInt32).toInt32 &&& (1 : Int32)) = (0 : Int32) then oc2 w else (oc2 w ^^^ okk ((u.toUInt32 >>> ((16 : Int32) &&& 31).toUInt32).toInt32 &&& (255 : Int32))).toInt8.toInt32
def oc3 (w : Int32) : Int32 := ((w.toUInt32 >>> ((24 : Int32) &&& 31).toUInt32).toInt32).toInt8.toInt32
theorem own_ocb3 (w : Int32) : (oc3 w).toInt8.toInt32 = oc3 w := nbb _
def ox3 (w u q : Int32) : Int32 := if ((q.toUInt32 >>> ((3 : Int32) &&& 31).toUInt32).toInt32 &&& (1 : Int32)) = (0 : Int32) then oc3 w else (oc3 w ^^^ okk ((u.toUInt32 >>> ((24 : Int32) &&& 31).toUInt32).toInt32 &&& (255 : Int32))).toInt8.toInt32
theorem d1_0 : decode method_2_code 0 = .ok (.iload_n 3, 1) := by decide +kernel
theorem d1_1 : decode method_2_code 1 = .ok (.aload_n 1, 1) := by decide +kernel
theorem d1_2 : decode method_2_code 2 = .ok (.arraylength, 1) := by decide +kernel
theorem d1_3 : decode method_2_code 3 = .ok (.if_icmp .ge 69, 3) := by decide +kernel
theorem d1_6 : decode method_2_code 6 = .ok (.iload 4, 2) := by decide +kernel
theorem d1_8 : decode method_2_code 8 = .ok (.bipush 8, 2) := by decide +kernel
theorem d1_10 : decode method_2_code 10 = .ok (.iload_n 3, 1) := by decide +kernel
theorem d1_11 : decode method_2_code 11 = .ok (.imul, 1) := by decide +kernel
theorem d1_12 : decode method_2_code 12 = .ok (.iushr, 1) := by decide +kernel
theorem d1_13 : decode method_2_code 13 = .ok (.i2b, 1) := by decide +kernel
theorem d1_14 : decode method_2_code 14 = .ok (.istore 7, 2) := by decide +kernel
theorem d1_16 : decode method_2_code 16 = .ok (.aload_n 1, 1) := by decide +kernel
theorem d1_17 : decode method_2_code 17 = .ok (.iload_n 3, 1) := by decide +kernel
theorem d1_18 : decode method_2_code 18 = .ok (.iload 7, 2) := by decide +kernel
theorem d1_20 : decode method_2_code 20 = .ok (.bastore, 1) := by decide +kernel
theorem d1_21 : decode method_2_code 21 = .ok (.iload 5, 2) := by decide +kernel
theorem d1_23 : decode method_2_code 23 = .ok (.bipush 8, 2) := by decide +kernel
theorem d1_25 : decode method_2_code 25 = .ok (.iload_n 3, 1) := by decide +kernel
theorem d1_26 : decode method_2_code 26 = .ok (.imul, 1) := by decide +kernel
theorem d1_27 : decode method_2_code 27 = .ok (.iushr, 1) := by decide +kernel
theorem d1_28 : decode method_2_code 28 = .ok (.sipush 255, 3) := by decide +kernel
theorem d1_31 : decode method_2_code 31 = .ok (.iand, 1) := by decide +kernel
theorem d1_32 : decode method_2_code 32 = .ok (.istore 8, 2) := by decide +kernel
theorem d1_34 : decode method_2_code 34 = .ok (.iload 8, 2) := by decide +kernel
theorem d1_36 : decode method_2_code 36 = .ok (.ifCond .ne 6, 3) := by decide +kernel
theorem d1_39 : decode method_2_code 39 = .ok (.iconst 1, 1) := by decide +kernel
theorem d1_40 : decode method_2_code 40 = .ok (.istore 8, 2) := by decide +kernel
theorem d1_42 : decode method_2_code 42 = .ok (.iload 6, 2) := by decide +kernel
theorem d1_44 : decode method_2_code 44 = .ok (.iload_n 3, 1) := by decide +kernel
theorem d1_45 : decode method_2_code 45 = .ok (.iushr, 1) := by decide +kernel
theorem d1_46 : decode method_2_code 46 = .ok (.iconst 1, 1) := by decide +kernel
theorem d1_47 : decode method_2_code 47 = .ok (.iand, 1) := by decide +kernel
theorem d1_48 : decode method_2_code 48 = .ok (.ifCond .ne 13, 3) := by decide +kernel
theorem d1_51 : decode method_2_code 51 = .ok (.aload_n 0, 1) := by decide +kernel
theorem d1_52 : decode method_2_code 52 = .ok (.iload_n 2, 1) := by decide +kernel
theorem d1_53 : decode method_2_code 53 = .ok (.iload_n 3, 1) := by decide +kernel
theorem d1_54 : decode method_2_code 54 = .ok (.iadd, 1) := by decide +kernel
theorem d1_55 : decode method_2_code 55 = .ok (.iload 7, 2) := by decide +kernel
theorem d1_57 : decode method_2_code 57 = .ok (.bastore, 1) := by decide +kernel
theorem d1_58 : decode method_2_code 58 = .ok (.goto 14, 3) := by decide +kernel
theorem d1_61 : decode method_2_code 61 = .ok (.aload_n 0, 1) := by decide +kernel
theorem d1_62 : decode method_2_code 62 = .ok (.iload_n 2, 1) := by decide +kernel
theorem d1_63 : decode method_2_code 63 = .ok (.iload_n 3, 1) := by decide +kernel
theorem d1_64 : decode method_2_code 64 = .ok (.iadd, 1) := by decide +kernel
theorem d1_65 : decode method_2_code 65 = .ok (.iload 7, 2) := by decide +kernel
theorem d1_67 : decode method_2_code 67 = .ok (.iload 8, 2) := by decide +kernel
theorem d1_69 : decode method_2_code 69 = .ok (.ixor, 1) := by decide +kernel
theorem d1_70 : decode method_2_code 70 = .ok (.i2b, 1) := by decide +kernel
theorem d1_71 : decode method_2_code 71 = .ok (.bastore, 1) := by decide +kernel
theorem d1_72 : decode method_2_code 72 = .ok (.return_, 1) := by decide +kernel
theorem pn1 : plainFor (⟨"com/example/nabu/nabu/protocol/PlainFieldsStartsWithPinLaw", "put", "([B[BIIIII)V"⟩ : MethodName) = true := plainFor_of_name (by first | (simp [plainName, overriddenIn]; done) | decide +kernel)
theorem ef1_RRIIIII (m : MethodId) (x0 : Addr) (x1 : Addr) (x2 : Int32) (x3 : Int32) (x4 : Int32) (x5 : Int32) (x6 : Int32) : entryFrame m #[(.ref x0), (.ref x1), (.int x2), (.int x3), (.int x4), (.int x5), (.int x6)] 9 = mkF m 0 #[.val (.ref x0), .val (.ref x1), .val (.int x2), .val (.int x3), .val (.int x4), .val (.int x5), .val (.int x6), .unset, .unset] [] := by first | (simp [entryFrame, mkF, argsToLocals, Value.category]; done) | rfl
def rmr1 : Room := { frames := 0, cells := 0, slots := 0, locals := 0 }
set_option maxRecDepth 65536 in
set_option maxHeartbeats 4000000 in
theorem mt1_0 (l : Launch) (Z : State) (a0 : Array Value) (hw : ∀ d ∈ tables_1, d.before a0 Z = true) (a b : Addr) (fr w u q nl : Int32) (xs ys : List Value) (jn n : Nat) (h0 : Heap) (FA : VA Z h0 a .byte xs) (FB : VA Z h0 b .byte ys) (hab : a ≠ b) (hx : xs.length = 8) (hy : ys.length = n) (hnl : nl.toInt = n) (hlt : (0 : Int32) < nl) (hi : 0 ≤ ((0 : Int32)).toInt ∧ ((0 : Int32)).toInt < n) (h1 : 0 ≤ (fr + (0 : Int32)).toInt ∧ (fr + (0 : Int32)).toInt < (8 : Nat)) (h2 : (fr + (0 : Int32)).toNatClampNeg = jn) : Meth l Z (⟨"com/example/nabu/nabu/protocol/PlainFieldsStartsWithPinLaw", "put", "([B[BIIIII)V"⟩ : MethodName) method_2_code 9 none rmr1 #[(.ref a), (.ref b), (.int fr), (.int (0 : Int32)), (.int w), (.int u), (.int q)] h0 [a, b] (fun v h' => v = none ∧ VA Z h' a .byte (xs.set jn (.int (ox0 w u q))) ∧ VA Z h' b .byte (ys.set 0 (.int (oc0 w)))) := by
  refine Meth.of pn1 ?_
  intro p e s m below meth c T B X
  refine Go.entry (ef1_RRIIIII m a b fr (0 : Int32) w u q) ?_
  refine giloadN B X d1_0 rfl (pc' := 1) rfl ?_
  refine galoadN B X d1_1 rfl rfl (pc' := 2) rfl ?_
  refine glength B X (n := nl) FB hy hnl d1_2 (pc' := 3) rfl ?_
  have c3_3 : (0 : Int32) < nl := hlt
  refine gicN B X d1_3 (tlt c3_3).2.1 (pc' := 6) rfl ?_
  refine giload B X d1_6 rfl (pc' := 8) rfl ?_
  refine gbipush B X d1_8 (v := (8 : Int32)) rfl (pc' := 10) rfl ?_
  refine giloadN B X d1_10 rfl (pc' := 11) rfl ?_
  refine gimul B X d1_11 (v := (0 : Int32)) (by decide) (pc' := 12) rfl ?_
  refine giushr B X d1_12 rfl (pc' := 13) rfl ?_
  refine gi2b B X d1_13 (v := (oc0 w)) (rfl) (pc' := 14) rfl ?_
  refine gistore B X d1_14 (Ls' := #[.val (.ref a), .val (.ref b), .val (.int fr), .val (.int (0 : Int32)), .val (.int w), .val (.int u), .val (.int q), .val (.int (oc0 w)), .unset]) rfl (pc' := 16) rfl ?_
  refine galoadN B X d1_16 rfl rfl (pc' := 17) rfl ?_
  refine giloadN B X d1_17 rfl (pc' := 18) rfl ?_
  refine giload B X d1_18 rfl (pc' := 20) rfl ?_
  refine gbastore B X (i := 0) FB hy hi rfl (vs' := (ys.set 0 (.int (oc0 w)))) (by rw [own_ocb0]) (Or.inl (List.mem_of_getElem? (i := 1) rfl)) d1_20 (pc' := 21) rfl fun T4 h5 X6 W7 A8 => ?_
  have F9 := FA.other W7 hab
  refine giload B X6 d1_21 rfl (pc' := 23) rfl ?_
  refine gbipush B X6 d1_23 (v := (8 : Int32)) rfl (pc' := 25) rfl ?_
  refine giloadN B X6 d1_25 rfl (pc' := 26) rfl ?_
  refine gimul B X6 d1_26 (v := (0 : Int32)) (by decide) (pc' := 27) rfl ?_
  refine giushr B X6 d1_27 rfl (pc' := 28) rfl ?_
  refine gsipush B X6 d1_28 (v := (255 : Int32)) rfl (pc' := 31) rfl ?_
  refine giand B X6 d1_31 rfl (pc' := 32) rfl ?_
  refine gistore B X6 d1_32 (Ls' := #[.val (.ref a), .val (.ref b), .val (.int fr), .val (.int (0 : Int32)), .val (.int w), .val (.int u), .val (.int q), .val (.int (oc0 w)), .val (.int (((u.toUInt32 >>> ((0 : Int32) &&& 31).toUInt32).toInt32) &&& (255 : Int32)))]) rfl (pc' := 34) rfl ?_
  refine joinG B X6 (F := fun z => (mkF m 42 #[.val (.ref a), .val (.ref b), .val (.int fr), .val (.int (0 : Int32)), .val (.int w), .val (.int u), .val (.int q), .val (.int (oc0 w)), .val (.int z)] [])) (r := (okk (((u.toUInt32 >>> ((0 : Int32) &&& 31).toUInt32).toInt32) &&& (255 : Int32)))) (fun J => ?_) ?_
  · refine giload B X6 d1_34 rfl (pc' := 36) rfl ?_
    by_cases c36_10 : (((u.toUInt32 >>> ((0 : Int32) &&& 31).toUInt32).toInt32) &&& (255 : Int32)) = (0 : Int32)
    · refine gifN B X6 d1_36 ((if0 _ _).trans (teq c36_10).2) (pc' := 39) rfl ?_
      refine giconst B X6 d1_39 (v := (1 : Int32)) rfl (pc' := 40) rfl ?_
      refine gistore B X6 d1_40 (Ls' := #[.val (.ref a), .val (.ref b), .val (.int fr), .val (.int (0 : Int32)), .val (.int w), .val (.int u), .val (.int q), .val (.int (oc0 w)), .val (.int (1 : Int32))]) rfl (pc' := 42) rfl ?_
      have e_J : (okk (((u.toUInt32 >>> ((0 : Int32) &&& 31).toUInt32).toInt32) &&& (255 : Int32))) = (1 : Int32) := by rw [okk, if_pos c36_10]
      rw [e_J] at J
      exact J _ X6
    · refine gifY B X6 (pc' := 42) d1_36 ((if0 _ _).trans (feq c36_10).2) (by decide) ?_
      have e_J : (okk (((u.toUInt32 >>> ((0 : Int32) &&& 31).toUInt32).toInt32) &&& (255 : Int32))) = (((u.toUInt32 >>> ((0 : Int32) &&& 31).toUInt32).toInt32) &&& (255 : Int32)) := by rw [okk, if_neg c36_10]
      rw [e_J] at J
      exact J _ X6
  intro T11 X12
  show Go p e below s _ _ _ _ _ T11 (mkF m 42 #[.val (.ref a), .val (.ref b), .val (.int fr), .val (.int (0 : Int32)), .val (.int w), .val (.int u), .val (.int q), .val (.int (oc0 w)), .val (.int (okk (((u.toUInt32 >>> ((0 : Int32) &&& 31).toUInt32).toInt32) &&& (255 : Int32))))] [])
  refine giload B X12 d1_42 rfl (pc' := 44) rfl ?_
  refine giloadN B X12 d1_44 rfl (pc' := 45) rfl ?_
  refine giushr B X12 d1_45 rfl (pc' := 46) rfl ?_
  refine giconst B X12 d1_46 (v := (1 : Int32)) rfl (pc' := 47) rfl ?_
  refine giand B X12 d1_47 rfl (pc' := 48) rfl ?_
  by_cases c48_13 : (((q.toUInt32 >>> ((0 : Int32) &&& 31).toUInt32).toInt32) &&& (1 : Int32)) = (0 : Int32)
  · refine gifN B X12 d1_48 ((if0 _ _).trans (teq c48_13).2) (pc' := 51) rfl ?_
    refine galoadN B X12 d1_51 rfl rfl (pc' := 52) rfl ?_
    refine giloadN B X12 d1_52 rfl (pc' := 53) rfl ?_
    refine giloadN B X12 d1_53 rfl (pc' := 54) rfl ?_
    refine giadd B X12 d1_54 rfl (pc' := 55) rfl ?_
    refine giload B X12 d1_55 rfl (pc' := 57) rfl ?_
    refine gbastore B X12 (i := jn) F9 hx h1 h2 (vs' := (xs.set jn (.int (oc0 w)))) (by rw [own_ocb0]) (Or.inl (List.mem_of_getElem? (i := 0) rfl)) d1_57 (pc' := 58) rfl fun T14 h15 X16 W17 A18 => ?_
    have F19 := A8.other W17 (Ne.symm hab)
    refine ggoto B X16 (pc' := 72) d1_58 (by decide) ?_
    exact gretV B X16 d1_72 (by decide) (by decide) (⟨rfl, by rw [ox0, if_pos c48_13]; exact A18, F19⟩)
  · refine gifY B X12 (pc' := 61) d1_48 ((if0 _ _).trans (feq c48_13).2) (by decide) ?_
    refine galoadN B X12 d1_61 rfl rfl (pc' := 62) rfl ?_
    refine giloadN B X12 d1_62 rfl (pc' := 63) rfl ?_
    refine giloadN B X12 d1_63 rfl (pc' := 64) rfl ?_
    refine giadd B X12 d1_64 rfl (pc' := 65) rfl ?_
    refine giload B X12 d1_65 rfl (pc' := 67) rfl ?_
    refine giload B X12 d1_67 rfl (pc' := 69) rfl ?_
    refine gixor B X12 d1_69 rfl (pc' := 70) rfl ?_
    refine gi2b B X12 d1_70 rfl (pc' := 71) rfl ?_
    refine gbastore B X12 (i := jn) F9 hx h1 h2 (vs' := (xs.set jn (.int ((oc0 w) ^^^ okk ((u.toUInt32 >>> ((0 : Int32) &&& 31).toUInt32).toInt32 &&& (255 : Int32))).toInt8.toInt32))) (by rw [nbb]) (Or.inl (List.mem_of_getElem? (i := 0) rfl)) d1_71 (pc' := 72) rfl fun T20 h21 X22 W23 A24 => ?_
    have F25 := A8.other W23 (Ne.symm hab)
    exact gretV B X22 d1_72 (by decide) (by decide) (⟨rfl, by rw [ox0, if_neg c48_13]; exact A24, F25⟩)
set_option maxRecDepth 65536 in
set_option maxHeartbeats 4000000 in
theorem mt1_1 (l : Launch) (Z : State) (a0 : Array Value) (hw : ∀ d ∈ tables_1, d.before a0 Z = true) (a b : Addr) (fr w u q nl : Int32) (xs ys : List Value) (jn n : Nat) (h0 : Heap) (FA : VA Z h0 a .byte xs) (FB : VA Z h0 b .byte ys) (hab : a ≠ b) (hx : xs.length = 8) (hy : ys.length = n) (hnl : nl.toInt = n) (hlt : (1 : Int32) < nl) (hi : 0 ≤ ((1 : Int32)).toInt ∧ ((1 : Int32)).toInt < n) (h1 : 0 ≤ (fr + (1 : Int32)).toInt ∧ (fr + (1 : Int32)).toInt < (8 : Nat)) (h2 : (fr + (1 : Int32)).toNatClampNeg = jn) : Meth l Z (⟨"com/example/nabu/nabu/protocol/PlainFieldsStartsWithPinLaw", "put", "([B[BIIIII)V"⟩ : MethodName) method_2_code 9 none rmr1 #[(.ref a), (.ref b), (.int fr), (.int (1 : Int32)), (.int w), (.int u), (.int q)] h0 [a, b] (fun v h' => v = none ∧ VA Z h' a .byte (xs.set jn (.int (ox1 w u q))) ∧ VA Z h' b .byte (ys.set 1 (.int (oc1 w)))) := by
  refine Meth.of pn1 ?_
  intro p e s m below meth c T B X
  refine Go.entry (ef1_RRIIIII m a b fr (1 : Int32) w u q) ?_
  refine giloadN B X d1_0 rfl (pc' := 1) rfl ?_
  refine galoadN B X d1_1 rfl rfl (pc' := 2) rfl ?_
  refine glength B X (n := nl) FB hy hnl d1_2 (pc' := 3) rfl ?_
  have c3_26 : (1 : Int32) < nl := hlt
  refine gicN B X d1_3 (tlt c3_26).2.1 (pc' := 6) rfl ?_
  refine giload B X d1_6 rfl (pc' := 8) rfl ?_
  refine gbipush B X d1_8 (v := (8 : Int32)) rfl (pc' := 10) rfl ?_
  refine giloadN B X d1_10 rfl (pc' := 11) rfl ?_
  refine gimul B X d1_11 (v := (8 : Int32)) (by decide) (pc' := 12) rfl ?_
  refine giushr B X d1_12 rfl (pc' := 13) rfl ?_
  refine gi2b B X d1_13 (v := (oc1 w)) (rfl) (pc' := 14) rfl ?_
  refine gistore B X d1_14 (Ls' := #[.val (.ref a), .val (.ref b), .val (.int fr), .val (.int (1 : Int32)), .val (.int w), .val (.int u), .val (.int q), .val (.int (oc1 w)), .unset]) rfl (pc' := 16) rfl ?_
  refine galoadN B X d1_16 rfl rfl (pc' := 17) rfl ?_
  refine giloadN B X d1_17 rfl (pc' := 18) rfl ?_
  refine giload B X d1_18 rfl (pc' := 20) rfl ?_
  refine gbastore B X (i := 1) FB hy hi rfl (vs' := (ys.set 1 (.int (oc1 w)))) (by rw [own_ocb1]) (Or.inl (List.mem_of_getElem? (i := 1) rfl)) d1_20 (pc' := 21) rfl fun T27 h28 X29 W30 A31 => ?_
  have F32 := FA.other W30 hab
  refine giload B X29 d1_21 rfl (pc' := 23) rfl ?_
  refine gbipush B X29 d1_23 (v := (8 : Int32)) rfl (pc' := 25) rfl ?_
  refine giloadN B X29 d1_25 rfl (pc' := 26) rfl ?_
  refine gimul B X29 d1_26 (v := (8 : Int32)) (by decide) (pc' := 27) rfl ?_
  refine giushr B X29 d1_27 rfl (pc' := 28) rfl ?_
  refine gsipush B X29 d1_28 (v := (255 : Int32)) rfl (pc' := 31) rfl ?_
  refine giand B X29 d1_31 rfl (pc' := 32) rfl ?_
  refine gistore B X29 d1_32 (Ls' := #[.val (.ref a), .val (.ref b), .val (.int fr), .val (.int (1 : Int32)), .val (.int w), .val (.int u), .val (.int q), .val (.int (oc1 w)), .val (.int (((u.toUInt32 >>> ((8 : Int32) &&& 31).toUInt32).toInt32) &&& (255 : Int32)))]) rfl (pc' := 34) rfl ?_
  refine joinG B X29 (F := fun z => (mkF m 42 #[.val (.ref a), .val (.ref b), .val (.int fr), .val (.int (1 : Int32)), .val (.int w), .val (.int u), .val (.int q), .val (.int (oc1 w)), .val (.int z)] [])) (r := (okk (((u.toUInt32 >>> ((8 : Int32) &&& 31).toUInt32).toInt32) &&& (255 : Int32)))) (fun J => ?_) ?_
  · refine giload B X29 d1_34 rfl (pc' := 36) rfl ?_
    by_cases c36_33 : (((u.toUInt32 >>> ((8 : Int32) &&& 31).toUInt32).toInt32) &&& (255 : Int32)) = (0 : Int32)
    · refine gifN B X29 d1_36 ((if0 _ _).trans (teq c36_33).2) (pc' := 39) rfl ?_
      refine giconst B X29 d1_39 (v := (1 : Int32)) rfl (pc' := 40) rfl ?_
      refine gistore B X29 d1_40 (Ls' := #[.val (.ref a), .val (.ref b), .val (.int fr), .val (.int (1 : Int32)), .val (.int w), .val (.int u), .val (.int q), .val (.int (oc1 w)), .val (.int (1 : Int32))]) rfl (pc' := 42) rfl ?_
      have e_J : (okk (((u.toUInt32 >>> ((8 : Int32) &&& 31).toUInt32).toInt32) &&& (255 : Int32))) = (1 : Int32) := by rw [okk, if_pos c36_33]
      rw [e_J] at J
      exact J _ X29
    · refine gifY B X29 (pc' := 42) d1_36 ((if0 _ _).trans (feq c36_33).2) (by decide) ?_
      have e_J : (okk (((u.toUInt32 >>> ((8 : Int32) &&& 31).toUInt32).toInt32) &&& (255 : Int32))) = (((u.toUInt32 >>> ((8 : Int32) &&& 31).toUInt32).toInt32) &&& (255 : Int32)) := by rw [okk, if_neg c36_33]
      rw [e_J] at J
      exact J _ X29
  intro T34 X35
  show Go p e below s _ _ _ _ _ T34 (mkF m 42 #[.val (.ref a), .val (.ref b), .val (.int fr), .val (.int (1 : Int32)), .val (.int w), .val (.int u), .val (.int q), .val (.int (oc1 w)), .val (.int (okk (((u.toUInt32 >>> ((8 : Int32) &&& 31).toUInt32).toInt32) &&& (255 : Int32))))] [])
  refine giload B X35 d1_42 rfl (pc' := 44) rfl ?_
  refine giloadN B X35 d1_44 rfl (pc' := 45) rfl ?_
  refine giushr B X35 d1_45 rfl (pc' := 46) rfl ?_
  refine giconst B X35 d1_46 (v := (1 : Int32)) rfl (pc' := 47) rfl ?_
  refine giand B X35 d1_47 rfl (pc' := 48) rfl ?_
  by_cases c48_36 : (((q.toUInt32 >>> ((1 : Int32) &&& 31).toUInt32).toInt32) &&& (1 : Int32)) = (0 : Int32)
  · refine gifN B X35 d1_48 ((if0 _ _).trans (teq c48_36).2) (pc' := 51) rfl ?_
    refine galoadN B X35 d1_51 rfl rfl (pc' := 52) rfl ?_
    refine giloadN B X35 d1_52 rfl (pc' := 53) rfl ?_
    refine giloadN B X35 d1_53 rfl (pc' := 54) rfl ?_
    refine giadd B X35 d1_54 rfl (pc' := 55) rfl ?_
    refine giload B X35 d1_55 rfl (pc' := 57) rfl ?_
    refine gbastore B X35 (i := jn) F32 hx h1 h2 (vs' := (xs.set jn (.int (oc1 w)))) (by rw [own_ocb1]) (Or.inl (List.mem_of_getElem? (i := 0) rfl)) d1_57 (pc' := 58) rfl fun T37 h38 X39 W40 A41 => ?_
    have F42 := A31.other W40 (Ne.symm hab)
    refine ggoto B X39 (pc' := 72) d1_58 (by decide) ?_
    exact gretV B X39 d1_72 (by decide) (by decide) (⟨rfl, by rw [ox1, if_pos c48_36]; exact A41, F42⟩)
  · refine gifY B X35 (pc' := 61) d1_48 ((if0 _ _).trans (feq c48_36).2) (by decide) ?_
    refine galoadN B X35 d1_61 rfl rfl (pc' := 62) rfl ?_
    refine giloadN B X35 d1_62 rfl (pc' := 63) rfl ?_
    refine giloadN B X35 d1_63 rfl (pc' := 64) rfl ?_
    refine giadd B X35 d1_64 rfl (pc' := 65) rfl ?_
    refine giload B X35 d1_65 rfl (pc' := 67) rfl ?_
    refine giload B X35 d1_67 rfl (pc' := 69) rfl ?_
    refine gixor B X35 d1_69 rfl (pc' := 70) rfl ?_
    refine gi2b B X35 d1_70 rfl (pc' := 71) rfl ?_
    refine gbastore B X35 (i := jn) F32 hx h1 h2 (vs' := (xs.set jn (.int ((oc1 w) ^^^ okk ((u.toUInt32 >>> ((8 : Int32) &&& 31).toUInt32).toInt32 &&& (255 : Int32))).toInt8.toInt32))) (by rw [nbb]) (Or.inl (List.mem_of_getElem? (i := 0) rfl)) d1_71 (pc' := 72) rfl fun T43 h44 X45 W46 A47 => ?_
    have F48 := A31.other W46 (Ne.symm hab)
    exact gretV B X45 d1_72 (by decide) (by decide) (⟨rfl, by rw [ox1, if_neg c48_36]; exact A47, F48⟩)
set_option maxRecDepth 65536 in
set_option maxHeartbeats 4000000 in
theorem mt1_2 (l : Launch) (Z : State) (a0 : Array Value) (hw : ∀ d ∈ tables_1, d.before a0 Z = true) (a b : Addr) (fr w u q nl : Int32) (xs ys : List Value) (jn n : Nat) (h0 : Heap) (FA : VA Z h0 a .byte xs) (FB : VA Z h0 b .byte ys) (hab : a ≠ b) (hx : xs.length = 8) (hy : ys.length = n) (hnl : nl.toInt = n) (hlt : (2 : Int32) < nl) (hi : 0 ≤ ((2 : Int32)).toInt ∧ ((2 : Int32)).toInt < n) (h1 : 0 ≤ (fr + (2 : Int32)).toInt ∧ (fr + (2 : Int32)).toInt < (8 : Nat)) (h2 : (fr + (2 : Int32)).toNatClampNeg = jn) : Meth l Z (⟨"com/example/nabu/nabu/protocol/PlainFieldsStartsWithPinLaw", "put", "([B[BIIIII)V"⟩ : MethodName) method_2_code 9 none rmr1 #[(.ref a), (.ref b), (.int fr), (.int (2 : Int32)), (.int w), (.int u), (.int q)] h0 [a, b] (fun v h' => v = none ∧ VA Z h' a .byte (xs.set jn (.int (ox2 w u q))) ∧ VA Z h' b .byte (ys.set 2 (.int (oc2 w)))) := by
  refine Meth.of pn1 ?_
  intro p e s m below meth c T B X
  refine Go.entry (ef1_RRIIIII m a b fr (2 : Int32) w u q) ?_
  refine giloadN B X d1_0 rfl (pc' := 1) rfl ?_
  refine galoadN B X d1_1 rfl rfl (pc' := 2) rfl ?_
  refine glength B X (n := nl) FB hy hnl d1_2 (pc' := 3) rfl ?_
  have c3_49 : (2 : Int32) < nl := hlt
  refine gicN B X d1_3 (tlt c3_49).2.1 (pc' := 6) rfl ?_
  refine giload B X d1_6 rfl (pc' := 8) rfl ?_
  refine gbipush B X d1_8 (v := (8 : Int32)) rfl (pc' := 10) rfl ?_
  refine giloadN B X d1_10 rfl (pc' := 11) rfl ?_
  refine gimul B X d1_11 (v := (16 : Int32)) (by decide) (pc' := 12) rfl ?_
  refine giushr B X d1_12 rfl (pc' := 13) rfl ?_
  refine gi2b B X d1_13 (v := (oc2 w)) (rfl) (pc' := 14) rfl ?_
  refine gistore B X d1_14 (Ls' := #[.val (.ref a), .val (.ref b), .val (.int fr), .val (.int (2 : Int32)), .val (.int w), .val (.int u), .val (.int q), .val (.int (oc2 w)), .unset]) rfl (pc' := 16) rfl ?_
  refine galoadN B X d1_16 rfl rfl (pc' := 17) rfl ?_
  refine giloadN B X d1_17 rfl (pc' := 18) rfl ?_
  refine giload B X d1_18 rfl (pc' := 20) rfl ?_
  refine gbastore B X (i := 2) FB hy hi rfl (vs' := (ys.set 2 (.int (oc2 w)))) (by rw [own_ocb2]) (Or.inl (List.mem_of_getElem? (i := 1) rfl)) d1_20 (pc' := 21) rfl fun T50 h51 X52 W53 A54 => ?_
  have F55 := FA.other W53 hab
  refine giload B X52 d1_21 rfl (pc' := 23) rfl ?_
  refine gbipush B X52 d1_23 (v := (8 : Int32)) rfl (pc' := 25) rfl ?_
  refine giloadN B X52 d1_25 rfl (pc' := 26) rfl ?_
  refine gimul B X52 d1_26 (v := (16 : Int32)) (by decide) (pc' := 27) rfl ?_
  refine giushr B X52 d1_27 rfl (pc' := 28) rfl ?_
  refine gsipush B X52 d1_28 (v := (255 : Int32)) rfl (pc' := 31) rfl ?_
  refine giand B X52 d1_31 rfl (pc' := 32) rfl ?_
  refine gistore B X52 d1_32 (Ls' := #[.val (.ref a), .val (.ref b), .val (.int fr), .val (.int (2 : Int32)), .val (.int w), .val (.int u), .val (.int q), .val (.int (oc2 w)), .val (.int (((u.toUInt32 >>> ((16 : Int32) &&& 31).toUInt32).toInt32) &&& (255 : Int32)))]) rfl (pc' := 34) rfl ?_
  refine joinG B X52 (F := fun z => (mkF m 42 #[.val (.ref a), .val (.ref b), .val (.int fr), .val (.int (2 : Int32)), .val (.int w), .val (.int u), .val (.int q), .val (.int (oc2 w)), .val (.int z)] [])) (r := (okk (((u.toUInt32 >>> ((16 : Int32) &&& 31).toUInt32).toInt32) &&& (255 : Int32)))) (fun J => ?_) ?_
  · refine giload B X52 d1_34 rfl (pc' := 36) rfl ?_
    by_cases c36_56 : (((u.toUInt32 >>> ((16 : Int32) &&& 31).toUInt32).toInt32) &&& (255 : Int32)) = (0 : Int32)
    · refine gifN B X52 d1_36 ((if0 _ _).trans (teq c36_56).2) (pc' := 39) rfl ?_
      refine giconst B X52 d1_39 (v := (1 : Int32)) rfl (pc' := 40) rfl ?_
      refine gistore B X52 d1_40 (Ls' := #[.val (.ref a), .val (.ref b), .val (.int fr), .val (.int (2 : Int32)), .val (.int w), .val (.int u), .val (.int q), .val (.int (oc2 w)), .val (.int (1 : Int32))]) rfl (pc' := 42) rfl ?_
      have e_J : (okk (((u.toUInt32 >>> ((16 : Int32) &&& 31).toUInt32).toInt32) &&& (255 : Int32))) = (1 : Int32) := by rw [okk, if_pos c36_56]
      rw [e_J] at J
      exact J _ X52
    · refine gifY B X52 (pc' := 42) d1_36 ((if0 _ _).trans (feq c36_56).2) (by decide) ?_
      have e_J : (okk (((u.toUInt32 >>> ((16 : Int32) &&& 31).toUInt32).toInt32) &&& (255 : Int32))) = (((u.toUInt32 >>> ((16 : Int32) &&& 31).toUInt32).toInt32) &&& (255 : Int32)) := by rw [okk, if_neg c36_56]
      rw [e_J] at J
      exact J _ X52
  intro T57 X58
  show Go p e below s _ _ _ _ _ T57 (mkF m 42 #[.val (.ref a), .val (.ref b), .val (.int fr), .val (.int (2 : Int32)), .val (.int w), .val (.int u), .val (.int q), .val (.int (oc2 w)), .val (.int (okk (((u.toUInt32 >>> ((16 : Int32) &&& 31).toUInt32).toInt32) &&& (255 : Int32))))] [])
  refine giload B X58 d1_42 rfl (pc' := 44) rfl ?_
  refine giloadN B X58 d1_44 rfl (pc' := 45) rfl ?_
  refine giushr B X58 d1_45 rfl (pc' := 46) rfl ?_
  refine giconst B X58 d1_46 (v := (1 : Int32)) rfl (pc' := 47) rfl ?_
  refine giand B X58 d1_47 rfl (pc' := 48) rfl ?_
  by_cases c48_59 : (((q.toUInt32 >>> ((2 : Int32) &&& 31).toUInt32).toInt32) &&& (1 : Int32)) = (0 : Int32)
  · refine gifN B X58 d1_48 ((if0 _ _).trans (teq c48_59).2) (pc' := 51) rfl ?_
    refine galoadN B X58 d1_51 rfl rfl (pc' := 52) rfl ?_
    refine giloadN B X58 d1_52 rfl (pc' := 53) rfl ?_
    refine giloadN B X58 d1_53 rfl (pc' := 54) rfl ?_
    refine giadd B X58 d1_54 rfl (pc' := 55) rfl ?_
    refine giload B X58 d1_55 rfl (pc' := 57) rfl ?_
    refine gbastore B X58 (i := jn) F55 hx h1 h2 (vs' := (xs.set jn (.int (oc2 w)))) (by rw [own_ocb2]) (Or.inl (List.mem_of_getElem? (i := 0) rfl)) d1_57 (pc' := 58) rfl fun T60 h61 X62 W63 A64 => ?_
    have F65 := A54.other W63 (Ne.symm hab)
    refine ggoto B X62 (pc' := 72) d1_58 (by decide) ?_
    exact gretV B X62 d1_72 (by decide) (by decide) (⟨rfl, by rw [ox2, if_pos c48_59]; exact A64, F65⟩)
  · refine gifY B X58 (pc' := 61) d1_48 ((if0 _ _).trans (feq c48_59).2) (by decide) ?_
    refine galoadN B X58 d1_61 rfl rfl (pc' := 62) rfl ?_
    refine giloadN B X58 d1_62 rfl (pc' := 63) rfl ?_
    refine giloadN B X58 d1_63 rfl (pc' := 64) rfl ?_
    refine giadd B X58 d1_64 rfl (pc' := 65) rfl ?_
    refine giload B X58 d1_65 rfl (pc' := 67) rfl ?_
    refine giload B X58 d1_67 rfl (pc' := 69) rfl ?_
    refine gixor B X58 d1_69 rfl (pc' := 70) rfl ?_
    refine gi2b B X58 d1_70 rfl (pc' := 71) rfl ?_
    refine gbastore B X58 (i := jn) F55 hx h1 h2 (vs' := (xs.set jn (.int ((oc2 w) ^^^ okk ((u.toUInt32 >>> ((16 : Int32) &&& 31).toUInt32).toInt32 &&& (255 : Int32))).toInt8.toInt32))) (by rw [nbb]) (Or.inl (List.mem_of_getElem? (i := 0) rfl)) d1_71 (pc' := 72) rfl fun T66 h67 X68 W69 A70 => ?_
    have F71 := A54.other W69 (Ne.symm hab)
    exact gretV B X68 d1_72 (by decide) (by decide) (⟨rfl, by rw [ox2, if_neg c48_59]; exact A70, F71⟩)
set_option maxRecDepth 65536 in
set_option maxHeartbeats 4000000 in
theorem mt1_3 (l : Launch) (Z : State) (a0 : Array Value) (hw : ∀ d ∈ tables_1, d.before a0 Z = true) (a b : Addr) (fr w u q nl : Int32) (xs ys : List Value) (jn n : Nat) (h0 : Heap) (FA : VA Z h0 a .byte xs) (FB : VA Z h0 b .byte ys) (hab : a ≠ b) (hx : xs.length = 8) (hy : ys.length = n) (hnl : nl.toInt = n) (hlt : (3 : Int32) < nl) (hi : 0 ≤ ((3 : Int32)).toInt ∧ ((3 : Int32)).toInt < n) (h1 : 0 ≤ (fr + (3 : Int32)).toInt ∧ (fr + (3 : Int32)).toInt < (8 : Nat)) (h2 : (fr + (3 : Int32)).toNatClampNeg = jn) : Meth l Z (⟨"com/example/nabu/nabu/protocol/PlainFieldsStartsWithPinLaw", "put", "([B[BIIIII)V"⟩ : MethodName) method_2_code 9 none rmr1 #[(.ref a), (.ref b), (.int fr), (.int (3 : Int32)), (.int w), (.int u), (.int q)] h0 [a, b] (fun v h' => v = none ∧ VA Z h' a .byte (xs.set jn (.int (ox3 w u q))) ∧ VA Z h' b .byte (ys.set 3 (.int (oc3 w)))) := by
  refine Meth.of pn1 ?_
  intro p e s m below meth c T B X
  refine Go.entry (ef1_RRIIIII m a b fr (3 : Int32) w u q) ?_
  refine giloadN B X d1_0 rfl (pc' := 1) rfl ?_
  refine galoadN B X d1_1 rfl rfl (pc' := 2) rfl ?_
  refine glength B X (n := nl) FB hy hnl d1_2 (pc' := 3) rfl ?_
  have c3_72 : (3 : Int32) < nl := hlt
  refine gicN B X d1_3 (tlt c3_72).2.1 (pc' := 6) rfl ?_
  refine giload B X d1_6 rfl (pc' := 8) rfl ?_
  refine gbipush B X d1_8 (v := (8 : Int32)) rfl (pc' := 10) rfl ?_
  refine giloadN B X d1_10 rfl (pc' := 11) rfl ?_
  refine gimul B X d1_11 (v := (24 : Int32)) (by decide) (pc' := 12) rfl ?_
  refine giushr B X d1_12 rfl (pc' := 13) rfl ?_
  refine gi2b B X d1_13 (v := (oc3 w)) (rfl) (pc' := 14) rfl ?_
  refine gistore B X d1_14 (Ls' := #[.val (.ref a), .val (.ref b), .val (.int fr), .val (.int (3 : Int32)), .val (.int w), .val (.int u), .val (.int q), .val (.int (oc3 w)), .unset]) rfl (pc' := 16) rfl ?_
  refine galoadN B X d1_16 rfl rfl (pc' := 17) rfl ?_
  refine giloadN B X d1_17 rfl (pc' := 18) rfl ?_
  refine giload B X d1_18 rfl (pc' := 20) rfl ?_
  refine gbastore B X (i := 3) FB hy hi rfl (vs' := (ys.set 3 (.int (oc3 w)))) (by rw [own_ocb3]) (Or.inl (List.mem_of_getElem? (i := 1) rfl)) d1_20 (pc' := 21) rfl fun T73 h74 X75 W76 A77 => ?_
  have F78 := FA.other W76 hab
  refine giload B X75 d1_21 rfl (pc' := 23) rfl ?_
  refine gbipush B X75 d1_23 (v := (8 : Int32)) rfl (pc' := 25) rfl ?_
  refine giloadN B X75 d1_25 rfl (pc' := 26) rfl ?_
  refine gimul B X75 d1_26 (v := (24 : Int32)) (by decide) (pc' := 27) rfl ?_
  refine giushr B X75 d1_27 rfl (pc' := 28) rfl ?_
  refine gsipush B X75 d1_28 (v := (255 : Int32)) rfl (pc' := 31) rfl ?_
  refine giand B X75 d1_31 rfl (pc' := 32) rfl ?_
  refine gistore B X75 d1_32 (Ls' := #[.val (.ref a), .val (.ref b), .val (.int fr), .val (.int (3 : Int32)), .val (.int w), .val (.int u), .val (.int q), .val (.int (oc3 w)), .val (.int (((u.toUInt32 >>> ((24 : Int32) &&& 31).toUInt32).toInt32) &&& (255 : Int32)))]) rfl (pc' := 34) rfl ?_
  refine joinG B X75 (F := fun z => (mkF m 42 #[.val (.ref a), .val (.ref b), .val (.int fr), .val (.int (3 : Int32)), .val (.int w), .val (.int u), .val (.int q), .val (.int (oc3 w)), .val (.int z)] [])) (r := (okk (((u.toUInt32 >>> ((24 : Int32) &&& 31).toUInt32).toInt32) &&& (255 : Int32)))) (fun J => ?_) ?_
  · refine giload B X75 d1_34 rfl (pc' := 36) rfl ?_
    by_cases c36_79 : (((u.toUInt32 >>> ((24 : Int32) &&& 31).toUInt32).toInt32) &&& (255 : Int32)) = (0 : Int32)
    · refine gifN B X75 d1_36 ((if0 _ _).trans (teq c36_79).2) (pc' := 39) rfl ?_
      refine giconst B X75 d1_39 (v := (1 : Int32)) rfl (pc' := 40) rfl ?_
      refine gistore B X75 d1_40 (Ls' := #[.val (.ref a), .val (.ref b), .val (.int fr), .val (.int (3 : Int32)), .val (.int w), .val (.int u), .val (.int q), .val (.int (oc3 w)), .val (.int (1 : Int32))]) rfl (pc' := 42) rfl ?_
      have e_J : (okk (((u.toUInt32 >>> ((24 : Int32) &&& 31).toUInt32).toInt32) &&& (255 : Int32))) = (1 : Int32) := by rw [okk, if_pos c36_79]
      rw [e_J] at J
      exact J _ X75
    · refine gifY B X75 (pc' := 42) d1_36 ((if0 _ _).trans (feq c36_79).2) (by decide) ?_
      have e_J : (okk (((u.toUInt32 >>> ((24 : Int32) &&& 31).toUInt32).toInt32) &&& (255 : Int32))) = (((u.toUInt32 >>> ((24 : Int32) &&& 31).toUInt32).toInt32) &&& (255 : Int32)) := by rw [okk, if_neg c36_79]
      rw [e_J] at J
      exact J _ X75
  intro T80 X81
  show Go p e below s _ _ _ _ _ T80 (mkF m 42 #[.val (.ref a), .val (.ref b), .val (.int fr), .val (.int (3 : Int32)), .val (.int w), .val (.int u), .val (.int q), .val (.int (oc3 w)), .val (.int (okk (((u.toUInt32 >>> ((24 : Int32) &&& 31).toUInt32).toInt32) &&& (255 : Int32))))] [])
  refine giload B X81 d1_42 rfl (pc' := 44) rfl ?_
  refine giloadN B X81 d1_44 rfl (pc' := 45) rfl ?_
  refine giushr B X81 d1_45 rfl (pc' := 46) rfl ?_
  refine giconst B X81 d1_46 (v := (1 : Int32)) rfl (pc' := 47) rfl ?_
  refine giand B X81 d1_47 rfl (pc' := 48) rfl ?_
  by_cases c48_82 : (((q.toUInt32 >>> ((3 : Int32) &&& 31).toUInt32).toInt32) &&& (1 : Int32)) = (0 : Int32)
  · refine gifN B X81 d1_48 ((if0 _ _).trans (teq c48_82).2) (pc' := 51) rfl ?_
    refine galoadN B X81 d1_51 rfl rfl (pc' := 52) rfl ?_
    refine giloadN B X81 d1_52 rfl (pc' := 53) rfl ?_
    refine giloadN B X81 d1_53 rfl (pc' := 54) rfl ?_
    refine giadd B X81 d1_54 rfl (pc' := 55) rfl ?_
    refine giload B X81 d1_55 rfl (pc' := 57) rfl ?_
    refine gbastore B X81 (i := jn) F78 hx h1 h2 (vs' := (xs.set jn (.int (oc3 w)))) (by rw [own_ocb3]) (Or.inl (List.mem_of_getElem? (i := 0) rfl)) d1_57 (pc' := 58) rfl fun T83 h84 X85 W86 A87 => ?_
    have F88 := A77.other W86 (Ne.symm hab)
    refine ggoto B X85 (pc' := 72) d1_58 (by decide) ?_
    exact gretV B X85 d1_72 (by decide) (by decide) (⟨rfl, by rw [ox3, if_pos c48_82]; exact A87, F88⟩)
  · refine gifY B X81 (pc' := 61) d1_48 ((if0 _ _).trans (feq c48_82).2) (by decide) ?_
    refine galoadN B X81 d1_61 rfl rfl (pc' := 62) rfl ?_
    refine giloadN B X81 d1_62 rfl (pc' := 63) rfl ?_
    refine giloadN B X81 d1_63 rfl (pc' := 64) rfl ?_
    refine giadd B X81 d1_64 rfl (pc' := 65) rfl ?_
    refine giload B X81 d1_65 rfl (pc' := 67) rfl ?_
    refine giload B X81 d1_67 rfl (pc' := 69) rfl ?_
    refine gixor B X81 d1_69 rfl (pc' := 70) rfl ?_
    refine gi2b B X81 d1_70 rfl (pc' := 71) rfl ?_
    refine gbastore B X81 (i := jn) F78 hx h1 h2 (vs' := (xs.set jn (.int ((oc3 w) ^^^ okk ((u.toUInt32 >>> ((24 : Int32) &&& 31).toUInt32).toInt32 &&& (255 : Int32))).toInt8.toInt32))) (by rw [nbb]) (Or.inl (List.mem_of_getElem? (i := 0) rfl)) d1_71 (pc' := 72) rfl fun T89 h90 X91 W92 A93 => ?_
    have F94 := A77.other W92 (Ne.symm hab)
    exact gretV B X91 d1_72 (by decide) (by decide) (⟨rfl, by rw [ox3, if_neg c48_82]; exact A93, F94⟩)
set_option maxRecDepth 65536 in
set_option maxHeartbeats 4000000 in
theorem mt1_no (l : Launch) (Z : State) (a0 : Array Value) (hw : ∀ d ∈ tables_1, d.before a0 Z = true) (a b : Addr) (fr i w u q nl : Int32) (ys : List Value) (n : Nat) (h0 : Heap) (FB : VA Z h0 b .byte ys) (hy : ys.length = n) (hnl : nl.toInt = n) (hge : ¬ i < nl) : Meth l Z (⟨"com/example/nabu/nabu/protocol/PlainFieldsStartsWithPinLaw", "put", "([B[BIIIII)V"⟩ : MethodName) method_2_code 9 none rmr1 #[(.ref a), (.ref b), (.int fr), (.int i), (.int w), (.int u), (.int q)] h0 [] (fun v h' => v = none ∧ h' = h0) := by
  refine Meth.of pn1 ?_
  intro p e s m below meth c T B X
  refine Go.entry (ef1_RRIIIII m a b fr i w u q) ?_
  refine giloadN B X d1_0 rfl (pc' := 1) rfl ?_
  refine galoadN B X d1_1 rfl rfl (pc' := 2) rfl ?_
  refine glength B X (n := nl) FB hy hnl d1_2 (pc' := 3) rfl ?_
  have c3_95 : ¬ (i < nl) := hge
  refine gicY B X (pc' := 72) d1_3 (flt c3_95).2.1 (by decide) ?_
  exact gretV B X d1_72 (by decide) (by decide) (⟨rfl, rfl⟩)
def oq (x y : Int32) : Int32 := if x = y then (1 : Int32) else (0 : Int32)
theorem own_q01 (x y : Int32) : nar .boolean (oq x y) = oq x y := by unfold oq; split <;> rfl
theorem d3_0 : decode prog_49_method_2_code 0 = .ok (.iconst 1, 1) := by decide +kernel
theorem d3_1 : decode prog_49_method_2_code 1 = .ok (.istore_n 3, 1) := by decide +kernel
theorem d3_2 : decode prog_49_method_2_code 2 = .ok (.iconst 0, 1) := by decide +kernel
theorem d3_3 : decode prog_49_method_2_code 3 = .ok (.istore 4, 2) := by decide +kernel
theorem d3_5 : decode prog_49_method_2_code 5 = .ok (.iload 4, 2) := by decide +kernel
theorem d3_7 : decode prog_49_method_2_code 7 = .ok (.aload_n 2, 1) := by decide +kernel
theorem d3_8 : decode prog_49_method_2_code 8 = .ok (.arraylength, 1) := by decide +kernel
theorem d3_9 : decode prog_49_method_2_code 9 = .ok (.if_icmp .ge 32, 3) := by decide +kernel
theorem d3_12 : decode prog_49_method_2_code 12 = .ok (.iload_n 3, 1) := by decide +kernel
theorem d3_13 : decode prog_49_method_2_code 13 = .ok (.ifCond .eq 28, 3) := by decide +kernel
theorem d3_16 : decode prog_49_method_2_code 16 = .ok (.aload_n 0, 1) := by decide +kernel
theorem d3_17 : decode prog_49_method_2_code 17 = .ok (.iload_n 1, 1) := by decide +kernel
theorem d3_18 : decode prog_49_method_2_code 18 = .ok (.iload 4, 2) := by decide +kernel
theorem d3_20 : decode prog_49_method_2_code 20 = .ok (.iadd, 1) := by decide +kernel
theorem d3_21 : decode prog_49_method_2_code 21 = .ok (.baload, 1) := by decide +kernel
theorem d3_22 : decode prog_49_method_2_code 22 = .ok (.aload_n 2, 1) := by decide +kernel
theorem d3_23 : decode prog_49_method_2_code 23 = .ok (.iload 4, 2) := by decide +kernel
theorem d3_25 : decode prog_49_method_2_code 25 = .ok (.baload, 1) := by decide +kernel
theorem d3_26 : decode prog_49_method_2_code 26 = .ok (.if_icmp .ne 7, 3) := by decide +kernel
theorem d3_29 : decode prog_49_method_2_code 29 = .ok (.iconst 1, 1) := by decide +kernel
theorem d3_30 : decode prog_49_method_2_code 30 = .ok (.goto 4, 3) := by decide +kernel
theorem d3_33 : decode prog_49_method_2_code 33 = .ok (.iconst 0, 1) := by decide +kernel
theorem d3_34 : decode prog_49_method_2_code 34 = .ok (.istore_n 3, 1) := by decide +kernel
theorem d3_35 : decode prog_49_method_2_code 35 = .ok (.iinc 4 1, 3) := by decide +kernel
theorem d3_38 : decode prog_49_method_2_code 38 = .ok (.goto (-33), 3) := by decide +kernel
theorem d3_41 : decode prog_49_method_2_code 41 = .ok (.iload_n 3, 1) := by decide +kernel
theorem d3_42 : decode prog_49_method_2_code 42 = .ok (.ireturn, 1) := by decide +kernel
theorem pn3 : plainFor (⟨"com/example/nabu/nabu/protocol/PlainFields", "startsWith", "([BI[B)Z"⟩ : MethodName) = true := plainFor_of_name (by first | (simp [plainName, overriddenIn]; done) | decide +kernel)
theorem ef3_RIR (m : MethodId) (x0 : Addr) (x1 : Int32) (x2 : Addr) : entryFrame m #[(.ref x0), (.int x1), (.ref x2)] 5 = mkF m 0 #[.val (.ref x0), .val (.int x1), .val (.ref x2), .unset, .unset] [] := by first | (simp [entryFrame, mkF, argsToLocals, Value.category]; done) | rfl
def f3_0  : Int32 := (1 : Int32)
def rmr3 : Room := { frames := 0, cells := 0, slots := 0, locals := 0 }
set_option maxRecDepth 65536 in
set_option maxHeartbeats 4000000 in
theorem mt3_0 (l : Launch) (Z : State) (a0 : Array Value) (hw : ∀ d ∈ tables_1, d.before a0 Z = true) (a : Addr) (fr : Int32) (b : Addr) (xs : List Value) (h0 : Heap) (FA : VA Z h0 a .byte xs) (hx : xs.length = 8) (FB : VA Z h0 b .byte []) : Meth l Z (⟨"com/example/nabu/nabu/protocol/PlainFields", "startsWith", "([BI[B)Z"⟩ : MethodName) prog_49_method_2_code 5 (some .boolean) rmr3 #[(.ref a), (.int fr), (.ref b)] h0 [] (fun vr h' => vr = some (.int f3_0) ∧ h' = h0) := by
  refine Meth.of pn3 ?_
  intro p e s m below meth c T B X
  refine Go.entry (ef3_RIR m a fr b) ?_
  refine giconst B X d3_0 (v := (1 : Int32)) rfl (pc' := 1) rfl ?_
  refine gistoreN B X d3_1 (Ls' := #[.val (.ref a), .val (.int fr), .val (.ref b), .val (.int (1 : Int32)), .unset]) rfl (pc' := 2) rfl ?_
  refine giconst B X d3_2 (v := (0 : Int32)) rfl (pc' := 3) rfl ?_
  refine gistore B X d3_3 (Ls' := #[.val (.ref a), .val (.int fr), .val (.ref b), .val (.int (1 : Int32)), .val (.int (0 : Int32))]) rfl (pc' := 5) rfl ?_
  refine giload B X d3_5 rfl (pc' := 7) rfl ?_
  refine galoadN B X d3_7 rfl rfl (pc' := 8) rfl ?_
  refine glength B X (n := (0 : Int32)) FB (k := 0) rfl (by decide) d3_8 (pc' := 9) rfl ?_
  have c9_96 : ¬ ((0 : Int32) < (0 : Int32)) := (by decide)
  refine gicY B X (pc' := 41) d3_9 (flt c9_96).2.1 (by decide) ?_
  refine giloadN B X d3_41 rfl (pc' := 42) rfl ?_
  exact gretN B X (z' := (1 : Int32)) (by simp) (rfl) d3_42 (by decide) (by decide) (⟨rfl, rfl⟩)
def f3_1 (x0 : Int32) (y0 : Int32) : Int32 := (oq x0 y0)
set_option maxRecDepth 65536 in
set_option maxHeartbeats 4000000 in
theorem mt3_1 (l : Launch) (Z : State) (a0 : Array Value) (hw : ∀ d ∈ tables_1, d.before a0 Z = true) (a : Addr) (fr : Int32) (b : Addr) (xs : List Value) (x0 y0 : Int32) (h0 : Heap) (FA : VA Z h0 a .byte xs) (hx : xs.length = 8) (FB : VA Z h0 b .byte [.int y0]) (i0 : 0 ≤ (fr + (0 : Int32)).toInt ∧ (fr + (0 : Int32)).toInt < (8 : Nat)) (v0 : xs[(fr + (0 : Int32)).toNatClampNeg]? = some (.int x0)) : Meth l Z (⟨"com/example/nabu/nabu/protocol/PlainFields", "startsWith", "([BI[B)Z"⟩ : MethodName) prog_49_method_2_code 5 (some .boolean) rmr3 #[(.ref a), (.int fr), (.ref b)] h0 [] (fun vr h' => vr = some (.int (f3_1 x0 y0)) ∧ h' = h0) := by
  refine Meth.of pn3 ?_
  intro p e s m below meth c T B X
  refine Go.entry (ef3_RIR m a fr b) ?_
  refine giconst B X d3_0 (v := (1 : Int32)) rfl (pc' := 1) rfl ?_
  refine gistoreN B X d3_1 (Ls' := #[.val (.ref a), .val (.int fr), .val (.ref b), .val (.int (1 : Int32)), .unset]) rfl (pc' := 2) rfl ?_
  refine giconst B X d3_2 (v := (0 : Int32)) rfl (pc' := 3) rfl ?_
  refine gistore B X d3_3 (Ls' := #[.val (.ref a), .val (.int fr), .val (.ref b), .val (.int (1 : Int32)), .val (.int (0 : Int32))]) rfl (pc' := 5) rfl ?_
  refine giload B X d3_5 rfl (pc' := 7) rfl ?_
  refine galoadN B X d3_7 rfl rfl (pc' := 8) rfl ?_
  refine glength B X (n := (1 : Int32)) FB (k := 1) rfl (by decide) d3_8 (pc' := 9) rfl ?_
  have c9_97 : (0 : Int32) < (1 : Int32) := (by decide)
  refine gicN B X d3_9 (tlt c9_97).2.1 (pc' := 12) rfl ?_
  refine giloadN B X d3_12 rfl (pc' := 13) rfl ?_
  have c13_98 : ¬ ((1 : Int32) = (0 : Int32)) := (by decide)
  refine gifN B X d3_13 ((if0 _ _).trans (feq c13_98).1) (pc' := 16) rfl ?_
  refine galoadN B X d3_16 rfl rfl (pc' := 17) rfl ?_
  refine giloadN B X d3_17 rfl (pc' := 18) rfl ?_
  refine giload B X d3_18 rfl (pc' := 20) rfl ?_
  refine giadd B X d3_20 rfl (pc' := 21) rfl ?_
  refine gbaload B X FA hx i0 (v := (.int x0)) (v0) d3_21 (pc' := 22) rfl ?_
  refine galoadN B X d3_22 rfl rfl (pc' := 23) rfl ?_
  refine giload B X d3_23 rfl (pc' := 25) rfl ?_
  refine gbaload B X (n := 1) FB rfl (by decide) (v := (.int y0)) rfl d3_25 (pc' := 26) rfl ?_
  refine joinG B X (F := fun z => (mkF m 34 #[.val (.ref a), .val (.int fr), .val (.ref b), .val (.int (1 : Int32)), .val (.int (0 : Int32))] [(.int z)])) (r := (oq x0 y0)) (fun J => ?_) ?_
  · by_cases c26_99 : x0 = y0
    · refine gicN B X d3_26 (teq c26_99).2 (pc' := 29) rfl ?_
      refine giconst B X d3_29 (v := (1 : Int32)) rfl (pc' := 30) rfl ?_
      refine ggoto B X (pc' := 34) d3_30 (by decide) ?_
      have e_J : (oq x0 y0) = (1 : Int32) := by rw [oq, if_pos c26_99]
      rw [e_J] at J
      exact J _ X
    · refine gicY B X (pc' := 33) d3_26 (feq c26_99).2 (by decide) ?_
      refine giconst B X d3_33 (v := (0 : Int32)) rfl (pc' := 34) rfl ?_
      have e_J : (oq x0 y0) = (0 : Int32) := by rw [oq, if_neg c26_99]
      rw [e_J] at J
      exact J _ X
  intro T100 X101
  show Go p e below s _ _ _ _ _ T100 (mkF m 34 #[.val (.ref a), .val (.int fr), .val (.ref b), .val (.int (1 : Int32)), .val (.int (0 : Int32))] [(.int (oq x0 y0))])
  refine gistoreN B X101 d3_34 (Ls' := #[.val (.ref a), .val (.int fr), .val (.ref b), .val (.int (oq x0 y0)), .val (.int (0 : Int32))]) rfl (pc' := 35) rfl ?_
  refine giinc B X101 d3_35 rfl (v := (1 : Int32)) (by decide) (Ls' := #[.val (.ref a), .val (.int fr), .val (.ref b), .val (.int (oq x0 y0)), .val (.int (1 : Int32))]) rfl (pc' := 38) rfl ?_
  refine ggoto B X101 (pc' := 5) d3_38 (by decide) ?_
  refine giload B X101 d3_5 rfl (pc' := 7) rfl ?_
  refine galoadN B X101 d3_7 rfl rfl (pc' := 8) rfl ?_
  refine glength B X101 (n := (1 : Int32)) FB (k := 1) rfl (by decide) d3_8 (pc' := 9) rfl ?_
  have c9_102 : ¬ ((1 : Int32) < (1 : Int32)) := (by decide)
  refine gicY B X101 (pc' := 41) d3_9 (flt c9_102).2.1 (by decide) ?_
  refine giloadN B X101 d3_41 rfl (pc' := 42) rfl ?_
  exact gretN B X101 (z' := (oq x0 y0)) (by simp) (own_q01 _ _) d3_42 (by decide) (by decide) (⟨rfl, rfl⟩)
def f3_2 (x0 : Int32) (y0 : Int32) (x1 : Int32) (y1 : Int32) : Int32 := if (oq x0 y0) = (0 : Int32) then (oq x0 y0) else ((oq x1 y1))
set_option maxRecDepth 65536 in
set_option maxHeartbeats 4000000 in
theorem mt3_2 (l : Launch) (Z : State) (a0 : Array Value) (hw : ∀ d ∈ tables_1, d.before a0 Z = true) (a : Addr) (fr : Int32) (b : Addr) (xs : List Value) (x0 y0 x1 y1 : Int32) (h0 : Heap) (FA : VA Z h0 a .byte xs) (hx : xs.length = 8) (FB : VA Z h0 b .byte [.int y0, .int y1]) (i0 : 0 ≤ (fr + (0 : Int32)).toInt ∧ (fr + (0 : Int32)).toInt < (8 : Nat)) (v0 : xs[(fr + (0 : Int32)).toNatClampNeg]? = some (.int x0)) (i1 : 0 ≤ (fr + (1 : Int32)).toInt ∧ (fr + (1 : Int32)).toInt < (8 : Nat)) (v1 : xs[(fr + (1 : Int32)).toNatClampNeg]? = some (.int x1)) : Meth l Z (⟨"com/example/nabu/nabu/protocol/PlainFields", "startsWith", "([BI[B)Z"⟩ : MethodName) prog_49_method_2_code 5 (some .boolean) rmr3 #[(.ref a), (.int fr), (.ref b)] h0 [] (fun vr h' => vr = some (.int (f3_2 x0 y0 x1 y1)) ∧ h' = h0) := by
  refine Meth.of pn3 ?_
  intro p e s m below meth c T B X
  refine Go.entry (ef3_RIR m a fr b) ?_
  refine giconst B X d3_0 (v := (1 : Int32)) rfl (pc' := 1) rfl ?_
  refine gistoreN B X d3_1 (Ls' := #[.val (.ref a), .val (.int fr), .val (.ref b), .val (.int (1 : Int32)), .unset]) rfl (pc' := 2) rfl ?_
  refine giconst B X d3_2 (v := (0 : Int32)) rfl (pc' := 3) rfl ?_
  refine gistore B X d3_3 (Ls' := #[.val (.ref a), .val (.int fr), .val (.ref b), .val (.int (1 : Int32)), .val (.int (0 : Int32))]) rfl (pc' := 5) rfl ?_
  refine giload B X d3_5 rfl (pc' := 7) rfl ?_
  refine galoadN B X d3_7 rfl rfl (pc' := 8) rfl ?_
  refine glength B X (n := (2 : Int32)) FB (k := 2) rfl (by decide) d3_8 (pc' := 9) rfl ?_
  have c9_103 : (0 : Int32) < (2 : Int32) := (by decide)
  refine gicN B X d3_9 (tlt c9_103).2.1 (pc' := 12) rfl ?_
  refine giloadN B X d3_12 rfl (pc' := 13) rfl ?_
  have c13_104 : ¬ ((1 : Int32) = (0 : Int32)) := (by decide)
  refine gifN B X d3_13 ((if0 _ _).trans (feq c13_104).1) (pc' := 16) rfl ?_
  refine galoadN B X d3_16 rfl rfl (pc' := 17) rfl ?_
  refine giloadN B X d3_17 rfl (pc' := 18) rfl ?_
  refine giload B X d3_18 rfl (pc' := 20) rfl ?_
  refine giadd B X d3_20 rfl (pc' := 21) rfl ?_
  refine gbaload B X FA hx i0 (v := (.int x0)) (v0) d3_21 (pc' := 22) rfl ?_
  refine galoadN B X d3_22 rfl rfl (pc' := 23) rfl ?_
  refine giload B X d3_23 rfl (pc' := 25) rfl ?_
  refine gbaload B X (n := 2) FB rfl (by decide) (v := (.int y0)) rfl d3_25 (pc' := 26) rfl ?_
  refine joinG B X (F := fun z => (mkF m 34 #[.val (.ref a), .val (.int fr), .val (.ref b), .val (.int (1 : Int32)), .val (.int (0 : Int32))] [(.int z)])) (r := (oq x0 y0)) (fun J => ?_) ?_
  · by_cases c26_105 : x0 = y0
    · refine gicN B X d3_26 (teq c26_105).2 (pc' := 29) rfl ?_
      refine giconst B X d3_29 (v := (1 : Int32)) rfl (pc' := 30) rfl ?_
      refine ggoto B X (pc' := 34) d3_30 (by decide) ?_
      have e_J : (oq x0 y0) = (1 : Int32) := by rw [oq, if_pos c26_105]
      rw [e_J] at J
      exact J _ X
    · refine gicY B X (pc' := 33) d3_26 (feq c26_105).2 (by decide) ?_
      refine giconst B X d3_33 (v := (0 : Int32)) rfl (pc' := 34) rfl ?_
      have e_J : (oq x0 y0) = (0 : Int32) := by rw [oq, if_neg c26_105]
      rw [e_J] at J
      exact J _ X
  intro T106 X107
  show Go p e below s _ _ _ _ _ T106 (mkF m 34 #[.val (.ref a), .val (.int fr), .val (.ref b), .val (.int (1 : Int32)), .val (.int (0 : Int32))] [(.int (oq x0 y0))])
  refine gistoreN B X107 d3_34 (Ls' := #[.val (.ref a), .val (.int fr), .val (.ref b), .val (.int (oq x0 y0)), .val (.int (0 : Int32))]) rfl (pc' := 35) rfl ?_
  refine giinc B X107 d3_35 rfl (v := (1 : Int32)) (by decide) (Ls' := #[.val (.ref a), .val (.int fr), .val (.ref b), .val (.int (oq x0 y0)), .val (.int (1 : Int32))]) rfl (pc' := 38) rfl ?_
  refine ggoto B X107 (pc' := 5) d3_38 (by decide) ?_
  refine giload B X107 d3_5 rfl (pc' := 7) rfl ?_
  refine galoadN B X107 d3_7 rfl rfl (pc' := 8) rfl ?_
  refine glength B X107 (n := (2 : Int32)) FB (k := 2) rfl (by decide) d3_8 (pc' := 9) rfl ?_
  have c9_108 : (1 : Int32) < (2 : Int32) := (by decide)
  refine gicN B X107 d3_9 (tlt c9_108).2.1 (pc' := 12) rfl ?_
  refine giloadN B X107 d3_12 rfl (pc' := 13) rfl ?_
  by_cases c13_109 : (oq x0 y0) = (0 : Int32)
  · refine gifY B X107 (pc' := 41) d3_13 ((if0 _ _).trans (teq c13_109).1) (by decide) ?_
    refine giloadN B X107 d3_41 rfl (pc' := 42) rfl ?_
    exact gretN B X107 (z' := (oq x0 y0)) (by simp) (own_q01 _ _) d3_42 (by decide) (by decide) (⟨by rw [f3_2, if_pos c13_109], rfl⟩)
  · refine gifN B X107 d3_13 ((if0 _ _).trans (feq c13_109).1) (pc' := 16) rfl ?_
    refine galoadN B X107 d3_16 rfl rfl (pc' := 17) rfl ?_
    refine giloadN B X107 d3_17 rfl (pc' := 18) rfl ?_
    refine giload B X107 d3_18 rfl (pc' := 20) rfl ?_
    refine giadd B X107 d3_20 rfl (pc' := 21) rfl ?_
    refine gbaload B X107 FA hx i1 (v := (.int x1)) (v1) d3_21 (pc' := 22) rfl ?_
    refine galoadN B X107 d3_22 rfl rfl (pc' := 23) rfl ?_
    refine giload B X107 d3_23 rfl (pc' := 25) rfl ?_
    refine gbaload B X107 (n := 2) FB rfl (by decide) (v := (.int y1)) rfl d3_25 (pc' := 26) rfl ?_
    refine joinG B X107 (F := fun z => (mkF m 34 #[.val (.ref a), .val (.int fr), .val (.ref b), .val (.int (oq x0 y0)), .val (.int (1 : Int32))] [(.int z)])) (r := (oq x1 y1)) (fun J => ?_) ?_
    · by_cases c26_110 : x1 = y1
      · refine gicN B X107 d3_26 (teq c26_110).2 (pc' := 29) rfl ?_
        refine giconst B X107 d3_29 (v := (1 : Int32)) rfl (pc' := 30) rfl ?_
        refine ggoto B X107 (pc' := 34) d3_30 (by decide) ?_
        have e_J : (oq x1 y1) = (1 : Int32) := by rw [oq, if_pos c26_110]
        rw [e_J] at J
        exact J _ X107
      · refine gicY B X107 (pc' := 33) d3_26 (feq c26_110).2 (by decide) ?_
        refine giconst B X107 d3_33 (v := (0 : Int32)) rfl (pc' := 34) rfl ?_
        have e_J : (oq x1 y1) = (0 : Int32) := by rw [oq, if_neg c26_110]
        rw [e_J] at J
        exact J _ X107
    intro T111 X112
    show Go p e below s _ _ _ _ _ T111 (mkF m 34 #[.val (.ref a), .val (.int fr), .val (.ref b), .val (.int (oq x0 y0)), .val (.int (1 : Int32))] [(.int (oq x1 y1))])
    refine gistoreN B X112 d3_34 (Ls' := #[.val (.ref a), .val (.int fr), .val (.ref b), .val (.int (oq x1 y1)), .val (.int (1 : Int32))]) rfl (pc' := 35) rfl ?_
    refine giinc B X112 d3_35 rfl (v := (2 : Int32)) (by decide) (Ls' := #[.val (.ref a), .val (.int fr), .val (.ref b), .val (.int (oq x1 y1)), .val (.int (2 : Int32))]) rfl (pc' := 38) rfl ?_
    refine ggoto B X112 (pc' := 5) d3_38 (by decide) ?_
    refine giload B X112 d3_5 rfl (pc' := 7) rfl ?_
    refine galoadN B X112 d3_7 rfl rfl (pc' := 8) rfl ?_
    refine glength B X112 (n := (2 : Int32)) FB (k := 2) rfl (by decide) d3_8 (pc' := 9) rfl ?_
    have c9_113 : ¬ ((2 : Int32) < (2 : Int32)) := (by decide)
    refine gicY B X112 (pc' := 41) d3_9 (flt c9_113).2.1 (by decide) ?_
    refine giloadN B X112 d3_41 rfl (pc' := 42) rfl ?_
    exact gretN B X112 (z' := (oq x1 y1)) (by simp) (own_q01 _ _) d3_42 (by decide) (by decide) (⟨by rw [f3_2, if_neg c13_109], rfl⟩)
def f3_3 (x0 : Int32) (y0 : Int32) (x1 : Int32) (y1 : Int32) (x2 : Int32) (y2 : Int32) : Int32 := if (oq x0 y0) = (0 : Int32) then (oq x0 y0) else (if (oq x1 y1) = (0 : Int32) then (oq x1 y1) else ((oq x2 y2)))
set_option maxRecDepth 65536 in
set_option maxHeartbeats 4000000 in
theorem mt3_3 (l : Launch) (Z : State) (a0 : Array Value) (hw : ∀ d ∈ tables_1, d.before a0 Z = true) (a : Addr) (fr : Int32) (b : Addr) (xs : List Value) (x0 y0 x1 y1 x2 y2 : Int32) (h0 : Heap) (FA : VA Z h0 a .byte xs) (hx : xs.length = 8) (FB : VA Z h0 b .byte [.int y0, .int y1, .int y2]) (i0 : 0 ≤ (fr + (0 : Int32)).toInt ∧ (fr + (0 : Int32)).toInt < (8 : Nat)) (v0 : xs[(fr + (0 : Int32)).toNatClampNeg]? = some (.int x0)) (i1 : 0 ≤ (fr + (1 : Int32)).toInt ∧ (fr + (1 : Int32)).toInt < (8 : Nat)) (v1 : xs[(fr + (1 : Int32)).toNatClampNeg]? = some (.int x1)) (i2 : 0 ≤ (fr + (2 : Int32)).toInt ∧ (fr + (2 : Int32)).toInt < (8 : Nat)) (v2 : xs[(fr + (2 : Int32)).toNatClampNeg]? = some (.int x2)) : Meth l Z (⟨"com/example/nabu/nabu/protocol/PlainFields", "startsWith", "([BI[B)Z"⟩ : MethodName) prog_49_method_2_code 5 (some .boolean) rmr3 #[(.ref a), (.int fr), (.ref b)] h0 [] (fun vr h' => vr = some (.int (f3_3 x0 y0 x1 y1 x2 y2)) ∧ h' = h0) := by
  refine Meth.of pn3 ?_
  intro p e s m below meth c T B X
  refine Go.entry (ef3_RIR m a fr b) ?_
  refine giconst B X d3_0 (v := (1 : Int32)) rfl (pc' := 1) rfl ?_
  refine gistoreN B X d3_1 (Ls' := #[.val (.ref a), .val (.int fr), .val (.ref b), .val (.int (1 : Int32)), .unset]) rfl (pc' := 2) rfl ?_
  refine giconst B X d3_2 (v := (0 : Int32)) rfl (pc' := 3) rfl ?_
  refine gistore B X d3_3 (Ls' := #[.val (.ref a), .val (.int fr), .val (.ref b), .val (.int (1 : Int32)), .val (.int (0 : Int32))]) rfl (pc' := 5) rfl ?_
  refine giload B X d3_5 rfl (pc' := 7) rfl ?_
  refine galoadN B X d3_7 rfl rfl (pc' := 8) rfl ?_
  refine glength B X (n := (3 : Int32)) FB (k := 3) rfl (by decide) d3_8 (pc' := 9) rfl ?_
  have c9_114 : (0 : Int32) < (3 : Int32) := (by decide)
  refine gicN B X d3_9 (tlt c9_114).2.1 (pc' := 12) rfl ?_
  refine giloadN B X d3_12 rfl (pc' := 13) rfl ?_
  have c13_115 : ¬ ((1 : Int32) = (0 : Int32)) := (by decide)
  refine gifN B X d3_13 ((if0 _ _).trans (feq c13_115).1) (pc' := 16) rfl ?_
  refine galoadN B X d3_16 rfl rfl (pc' := 17) rfl ?_
  refine giloadN B X d3_17 rfl (pc' := 18) rfl ?_
  refine giload B X d3_18 rfl (pc' := 20) rfl ?_
  refine giadd B X d3_20 rfl (pc' := 21) rfl ?_
  refine gbaload B X FA hx i0 (v := (.int x0)) (v0) d3_21 (pc' := 22) rfl ?_
  refine galoadN B X d3_22 rfl rfl (pc' := 23) rfl ?_
  refine giload B X d3_23 rfl (pc' := 25) rfl ?_
  refine gbaload B X (n := 3) FB rfl (by decide) (v := (.int y0)) rfl d3_25 (pc' := 26) rfl ?_
  refine joinG B X (F := fun z => (mkF m 34 #[.val (.ref a), .val (.int fr), .val (.ref b), .val (.int (1 : Int32)), .val (.int (0 : Int32))] [(.int z)])) (r := (oq x0 y0)) (fun J => ?_) ?_
  · by_cases c26_116 : x0 = y0
    · refine gicN B X d3_26 (teq c26_116).2 (pc' := 29) rfl ?_
      refine giconst B X d3_29 (v := (1 : Int32)) rfl (pc' := 30) rfl ?_
      refine ggoto B X (pc' := 34) d3_30 (by decide) ?_
      have e_J : (oq x0 y0) = (1 : Int32) := by rw [oq, if_pos c26_116]
      rw [e_J] at J
      exact J _ X
    · refine gicY B X (pc' := 33) d3_26 (feq c26_116).2 (by decide) ?_
      refine giconst B X d3_33 (v := (0 : Int32)) rfl (pc' := 34) rfl ?_
      have e_J : (oq x0 y0) = (0 : Int32) := by rw [oq, if_neg c26_116]
      rw [e_J] at J
      exact J _ X
  intro T117 X118
  show Go p e below s _ _ _ _ _ T117 (mkF m 34 #[.val (.ref a), .val (.int fr), .val (.ref b), .val (.int (1 : Int32)), .val (.int (0 : Int32))] [(.int (oq x0 y0))])
  refine gistoreN B X118 d3_34 (Ls' := #[.val (.ref a), .val (.int fr), .val (.ref b), .val (.int (oq x0 y0)), .val (.int (0 : Int32))]) rfl (pc' := 35) rfl ?_
  refine giinc B X118 d3_35 rfl (v := (1 : Int32)) (by decide) (Ls' := #[.val (.ref a), .val (.int fr), .val (.ref b), .val (.int (oq x0 y0)), .val (.int (1 : Int32))]) rfl (pc' := 38) rfl ?_
  refine ggoto B X118 (pc' := 5) d3_38 (by decide) ?_
  refine giload B X118 d3_5 rfl (pc' := 7) rfl ?_
  refine galoadN B X118 d3_7 rfl rfl (pc' := 8) rfl ?_
  refine glength B X118 (n := (3 : Int32)) FB (k := 3) rfl (by decide) d3_8 (pc' := 9) rfl ?_
  have c9_119 : (1 : Int32) < (3 : Int32) := (by decide)
  refine gicN B X118 d3_9 (tlt c9_119).2.1 (pc' := 12) rfl ?_
  refine giloadN B X118 d3_12 rfl (pc' := 13) rfl ?_
  by_cases c13_120 : (oq x0 y0) = (0 : Int32)
  · refine gifY B X118 (pc' := 41) d3_13 ((if0 _ _).trans (teq c13_120).1) (by decide) ?_
    refine giloadN B X118 d3_41 rfl (pc' := 42) rfl ?_
    exact gretN B X118 (z' := (oq x0 y0)) (by simp) (own_q01 _ _) d3_42 (by decide) (by decide) (⟨by rw [f3_3, if_pos c13_120], rfl⟩)
  · refine gifN B X118 d3_13 ((if0 _ _).trans (feq c13_120).1) (pc' := 16) rfl ?_
    refine galoadN B X118 d3_16 rfl rfl (pc' := 17) rfl ?_
    refine giloadN B X118 d3_17 rfl (pc' := 18) rfl ?_
    refine giload B X118 d3_18 rfl (pc' := 20) rfl ?_
    refine giadd B X118 d3_20 rfl (pc' := 21) rfl ?_
    refine gbaload B X118 FA hx i1 (v := (.int x1)) (v1) d3_21 (pc' := 22) rfl ?_
    refine galoadN B X118 d3_22 rfl rfl (pc' := 23) rfl ?_
    refine giload B X118 d3_23 rfl (pc' := 25) rfl ?_
    refine gbaload B X118 (n := 3) FB rfl (by decide) (v := (.int y1)) rfl d3_25 (pc' := 26) rfl ?_
    refine joinG B X118 (F := fun z => (mkF m 34 #[.val (.ref a), .val (.int fr), .val (.ref b), .val (.int (oq x0 y0)), .val (.int (1 : Int32))] [(.int z)])) (r := (oq x1 y1)) (fun J => ?_) ?_
    · by_cases c26_121 : x1 = y1
      · refine gicN B X118 d3_26 (teq c26_121).2 (pc' := 29) rfl ?_
        refine giconst B X118 d3_29 (v := (1 : Int32)) rfl (pc' := 30) rfl ?_
        refine ggoto B X118 (pc' := 34) d3_30 (by decide) ?_
        have e_J : (oq x1 y1) = (1 : Int32) := by rw [oq, if_pos c26_121]
        rw [e_J] at J
        exact J _ X118
      · refine gicY B X118 (pc' := 33) d3_26 (feq c26_121).2 (by decide) ?_
        refine giconst B X118 d3_33 (v := (0 : Int32)) rfl (pc' := 34) rfl ?_
        have e_J : (oq x1 y1) = (0 : Int32) := by rw [oq, if_neg c26_121]
        rw [e_J] at J
        exact J _ X118
    intro T122 X123
    show Go p e below s _ _ _ _ _ T122 (mkF m 34 #[.val (.ref a), .val (.int fr), .val (.ref b), .val (.int (oq x0 y0)), .val (.int (1 : Int32))] [(.int (oq x1 y1))])
    refine gistoreN B X123 d3_34 (Ls' := #[.val (.ref a), .val (.int fr), .val (.ref b), .val (.int (oq x1 y1)), .val (.int (1 : Int32))]) rfl (pc' := 35) rfl ?_
    refine giinc B X123 d3_35 rfl (v := (2 : Int32)) (by decide) (Ls' := #[.val (.ref a), .val (.int fr), .val (.ref b), .val (.int (oq x1 y1)), .val (.int (2 : Int32))]) rfl (pc' := 38) rfl ?_
    refine ggoto B X123 (pc' := 5) d3_38 (by decide) ?_
    refine giload B X123 d3_5 rfl (pc' := 7) rfl ?_
    refine galoadN B X123 d3_7 rfl rfl (pc' := 8) rfl ?_
    refine glength B X123 (n := (3 : Int32)) FB (k := 3) rfl (by decide) d3_8 (pc' := 9) rfl ?_
    have c9_124 : (2 : Int32) < (3 : Int32) := (by decide)
    refine gicN B X123 d3_9 (tlt c9_124).2.1 (pc' := 12) rfl ?_
    refine giloadN B X123 d3_12 rfl (pc' := 13) rfl ?_
    by_cases c13_125 : (oq x1 y1) = (0 : Int32)
    · refine gifY B X123 (pc' := 41) d3_13 ((if0 _ _).trans (teq c13_125).1) (by decide) ?_
      refine giloadN B X123 d3_41 rfl (pc' := 42) rfl ?_
      exact gretN B X123 (z' := (oq x1 y1)) (by simp) (own_q01 _ _) d3_42 (by decide) (by decide) (⟨by rw [f3_3, if_neg c13_120, if_pos c13_125], rfl⟩)
    · refine gifN B X123 d3_13 ((if0 _ _).trans (feq c13_125).1) (pc' := 16) rfl ?_
      refine galoadN B X123 d3_16 rfl rfl (pc' := 17) rfl ?_
      refine giloadN B X123 d3_17 rfl (pc' := 18) rfl ?_
      refine giload B X123 d3_18 rfl (pc' := 20) rfl ?_
      refine giadd B X123 d3_20 rfl (pc' := 21) rfl ?_
      refine gbaload B X123 FA hx i2 (v := (.int x2)) (v2) d3_21 (pc' := 22) rfl ?_
      refine galoadN B X123 d3_22 rfl rfl (pc' := 23) rfl ?_
      refine giload B X123 d3_23 rfl (pc' := 25) rfl ?_
      refine gbaload B X123 (n := 3) FB rfl (by decide) (v := (.int y2)) rfl d3_25 (pc' := 26) rfl ?_
      refine joinG B X123 (F := fun z => (mkF m 34 #[.val (.ref a), .val (.int fr), .val (.ref b), .val (.int (oq x1 y1)), .val (.int (2 : Int32))] [(.int z)])) (r := (oq x2 y2)) (fun J => ?_) ?_
      · by_cases c26_126 : x2 = y2
        · refine gicN B X123 d3_26 (teq c26_126).2 (pc' := 29) rfl ?_
          refine giconst B X123 d3_29 (v := (1 : Int32)) rfl (pc' := 30) rfl ?_
          refine ggoto B X123 (pc' := 34) d3_30 (by decide) ?_
          have e_J : (oq x2 y2) = (1 : Int32) := by rw [oq, if_pos c26_126]
          rw [e_J] at J
          exact J _ X123
        · refine gicY B X123 (pc' := 33) d3_26 (feq c26_126).2 (by decide) ?_
          refine giconst B X123 d3_33 (v := (0 : Int32)) rfl (pc' := 34) rfl ?_
          have e_J : (oq x2 y2) = (0 : Int32) := by rw [oq, if_neg c26_126]
          rw [e_J] at J
          exact J _ X123
      intro T127 X128
      show Go p e below s _ _ _ _ _ T127 (mkF m 34 #[.val (.ref a), .val (.int fr), .val (.ref b), .val (.int (oq x1 y1)), .val (.int (2 : Int32))] [(.int (oq x2 y2))])
      refine gistoreN B X128 d3_34 (Ls' := #[.val (.ref a), .val (.int fr), .val (.ref b), .val (.int (oq x2 y2)), .val (.int (2 : Int32))]) rfl (pc' := 35) rfl ?_
      refine giinc B X128 d3_35 rfl (v := (3 : Int32)) (by decide) (Ls' := #[.val (.ref a), .val (.int fr), .val (.ref b), .val (.int (oq x2 y2)), .val (.int (3 : Int32))]) rfl (pc' := 38) rfl ?_
      refine ggoto B X128 (pc' := 5) d3_38 (by decide) ?_
      refine giload B X128 d3_5 rfl (pc' := 7) rfl ?_
      refine galoadN B X128 d3_7 rfl rfl (pc' := 8) rfl ?_
      refine glength B X128 (n := (3 : Int32)) FB (k := 3) rfl (by decide) d3_8 (pc' := 9) rfl ?_
      have c9_129 : ¬ ((3 : Int32) < (3 : Int32)) := (by decide)
      refine gicY B X128 (pc' := 41) d3_9 (flt c9_129).2.1 (by decide) ?_
      refine giloadN B X128 d3_41 rfl (pc' := 42) rfl ?_
      exact gretN B X128 (z' := (oq x2 y2)) (by simp) (own_q01 _ _) d3_42 (by decide) (by decide) (⟨by rw [f3_3, if_neg c13_120, if_neg c13_125], rfl⟩)
def f3_4 (x0 : Int32) (y0 : Int32) (x1 : Int32) (y1 : Int32) (x2 : Int32) (y2 : Int32) (x3 : Int32) (y3 : Int32) : Int32 := if (oq x0 y0) = (0 : Int32) then (oq x0 y0) else (if (oq x1 y1) = (0 : Int32) then (oq x1 y1) else (if (oq x2 y2) = (0 : Int32) then (oq x2 y2) else ((oq x3 y3))))
set_option maxRecDepth 65536 in
set_option maxHeartbeats 4000000 in
theorem mt3_4 (l : Launch) (Z : State) (a0 : Array Value) (hw : ∀ d ∈ tables_1, d.before a0 Z = true) (a : Addr) (fr : Int32) (b : Addr) (xs : List Value) (x0 y0 x1 y1 x2 y2 x3 y3 : Int32) (h0 : Heap) (FA : VA Z h0 a .byte xs) (hx : xs.length = 8) (FB : VA Z h0 b .byte [.int y0, .int y1, .int y2, .int y3]) (i0 : 0 ≤ (fr + (0 : Int32)).toInt ∧ (fr + (0 : Int32)).toInt < (8 : Nat)) (v0 : xs[(fr + (0 : Int32)).toNatClampNeg]? = some (.int x0)) (i1 : 0 ≤ (fr + (1 : Int32)).toInt ∧ (fr + (1 : Int32)).toInt < (8 : Nat)) (v1 : xs[(fr + (1 : Int32)).toNatClampNeg]? = some (.int x1)) (i2 : 0 ≤ (fr + (2 : Int32)).toInt ∧ (fr + (2 : Int32)).toInt < (8 : Nat)) (v2 : xs[(fr + (2 : Int32)).toNatClampNeg]? = some (.int x2)) (i3 : 0 ≤ (fr + (3 : Int32)).toInt ∧ (fr + (3 : Int32)).toInt < (8 : Nat)) (v3 : xs[(fr + (3 : Int32)).toNatClampNeg]? = some (.int x3)) : Meth l Z (⟨"com/example/nabu/nabu/protocol/PlainFields", "startsWith", "([BI[B)Z"⟩ : MethodName) prog_49_method_2_code 5 (some .boolean) rmr3 #[(.ref a), (.int fr), (.ref b)] h0 [] (fun vr h' => vr = some (.int (f3_4 x0 y0 x1 y1 x2 y2 x3 y3)) ∧ h' = h0) := by
  refine Meth.of pn3 ?_
  intro p e s m below meth c T B X
  refine Go.entry (ef3_RIR m a fr b) ?_
  refine giconst B X d3_0 (v := (1 : Int32)) rfl (pc' := 1) rfl ?_
  refine gistoreN B X d3_1 (Ls' := #[.val (.ref a), .val (.int fr), .val (.ref b), .val (.int (1 : Int32)), .unset]) rfl (pc' := 2) rfl ?_
  refine giconst B X d3_2 (v := (0 : Int32)) rfl (pc' := 3) rfl ?_
  refine gistore B X d3_3 (Ls' := #[.val (.ref a), .val (.int fr), .val (.ref b), .val (.int (1 : Int32)), .val (.int (0 : Int32))]) rfl (pc' := 5) rfl ?_
  refine giload B X d3_5 rfl (pc' := 7) rfl ?_
  refine galoadN B X d3_7 rfl rfl (pc' := 8) rfl ?_
  refine glength B X (n := (4 : Int32)) FB (k := 4) rfl (by decide) d3_8 (pc' := 9) rfl ?_
  have c9_130 : (0 : Int32) < (4 : Int32) := (by decide)
  refine gicN B X d3_9 (tlt c9_130).2.1 (pc' := 12) rfl ?_
  refine giloadN B X d3_12 rfl (pc' := 13) rfl ?_
  have c13_131 : ¬ ((1 : Int32) = (0 : Int32)) := (by decide)
  refine gifN B X d3_13 ((if0 _ _).trans (feq c13_131).1) (pc' := 16) rfl ?_
  refine galoadN B X d3_16 rfl rfl (pc' := 17) rfl ?_
  refine giloadN B X d3_17 rfl (pc' := 18) rfl ?_
  refine giload B X d3_18 rfl (pc' := 20) rfl ?_
  refine giadd B X d3_20 rfl (pc' := 21) rfl ?_
  refine gbaload B X FA hx i0 (v := (.int x0)) (v0) d3_21 (pc' := 22) rfl ?_
  refine galoadN B X d3_22 rfl rfl (pc' := 23) rfl ?_
  refine giload B X d3_23 rfl (pc' := 25) rfl ?_
  refine gbaload B X (n := 4) FB rfl (by decide) (v := (.int y0)) rfl d3_25 (pc' := 26) rfl ?_
  refine joinG B X (F := fun z => (mkF m 34 #[.val (.ref a), .val (.int fr), .val (.ref b), .val (.int (1 : Int32)), .val (.int (0 : Int32))] [(.int z)])) (r := (oq x0 y0)) (fun J => ?_) ?_
  · by_cases c26_132 : x0 = y0
    · refine gicN B X d3_26 (teq c26_132).2 (pc' := 29) rfl ?_
      refine giconst B X d3_29 (v := (1 : Int32)) rfl (pc' := 30) rfl ?_
      refine ggoto B X (pc' := 34) d3_30 (by decide) ?_
      have e_J : (oq x0 y0) = (1 : Int32) := by rw [oq, if_pos c26_132]
      rw [e_J] at J
      exact J _ X
    · refine gicY B X (pc' := 33) d3_26 (feq c26_132).2 (by decide) ?_
      refine giconst B X d3_33 (v := (0 : Int32)) rfl (pc' := 34) rfl ?_
      have e_J : (oq x0 y0) = (0 : Int32) := by rw [oq, if_neg c26_132]
      rw [e_J] at J
      exact J _ X
  intro T133 X134
  show Go p e below s _ _ _ _ _ T133 (mkF m 34 #[.val (.ref a), .val (.int fr), .val (.ref b), .val (.int (1 : Int32)), .val (.int (0 : Int32))] [(.int (oq x0 y0))])
  refine gistoreN B X134 d3_34 (Ls' := #[.val (.ref a), .val (.int fr), .val (.ref b), .val (.int (oq x0 y0)), .val (.int (0 : Int32))]) rfl (pc' := 35) rfl ?_
  refine giinc B X134 d3_35 rfl (v := (1 : Int32)) (by decide) (Ls' := #[.val (.ref a), .val (.int fr), .val (.ref b), .val (.int (oq x0 y0)), .val (.int (1 : Int32))]) rfl (pc' := 38) rfl ?_
  refine ggoto B X134 (pc' := 5) d3_38 (by decide) ?_
  refine giload B X134 d3_5 rfl (pc' := 7) rfl ?_
  refine galoadN B X134 d3_7 rfl rfl (pc' := 8) rfl ?_
  refine glength B X134 (n := (4 : Int32)) FB (k := 4) rfl (by decide) d3_8 (pc' := 9) rfl ?_
  have c9_135 : (1 : Int32) < (4 : Int32) := (by decide)
  refine gicN B X134 d3_9 (tlt c9_135).2.1 (pc' := 12) rfl ?_
  refine giloadN B X134 d3_12 rfl (pc' := 13) rfl ?_
  by_cases c13_136 : (oq x0 y0) = (0 : Int32)
  · refine gifY B X134 (pc' := 41) d3_13 ((if0 _ _).trans (teq c13_136).1) (by decide) ?_
    refine giloadN B X134 d3_41 rfl (pc' := 42) rfl ?_
    exact gretN B X134 (z' := (oq x0 y0)) (by simp) (own_q01 _ _) d3_42 (by decide) (by decide) (⟨by rw [f3_4, if_pos c13_136], rfl⟩)
  · refine gifN B X134 d3_13 ((if0 _ _).trans (feq c13_136).1) (pc' := 16) rfl ?_
    refine galoadN B X134 d3_16 rfl rfl (pc' := 17) rfl ?_
    refine giloadN B X134 d3_17 rfl (pc' := 18) rfl ?_
    refine giload B X134 d3_18 rfl (pc' := 20) rfl ?_
    refine giadd B X134 d3_20 rfl (pc' := 21) rfl ?_
    refine gbaload B X134 FA hx i1 (v := (.int x1)) (v1) d3_21 (pc' := 22) rfl ?_
    refine galoadN B X134 d3_22 rfl rfl (pc' := 23) rfl ?_
    refine giload B X134 d3_23 rfl (pc' := 25) rfl ?_
    refine gbaload B X134 (n := 4) FB rfl (by decide) (v := (.int y1)) rfl d3_25 (pc' := 26) rfl ?_
    refine joinG B X134 (F := fun z => (mkF m 34 #[.val (.ref a), .val (.int fr), .val (.ref b), .val (.int (oq x0 y0)), .val (.int (1 : Int32))] [(.int z)])) (r := (oq x1 y1)) (fun J => ?_) ?_
    · by_cases c26_137 : x1 = y1
      · refine gicN B X134 d3_26 (teq c26_137).2 (pc' := 29) rfl ?_
        refine giconst B X134 d3_29 (v := (1 : Int32)) rfl (pc' := 30) rfl ?_
        refine ggoto B X134 (pc' := 34) d3_30 (by decide) ?_
        have e_J : (oq x1 y1) = (1 : Int32) := by rw [oq, if_pos c26_137]
        rw [e_J] at J
        exact J _ X134
      · refine gicY B X134 (pc' := 33) d3_26 (feq c26_137).2 (by decide) ?_
        refine giconst B X134 d3_33 (v := (0 : Int32)) rfl (pc' := 34) rfl ?_
        have e_J : (oq x1 y1) = (0 : Int32) := by rw [oq, if_neg c26_137]
        rw [e_J] at J
        exact J _ X134
    intro T138 X139
    show Go p e below s _ _ _ _ _ T138 (mkF m 34 #[.val (.ref a), .val (.int fr), .val (.ref b), .val (.int (oq x0 y0)), .val (.int (1 : Int32))] [(.int (oq x1 y1))])
    refine gistoreN B X139 d3_34 (Ls' := #[.val (.ref a), .val (.int fr), .val (.ref b), .val (.int (oq x1 y1)), .val (.int (1 : Int32))]) rfl (pc' := 35) rfl ?_
    refine giinc B X139 d3_35 rfl (v := (2 : Int32)) (by decide) (Ls' := #[.val (.ref a), .val (.int fr), .val (.ref b), .val (.int (oq x1 y1)), .val (.int (2 : Int32))]) rfl (pc' := 38) rfl ?_
    refine ggoto B X139 (pc' := 5) d3_38 (by decide) ?_
    refine giload B X139 d3_5 rfl (pc' := 7) rfl ?_
    refine galoadN B X139 d3_7 rfl rfl (pc' := 8) rfl ?_
    refine glength B X139 (n := (4 : Int32)) FB (k := 4) rfl (by decide) d3_8 (pc' := 9) rfl ?_
    have c9_140 : (2 : Int32) < (4 : Int32) := (by decide)
    refine gicN B X139 d3_9 (tlt c9_140).2.1 (pc' := 12) rfl ?_
    refine giloadN B X139 d3_12 rfl (pc' := 13) rfl ?_
    by_cases c13_141 : (oq x1 y1) = (0 : Int32)
    · refine gifY B X139 (pc' := 41) d3_13 ((if0 _ _).trans (teq c13_141).1) (by decide) ?_
      refine giloadN B X139 d3_41 rfl (pc' := 42) rfl ?_
      exact gretN B X139 (z' := (oq x1 y1)) (by simp) (own_q01 _ _) d3_42 (by decide) (by decide) (⟨by rw [f3_4, if_neg c13_136, if_pos c13_141], rfl⟩)
    · refine gifN B X139 d3_13 ((if0 _ _).trans (feq c13_141).1) (pc' := 16) rfl ?_
      refine galoadN B X139 d3_16 rfl rfl (pc' := 17) rfl ?_
      refine giloadN B X139 d3_17 rfl (pc' := 18) rfl ?_
      refine giload B X139 d3_18 rfl (pc' := 20) rfl ?_
      refine giadd B X139 d3_20 rfl (pc' := 21) rfl ?_
      refine gbaload B X139 FA hx i2 (v := (.int x2)) (v2) d3_21 (pc' := 22) rfl ?_
      refine galoadN B X139 d3_22 rfl rfl (pc' := 23) rfl ?_
      refine giload B X139 d3_23 rfl (pc' := 25) rfl ?_
      refine gbaload B X139 (n := 4) FB rfl (by decide) (v := (.int y2)) rfl d3_25 (pc' := 26) rfl ?_
      refine joinG B X139 (F := fun z => (mkF m 34 #[.val (.ref a), .val (.int fr), .val (.ref b), .val (.int (oq x1 y1)), .val (.int (2 : Int32))] [(.int z)])) (r := (oq x2 y2)) (fun J => ?_) ?_
      · by_cases c26_142 : x2 = y2
        · refine gicN B X139 d3_26 (teq c26_142).2 (pc' := 29) rfl ?_
          refine giconst B X139 d3_29 (v := (1 : Int32)) rfl (pc' := 30) rfl ?_
          refine ggoto B X139 (pc' := 34) d3_30 (by decide) ?_
          have e_J : (oq x2 y2) = (1 : Int32) := by rw [oq, if_pos c26_142]
          rw [e_J] at J
          exact J _ X139
        · refine gicY B X139 (pc' := 33) d3_26 (feq c26_142).2 (by decide) ?_
          refine giconst B X139 d3_33 (v := (0 : Int32)) rfl (pc' := 34) rfl ?_
          have e_J : (oq x2 y2) = (0 : Int32) := by rw [oq, if_neg c26_142]
          rw [e_J] at J
          exact J _ X139
      intro T143 X144
      show Go p e below s _ _ _ _ _ T143 (mkF m 34 #[.val (.ref a), .val (.int fr), .val (.ref b), .val (.int (oq x1 y1)), .val (.int (2 : Int32))] [(.int (oq x2 y2))])
      refine gistoreN B X144 d3_34 (Ls' := #[.val (.ref a), .val (.int fr), .val (.ref b), .val (.int (oq x2 y2)), .val (.int (2 : Int32))]) rfl (pc' := 35) rfl ?_
      refine giinc B X144 d3_35 rfl (v := (3 : Int32)) (by decide) (Ls' := #[.val (.ref a), .val (.int fr), .val (.ref b), .val (.int (oq x2 y2)), .val (.int (3 : Int32))]) rfl (pc' := 38) rfl ?_
      refine ggoto B X144 (pc' := 5) d3_38 (by decide) ?_
      refine giload B X144 d3_5 rfl (pc' := 7) rfl ?_
      refine galoadN B X144 d3_7 rfl rfl (pc' := 8) rfl ?_
      refine glength B X144 (n := (4 : Int32)) FB (k := 4) rfl (by decide) d3_8 (pc' := 9) rfl ?_
      have c9_145 : (3 : Int32) < (4 : Int32) := (by decide)
      refine gicN B X144 d3_9 (tlt c9_145).2.1 (pc' := 12) rfl ?_
      refine giloadN B X144 d3_12 rfl (pc' := 13) rfl ?_
      by_cases c13_146 : (oq x2 y2) = (0 : Int32)
      · refine gifY B X144 (pc' := 41) d3_13 ((if0 _ _).trans (teq c13_146).1) (by decide) ?_
        refine giloadN B X144 d3_41 rfl (pc' := 42) rfl ?_
        exact gretN B X144 (z' := (oq x2 y2)) (by simp) (own_q01 _ _) d3_42 (by decide) (by decide) (⟨by rw [f3_4, if_neg c13_136, if_neg c13_141, if_pos c13_146], rfl⟩)
      · refine gifN B X144 d3_13 ((if0 _ _).trans (feq c13_146).1) (pc' := 16) rfl ?_
        refine galoadN B X144 d3_16 rfl rfl (pc' := 17) rfl ?_
        refine giloadN B X144 d3_17 rfl (pc' := 18) rfl ?_
        refine giload B X144 d3_18 rfl (pc' := 20) rfl ?_
        refine giadd B X144 d3_20 rfl (pc' := 21) rfl ?_
        refine gbaload B X144 FA hx i3 (v := (.int x3)) (v3) d3_21 (pc' := 22) rfl ?_
        refine galoadN B X144 d3_22 rfl rfl (pc' := 23) rfl ?_
        refine giload B X144 d3_23 rfl (pc' := 25) rfl ?_
        refine gbaload B X144 (n := 4) FB rfl (by decide) (v := (.int y3)) rfl d3_25 (pc' := 26) rfl ?_
        refine joinG B X144 (F := fun z => (mkF m 34 #[.val (.ref a), .val (.int fr), .val (.ref b), .val (.int (oq x2 y2)), .val (.int (3 : Int32))] [(.int z)])) (r := (oq x3 y3)) (fun J => ?_) ?_
        · by_cases c26_147 : x3 = y3
          · refine gicN B X144 d3_26 (teq c26_147).2 (pc' := 29) rfl ?_
            refine giconst B X144 d3_29 (v := (1 : Int32)) rfl (pc' := 30) rfl ?_
            refine ggoto B X144 (pc' := 34) d3_30 (by decide) ?_
            have e_J : (oq x3 y3) = (1 : Int32) := by rw [oq, if_pos c26_147]
            rw [e_J] at J
            exact J _ X144
          · refine gicY B X144 (pc' := 33) d3_26 (feq c26_147).2 (by decide) ?_
            refine giconst B X144 d3_33 (v := (0 : Int32)) rfl (pc' := 34) rfl ?_
            have e_J : (oq x3 y3) = (0 : Int32) := by rw [oq, if_neg c26_147]
            rw [e_J] at J
            exact J _ X144
        intro T148 X149
        show Go p e below s _ _ _ _ _ T148 (mkF m 34 #[.val (.ref a), .val (.int fr), .val (.ref b), .val (.int (oq x2 y2)), .val (.int (3 : Int32))] [(.int (oq x3 y3))])
        refine gistoreN B X149 d3_34 (Ls' := #[.val (.ref a), .val (.int fr), .val (.ref b), .val (.int (oq x3 y3)), .val (.int (3 : Int32))]) rfl (pc' := 35) rfl ?_
        refine giinc B X149 d3_35 rfl (v := (4 : Int32)) (by decide) (Ls' := #[.val (.ref a), .val (.int fr), .val (.ref b), .val (.int (oq x3 y3)), .val (.int (4 : Int32))]) rfl (pc' := 38) rfl ?_
        refine ggoto B X149 (pc' := 5) d3_38 (by decide) ?_
        refine giload B X149 d3_5 rfl (pc' := 7) rfl ?_
        refine galoadN B X149 d3_7 rfl rfl (pc' := 8) rfl ?_
        refine glength B X149 (n := (4 : Int32)) FB (k := 4) rfl (by decide) d3_8 (pc' := 9) rfl ?_
        have c9_150 : ¬ ((4 : Int32) < (4 : Int32)) := (by decide)
        refine gicY B X149 (pc' := 41) d3_9 (flt c9_150).2.1 (by decide) ?_
        refine giloadN B X149 d3_41 rfl (pc' := 42) rfl ?_
        exact gretN B X149 (z' := (oq x3 y3)) (by simp) (own_q01 _ _) d3_42 (by decide) (by decide) (⟨by rw [f3_4, if_neg c13_136, if_neg c13_141, if_neg c13_146], rfl⟩)
theorem own_wl (n : Int32) : (n &&& 7) % 5 = 0 ∨ (n &&& 7) % 5 = 1 ∨ (n &&& 7) % 5 = 2 ∨ (n &&& 7) % 5 = 3 ∨ (n &&& 7) % 5 = 4 := by
  have h := c_mask n 7 3 (by decide) (by decide)
  have h2 := (c_irem (n &&& 7) 5 5 (by decide)).1 (by rw [h]; omega)
  simp only [← Int32.toInt_inj, h2, h, Int32.reduceToInt]; omega
theorem own_and3 (x : Int32) : x &&& 3 = 0 ∨ x &&& 3 = 1 ∨ x &&& 3 = 2 ∨ x &&& 3 = 3 := by
  have h := c_mask x 3 2 (by decide) (by decide)
  simp only [← Int32.toInt_inj, h, Int32.reduceToInt]; omega
theorem own_k (k : Int32) : 0 < (okk (k &&& 255)).toInt ∧ (okk (k &&& 255)).toInt < 256 := by
  have h := c_mask k 255 8 (by decide) (by decide)
  unfold okk
  split
  · decide
  · rename_i q
    have : ¬ (k &&& 255).toInt = 0 := fun z => q (Int32.toInt_inj.mp z)
    rw [h] at *; omega
theorem own_xk (c0 k : Int32) (hk : 0 < k.toInt ∧ k.toInt < 256) : ¬ (c0.toInt8.toInt32 ^^^ k).toInt8.toInt32 = c0.toInt8.toInt32 := by
  intro e
  have e1 : (c0.toInt8.toInt32 ^^^ k).toInt8 = c0.toInt8 := by
    have := congrArg Int32.toInt8 e
    simpa using this
  rw [Int32.toInt8_xor] at e1
  have e2 : c0.toInt8 ^^^ k.toInt8 = c0.toInt8 := by simpa using e1
  have e3 : k.toInt8 = 0 := by
    have : c0.toInt8 ^^^ (c0.toInt8 ^^^ k.toInt8) = c0.toInt8 ^^^ c0.toInt8 := by rw [e2]
    rw [← Int8.xor_assoc, Int8.xor_self] at this
    simpa using this
  have h := c_i2b k
  rw [e3] at h
  have z : (0 : Int8).toInt32.toInt = 0 := rfl
  rw [z] at h
  omega
theorem own_eq0 (w u q : Int32) : oq (ox0 w u q) (oc0 w) = if ((q.toUInt32 >>> ((0 : Int32) &&& 31).toUInt32).toInt32 &&& (1 : Int32)) = 0 then 1 else 0 := by
  unfold oq ox0
  by_cases c : ((q.toUInt32 >>> ((0 : Int32) &&& 31).toUInt32).toInt32 &&& (1 : Int32)) = 0
  · rw [if_pos c, if_pos c, if_pos rfl]
  · rw [if_neg c, if_neg c]
    exact if_neg (own_xk _ _ (own_k _))
theorem own_eq1 (w u q : Int32) : oq (ox1 w u q) (oc1 w) = if ((q.toUInt32 >>> ((1 : Int32) &&& 31).toUInt32).toInt32 &&& (1 : Int32)) = 0 then 1 else 0 := by
  unfold oq ox1
  by_cases c : ((q.toUInt32 >>> ((1 : Int32) &&& 31).toUInt32).toInt32 &&& (1 : Int32)) = 0
  · rw [if_pos c, if_pos c, if_pos rfl]
  · rw [if_neg c, if_neg c]
    exact if_neg (own_xk _ _ (own_k _))
theorem own_eq2 (w u q : Int32) : oq (ox2 w u q) (oc2 w) = if ((q.toUInt32 >>> ((2 : Int32) &&& 31).toUInt32).toInt32 &&& (1 : Int32)) = 0 then 1 else 0 := by
  unfold oq ox2
  by_cases c : ((q.toUInt32 >>> ((2 : Int32) &&& 31).toUInt32).toInt32 &&& (1 : Int32)) = 0
  · rw [if_pos c, if_pos c, if_pos rfl]
  · rw [if_neg c, if_neg c]
    exact if_neg (own_xk _ _ (own_k _))
theorem own_eq3 (w u q : Int32) : oq (ox3 w u q) (oc3 w) = if ((q.toUInt32 >>> ((3 : Int32) &&& 31).toUInt32).toInt32 &&& (1 : Int32)) = 0 then 1 else 0 := by
  unfold oq ox3
  by_cases c : ((q.toUInt32 >>> ((3 : Int32) &&& 31).toUInt32).toInt32 &&& (1 : Int32)) = 0
  · rw [if_pos c, if_pos c, if_pos rfl]
  · rw [if_neg c, if_neg c]
    exact if_neg (own_xk _ _ (own_k _))
theorem pn0 : plainFor (⟨"com/example/nabu/nabu/protocol/PlainFieldsStartsWithPinLaw", "law", "(JIII)Z"⟩ : MethodName) = true := plainFor_of_name (by first | (simp [plainName, overriddenIn]; done) | decide +kernel)
theorem ef0_JIII (m : MethodId) (x0 : Int64) (x1 : Int32) (x2 : Int32) (x3 : Int32) : entryFrame m #[(.long x0), (.int x1), (.int x2), (.int x3)] 11 = mkF m 0 #[.val (.long x0), .second, .val (.int x1), .val (.int x2), .val (.int x3), .unset, .unset, .unset, .unset, .unset, .unset] [] := by first | (simp [entryFrame, mkF, argsToLocals, Value.category]; done) | rfl
theorem pd___B_BIIIII_V : parseMethodDescriptor "([B[BIIIII)V" = some ⟨[(.array .byte), (.array .byte), .int, .int, .int, .int, .int], none⟩ := by decide +kernel
theorem pd__III_Z : parseMethodDescriptor "(III)Z" = some ⟨[.int, .int, .int], some .boolean⟩ := by decide +kernel
def oE (wl : Int32) (q : Int32) : Int32 := if f2 0 wl q = 0 then 0 else if f2 1 wl q = 0 then 0 else if f2 2 wl q = 0 then 0 else if f2 3 wl q = 0 then 0 else 1
theorem own_fin0 (w u q : Int32) : f3_0  = oE 0 q := by
  unfold oE f2 f3_0
  generalize ((q.toUInt32 >>> ((0 : Int32) &&& 31).toUInt32).toInt32 &&& (1 : Int32)) = t0
  generalize ((q.toUInt32 >>> ((1 : Int32) &&& 31).toUInt32).toInt32 &&& (1 : Int32)) = t1
  generalize ((q.toUInt32 >>> ((2 : Int32) &&& 31).toUInt32).toInt32 &&& (1 : Int32)) = t2
  generalize ((q.toUInt32 >>> ((3 : Int32) &&& 31).toUInt32).toInt32 &&& (1 : Int32)) = t3
  by_cases c0 : t0 = 0 <;>
  by_cases c1 : t1 = 0 <;>
  by_cases c2 : t2 = 0 <;>
  by_cases c3 : t3 = 0 <;>
  simp [c0, c1, c2, c3]
theorem own_fin1 (w u q : Int32) : f3_1 (ox0 w u q) (oc0 w) = oE 1 q := by
  unfold oE f2 f3_1
  rw [own_eq0]
  generalize ((q.toUInt32 >>> ((0 : Int32) &&& 31).toUInt32).toInt32 &&& (1 : Int32)) = t0
  generalize ((q.toUInt32 >>> ((1 : Int32) &&& 31).toUInt32).toInt32 &&& (1 : Int32)) = t1
  generalize ((q.toUInt32 >>> ((2 : Int32) &&& 31).toUInt32).toInt32 &&& (1 : Int32)) = t2
  generalize ((q.toUInt32 >>> ((3 : Int32) &&& 31).toUInt32).toInt32 &&& (1 : Int32)) = t3
  by_cases c0 : t0 = 0 <;>
  by_cases c1 : t1 = 0 <;>
  by_cases c2 : t2 = 0 <;>
  by_cases c3 : t3 = 0 <;>
  simp [c0, c1, c2, c3]
theorem own_fin2 (w u q : Int32) : f3_2 (ox0 w u q) (oc0 w) (ox1 w u q) (oc1 w) = oE 2 q := by
  unfold oE f2 f3_2
  rw [own_eq0, own_eq1]
  generalize ((q.toUInt32 >>> ((0 : Int32) &&& 31).toUInt32).toInt32 &&& (1 : Int32)) = t0
  generalize ((q.toUInt32 >>> ((1 : Int32) &&& 31).toUInt32).toInt32 &&& (1 : Int32)) = t1
  generalize ((q.toUInt32 >>> ((2 : Int32) &&& 31).toUInt32).toInt32 &&& (1 : Int32)) = t2
  generalize ((q.toUInt32 >>> ((3 : Int32) &&& 31).toUInt32).toInt32 &&& (1 : Int32)) = t3
  by_cases c0 : t0 = 0 <;>
  by_cases c1 : t1 = 0 <;>
  by_cases c2 : t2 = 0 <;>
  by_cases c3 : t3 = 0 <;>
  simp [c0, c1, c2, c3]
theorem own_fin3 (w u q : Int32) : f3_3 (ox0 w u q) (oc0 w) (ox1 w u q) (oc1 w) (ox2 w u q) (oc2 w) = oE 3 q := by
  unfold oE f2 f3_3
  rw [own_eq0, own_eq1, own_eq2]
  generalize ((q.toUInt32 >>> ((0 : Int32) &&& 31).toUInt32).toInt32 &&& (1 : Int32)) = t0
  generalize ((q.toUInt32 >>> ((1 : Int32) &&& 31).toUInt32).toInt32 &&& (1 : Int32)) = t1
  generalize ((q.toUInt32 >>> ((2 : Int32) &&& 31).toUInt32).toInt32 &&& (1 : Int32)) = t2
  generalize ((q.toUInt32 >>> ((3 : Int32) &&& 31).toUInt32).toInt32 &&& (1 : Int32)) = t3
  by_cases c0 : t0 = 0 <;>
  by_cases c1 : t1 = 0 <;>
  by_cases c2 : t2 = 0 <;>
  by_cases c3 : t3 = 0 <;>
  simp [c0, c1, c2, c3]
theorem own_fin4 (w u q : Int32) : f3_4 (ox0 w u q) (oc0 w) (ox1 w u q) (oc1 w) (ox2 w u q) (oc2 w) (ox3 w u q) (oc3 w) = oE 4 q := by
  unfold oE f2 f3_4
  rw [own_eq0, own_eq1, own_eq2, own_eq3]
  generalize ((q.toUInt32 >>> ((0 : Int32) &&& 31).toUInt32).toInt32 &&& (1 : Int32)) = t0
  generalize ((q.toUInt32 >>> ((1 : Int32) &&& 31).toUInt32).toInt32 &&& (1 : Int32)) = t1
  generalize ((q.toUInt32 >>> ((2 : Int32) &&& 31).toUInt32).toInt32 &&& (1 : Int32)) = t2
  generalize ((q.toUInt32 >>> ((3 : Int32) &&& 31).toUInt32).toInt32 &&& (1 : Int32)) = t3
  by_cases c0 : t0 = 0 <;>
  by_cases c1 : t1 = 0 <;>
  by_cases c2 : t2 = 0 <;>
  by_cases c3 : t3 = 0 <;>
  simp [c0, c1, c2, c3]
theorem pd___BI_B_Z : parseMethodDescriptor "([BI[B)Z" = some ⟨[(.array .byte), .int, (.array .byte)], some .boolean⟩ := by decide +kernel
set_option maxRecDepth 65536 in
set_option maxHeartbeats 4000000 in
theorem mt0 (l : Launch) (Z : State) (a0 : Array Value) (hw : ∀ d ∈ tables_1, d.before a0 Z = true) (p0 : Int64) (p1 : Int32) (p2 : Int32) (p3 : Int32) (h0 : Heap) : Meth l Z x code maxLocals ret room_1 #[(.long p0), (.int p1), (.int p2), (.int p3)] h0 [] (fun v h' => v = some (.int 1)) := by
  refine Meth.of pn0 ?_
  intro p e s m below meth c T B X
  have B : Fix p Z s m meth c code 11 "com/example/nabu/nabu/protocol/PlainFieldsStartsWithPinLaw" "law" (some .boolean) := B
  refine Go.entry (ef0_JIII m p0 p1 p2 p3) ?_
  refine giload B X at_0 rfl (pc' := 2) rfl ?_
  refine gbipush B X at_2 (v := (7 : Int32)) rfl (pc' := 4) rfl ?_
  refine giand B X at_4 rfl (pc' := 5) rfl ?_
  refine giconst B X at_5 (v := (5 : Int32)) rfl (pc' := 6) rfl ?_
  refine girem B X at_6 (by decide) rfl (pc' := 7) rfl ?_
  rcases own_wl p3 with e_w | e_w | e_w | e_w | e_w
  · rw [e_w]
    refine gistore B X at_7 (Ls' := #[.val (.long p0), .second, .val (.int p1), .val (.int p2), .val (.int p3), .val (.int (0 : Int32)), .unset, .unset, .unset, .unset, .unset]) rfl (pc' := 9) rfl ?_
    refine giload B X at_9 rfl (pc' := 11) rfl ?_
    refine giconst B X at_11 (v := (3 : Int32)) rfl (pc' := 12) rfl ?_
    refine giushr B X at_12 rfl (pc' := 13) rfl ?_
    refine giconst B X at_13 (v := (3 : Int32)) rfl (pc' := 14) rfl ?_
    refine giand B X at_14 rfl (pc' := 15) rfl ?_
    generalize e_qfr : (((p3.toUInt32 >>> ((3 : Int32) &&& 31).toUInt32).toInt32) &&& (3 : Int32)) = qfr
    refine gistore B X at_15 (Ls' := #[.val (.long p0), .second, .val (.int p1), .val (.int p2), .val (.int p3), .val (.int (0 : Int32)), .val (.int qfr), .unset, .unset, .unset, .unset]) rfl (pc' := 17) rfl ?_
    have hfr := own_and3 ((p3.toUInt32 >>> ((3 : Int32) &&& 31).toUInt32).toInt32); rw [e_qfr] at hfr; clear e_qfr
    refine giload B X at_17 rfl (pc' := 19) rfl ?_
    refine giconst B X at_19 (v := (5 : Int32)) rfl (pc' := 20) rfl ?_
    refine giushr B X at_20 rfl (pc' := 21) rfl ?_
    refine gbipush B X at_21 (v := (15 : Int32)) rfl (pc' := 23) rfl ?_
    refine giand B X at_23 rfl (pc' := 24) rfl ?_
    generalize e_qm : (((p3.toUInt32 >>> ((5 : Int32) &&& 31).toUInt32).toInt32) &&& (15 : Int32)) = qm
    refine gistore B X at_24 (Ls' := #[.val (.long p0), .second, .val (.int p1), .val (.int p2), .val (.int p3), .val (.int (0 : Int32)), .val (.int qfr), .val (.int qm), .unset, .unset, .unset]) rfl (pc' := 26) rfl ?_
    clear e_qm
    refine giload B X at_26 rfl (pc' := 28) rfl ?_
    refine gnewarray B X (cap := 0) (vs := []) (ty := .byte) rfl rfl (hw _ (List.mem_of_getElem? (i := 0) rfl)) (by decide) (by decide) (by decide) (by decide) (by decide) at_28 (pc' := 30) rfl fun T151 h152 a153 X154 q155 E156 z_a153 A157 => ?_
    refine gastore B X154 at_30 rfl (Ls' := #[.val (.long p0), .second, .val (.int p1), .val (.int p2), .val (.int p3), .val (.int (0 : Int32)), .val (.int qfr), .val (.int qm), .val (.ref a153), .unset, .unset]) rfl (pc' := 32) rfl ?_
    refine gbipush B X154 at_32 (v := (8 : Int32)) rfl (pc' := 34) rfl ?_
    refine gnewarray B X154 (cap := 8) (vs := [(.int (0 : Int32)), (.int (0 : Int32)), (.int (0 : Int32)), (.int (0 : Int32)), (.int (0 : Int32)), (.int (0 : Int32)), (.int (0 : Int32)), (.int (0 : Int32))]) (ty := .byte) rfl rfl (hw _ (List.mem_of_getElem? (i := 0) rfl)) (by decide) (by decide) (by decide) (by decide) (by decide) at_34 (pc' := 36) rfl fun T158 h159 a160 X161 q162 E163 z_a160 A164 => ?_
    have n165 : a153 ≠ a160 := by rw [q162]; exact Nat.ne_of_lt A157.lt
    have F166 := A157.ext E163
    refine gastore B X161 at_36 rfl (Ls' := #[.val (.long p0), .second, .val (.int p1), .val (.int p2), .val (.int p3), .val (.int (0 : Int32)), .val (.int qfr), .val (.int qm), .val (.ref a153), .val (.ref a160), .unset]) rfl (pc' := 38) rfl ?_
    refine gaload B X161 at_38 rfl rfl (pc' := 40) rfl ?_
    refine giconst B X161 at_40 (v := (0 : Int32)) rfl (pc' := 41) rfl ?_
    refine glloadN B X161 at_41 rfl (pc' := 42) rfl ?_
    refine gl2i B X161 at_42 rfl (pc' := 43) rfl ?_
    refine gi2b B X161 at_43 rfl (pc' := 44) rfl ?_
    refine gbastore B X161 (i := 0) (n := 8) A164 rfl (by decide) rfl (vs' := [(.int p0.toInt32.toInt8.toInt32), (.int (0 : Int32)), (.int (0 : Int32)), (.int (0 : Int32)), (.int (0 : Int32)), (.int (0 : Int32)), (.int (0 : Int32)), (.int (0 : Int32))]) (by rw [Jvm.OwnKit.nbb]; rfl) (Or.inr z_a160) at_44 (pc' := 45) rfl fun T167 h168 X169 W170 A171 => ?_
    have F172 := F166.other W170 n165
    refine gaload B X169 at_45 rfl rfl (pc' := 47) rfl ?_
    refine giconst B X169 at_47 (v := (1 : Int32)) rfl (pc' := 48) rfl ?_
    refine glloadN B X169 at_48 rfl (pc' := 49) rfl ?_
    refine gbipush B X169 at_49 (v := (8 : Int32)) rfl (pc' := 51) rfl ?_
    refine glushr B X169 at_51 rfl (pc' := 52) rfl ?_
    refine gl2i B X169 at_52 rfl (pc' := 53) rfl ?_
    refine gi2b B X169 at_53 rfl (pc' := 54) rfl ?_
    refine gbastore B X169 (i := 1) (n := 8) A171 rfl (by decide) rfl (vs' := [(.int p0.toInt32.toInt8.toInt32), (.int ((p0.toUInt64 >>> ((8 : Int32) &&& 0x3f).toInt64.toUInt64).toInt64).toInt32.toInt8.toInt32), (.int (0 : Int32)), (.int (0 : Int32)), (.int (0 : Int32)), (.int (0 : Int32)), (.int (0 : Int32)), (.int (0 : Int32))]) (by rw [Jvm.OwnKit.nbb]; rfl) (Or.inr z_a160) at_54 (pc' := 55) rfl fun T173 h174 X175 W176 A177 => ?_
    have F178 := F172.other W176 n165
    refine gaload B X175 at_55 rfl rfl (pc' := 57) rfl ?_
    refine giconst B X175 at_57 (v := (2 : Int32)) rfl (pc' := 58) rfl ?_
    refine glloadN B X175 at_58 rfl (pc' := 59) rfl ?_
    refine gbipush B X175 at_59 (v := (16 : Int32)) rfl (pc' := 61) rfl ?_
    refine glushr B X175 at_61 rfl (pc' := 62) rfl ?_
    refine gl2i B X175 at_62 rfl (pc' := 63) rfl ?_
    refine gi2b B X175 at_63 rfl (pc' := 64) rfl ?_
    refine gbastore B X175 (i := 2) (n := 8) A177 rfl (by decide) rfl (vs' := [(.int p0.toInt32.toInt8.toInt32), (.int ((p0.toUInt64 >>> ((8 : Int32) &&& 0x3f).toInt64.toUInt64).toInt64).toInt32.toInt8.toInt32), (.int ((p0.toUInt64 >>> ((16 : Int32) &&& 0x3f).toInt64.toUInt64).toInt64).toInt32.toInt8.toInt32), (.int (0 : Int32)), (.int (0 : Int32)), (.int (0 : Int32)), (.int (0 : Int32)), (.int (0 : Int32))]) (by rw [Jvm.OwnKit.nbb]; rfl) (Or.inr z_a160) at_64 (pc' := 65) rfl fun T179 h180 X181 W182 A183 => ?_
    have F184 := F178.other W182 n165
    refine gaload B X181 at_65 rfl rfl (pc' := 67) rfl ?_
    refine giconst B X181 at_67 (v := (3 : Int32)) rfl (pc' := 68) rfl ?_
    refine glloadN B X181 at_68 rfl (pc' := 69) rfl ?_
    refine gbipush B X181 at_69 (v := (24 : Int32)) rfl (pc' := 71) rfl ?_
    refine glushr B X181 at_71 rfl (pc' := 72) rfl ?_
    refine gl2i B X181 at_72 rfl (pc' := 73) rfl ?_
    refine gi2b B X181 at_73 rfl (pc' := 74) rfl ?_
    refine gbastore B X181 (i := 3) (n := 8) A183 rfl (by decide) rfl (vs' := [(.int p0.toInt32.toInt8.toInt32), (.int ((p0.toUInt64 >>> ((8 : Int32) &&& 0x3f).toInt64.toUInt64).toInt64).toInt32.toInt8.toInt32), (.int ((p0.toUInt64 >>> ((16 : Int32) &&& 0x3f).toInt64.toUInt64).toInt64).toInt32.toInt8.toInt32), (.int ((p0.toUInt64 >>> ((24 : Int32) &&& 0x3f).toInt64.toUInt64).toInt64).toInt32.toInt8.toInt32), (.int (0 : Int32)), (.int (0 : Int32)), (.int (0 : Int32)), (.int (0 : Int32))]) (by rw [Jvm.OwnKit.nbb]; rfl) (Or.inr z_a160) at_74 (pc' := 75) rfl fun T185 h186 X187 W188 A189 => ?_
    have F190 := F184.other W188 n165
    refine gaload B X187 at_75 rfl rfl (pc' := 77) rfl ?_
    refine giconst B X187 at_77 (v := (4 : Int32)) rfl (pc' := 78) rfl ?_
    refine glloadN B X187 at_78 rfl (pc' := 79) rfl ?_
    refine gbipush B X187 at_79 (v := (32 : Int32)) rfl (pc' := 81) rfl ?_
    refine glushr B X187 at_81 rfl (pc' := 82) rfl ?_
    refine gl2i B X187 at_82 rfl (pc' := 83) rfl ?_
    refine gi2b B X187 at_83 rfl (pc' := 84) rfl ?_
    refine gbastore B X187 (i := 4) (n := 8) A189 rfl (by decide) rfl (vs' := [(.int p0.toInt32.toInt8.toInt32), (.int ((p0.toUInt64 >>> ((8 : Int32) &&& 0x3f).toInt64.toUInt64).toInt64).toInt32.toInt8.toInt32), (.int ((p0.toUInt64 >>> ((16 : Int32) &&& 0x3f).toInt64.toUInt64).toInt64).toInt32.toInt8.toInt32), (.int ((p0.toUInt64 >>> ((24 : Int32) &&& 0x3f).toInt64.toUInt64).toInt64).toInt32.toInt8.toInt32), (.int ((p0.toUInt64 >>> ((32 : Int32) &&& 0x3f).toInt64.toUInt64).toInt64).toInt32.toInt8.toInt32), (.int (0 : Int32)), (.int (0 : Int32)), (.int (0 : Int32))]) (by rw [Jvm.OwnKit.nbb]; rfl) (Or.inr z_a160) at_84 (pc' := 85) rfl fun T191 h192 X193 W194 A195 => ?_
    have F196 := F190.other W194 n165
    refine gaload B X193 at_85 rfl rfl (pc' := 87) rfl ?_
    refine giconst B X193 at_87 (v := (5 : Int32)) rfl (pc' := 88) rfl ?_
    refine glloadN B X193 at_88 rfl (pc' := 89) rfl ?_
    refine gbipush B X193 at_89 (v := (40 : Int32)) rfl (pc' := 91) rfl ?_
    refine glushr B X193 at_91 rfl (pc' := 92) rfl ?_
    refine gl2i B X193 at_92 rfl (pc' := 93) rfl ?_
    refine gi2b B X193 at_93 rfl (pc' := 94) rfl ?_
    refine gbastore B X193 (i := 5) (n := 8) A195 rfl (by decide) rfl (vs' := [(.int p0.toInt32.toInt8.toInt32), (.int ((p0.toUInt64 >>> ((8 : Int32) &&& 0x3f).toInt64.toUInt64).toInt64).toInt32.toInt8.toInt32), (.int ((p0.toUInt64 >>> ((16 : Int32) &&& 0x3f).toInt64.toUInt64).toInt64).toInt32.toInt8.toInt32), (.int ((p0.toUInt64 >>> ((24 : Int32) &&& 0x3f).toInt64.toUInt64).toInt64).toInt32.toInt8.toInt32), (.int ((p0.toUInt64 >>> ((32 : Int32) &&& 0x3f).toInt64.toUInt64).toInt64).toInt32.toInt8.toInt32), (.int ((p0.toUInt64 >>> ((40 : Int32) &&& 0x3f).toInt64.toUInt64).toInt64).toInt32.toInt8.toInt32), (.int (0 : Int32)), (.int (0 : Int32))]) (by rw [Jvm.OwnKit.nbb]; rfl) (Or.inr z_a160) at_94 (pc' := 95) rfl fun T197 h198 X199 W200 A201 => ?_
    have F202 := F196.other W200 n165
    refine gaload B X199 at_95 rfl rfl (pc' := 97) rfl ?_
    refine gbipush B X199 at_97 (v := (6 : Int32)) rfl (pc' := 99) rfl ?_
    refine glloadN B X199 at_99 rfl (pc' := 100) rfl ?_
    refine gbipush B X199 at_100 (v := (48 : Int32)) rfl (pc' := 102) rfl ?_
    refine glushr B X199 at_102 rfl (pc' := 103) rfl ?_
    refine gl2i B X199 at_103 rfl (pc' := 104) rfl ?_
    refine gi2b B X199 at_104 rfl (pc' := 105) rfl ?_
    refine gbastore B X199 (i := 6) (n := 8) A201 rfl (by decide) rfl (vs' := [(.int p0.toInt32.toInt8.toInt32), (.int ((p0.toUInt64 >>> ((8 : Int32) &&& 0x3f).toInt64.toUInt64).toInt64).toInt32.toInt8.toInt32), (.int ((p0.toUInt64 >>> ((16 : Int32) &&& 0x3f).toInt64.toUInt64).toInt64).toInt32.toInt8.toInt32), (.int ((p0.toUInt64 >>> ((24 : Int32) &&& 0x3f).toInt64.toUInt64).toInt64).toInt32.toInt8.toInt32), (.int ((p0.toUInt64 >>> ((32 : Int32) &&& 0x3f).toInt64.toUInt64).toInt64).toInt32.toInt8.toInt32), (.int ((p0.toUInt64 >>> ((40 : Int32) &&& 0x3f).toInt64.toUInt64).toInt64).toInt32.toInt8.toInt32), (.int ((p0.toUInt64 >>> ((48 : Int32) &&& 0x3f).toInt64.toUInt64).toInt64).toInt32.toInt8.toInt32), (.int (0 : Int32))]) (by rw [Jvm.OwnKit.nbb]; rfl) (Or.inr z_a160) at_105 (pc' := 106) rfl fun T203 h204 X205 W206 A207 => ?_
    have F208 := F202.other W206 n165
    refine gaload B X205 at_106 rfl rfl (pc' := 108) rfl ?_
    refine gbipush B X205 at_108 (v := (7 : Int32)) rfl (pc' := 110) rfl ?_
    refine glloadN B X205 at_110 rfl (pc' := 111) rfl ?_
    refine gbipush B X205 at_111 (v := (56 : Int32)) rfl (pc' := 113) rfl ?_
    refine glushr B X205 at_113 rfl (pc' := 114) rfl ?_
    refine gl2i B X205 at_114 rfl (pc' := 115) rfl ?_
    refine gi2b B X205 at_115 rfl (pc' := 116) rfl ?_
    refine gbastore B X205 (i := 7) (n := 8) A207 rfl (by decide) rfl (vs' := [(.int p0.toInt32.toInt8.toInt32), (.int ((p0.toUInt64 >>> ((8 : Int32) &&& 0x3f).toInt64.toUInt64).toInt64).toInt32.toInt8.toInt32), (.int ((p0.toUInt64 >>> ((16 : Int32) &&& 0x3f).toInt64.toUInt64).toInt64).toInt32.toInt8.toInt32), (.int ((p0.toUInt64 >>> ((24 : Int32) &&& 0x3f).toInt64.toUInt64).toInt64).toInt32.toInt8.toInt32), (.int ((p0.toUInt64 >>> ((32 : Int32) &&& 0x3f).toInt64.toUInt64).toInt64).toInt32.toInt8.toInt32), (.int ((p0.toUInt64 >>> ((40 : Int32) &&& 0x3f).toInt64.toUInt64).toInt64).toInt32.toInt8.toInt32), (.int ((p0.toUInt64 >>> ((48 : Int32) &&& 0x3f).toInt64.toUInt64).toInt64).toInt32.toInt8.toInt32), (.int ((p0.toUInt64 >>> ((56 : Int32) &&& 0x3f).toInt64.toUInt64).toInt64).toInt32.toInt8.toInt32)]) (by rw [Jvm.OwnKit.nbb]; rfl) (Or.inr z_a160) at_116 (pc' := 117) rfl fun T209 h210 X211 W212 A213 => ?_
    have F214 := F208.other W212 n165
    generalize p0.toInt32.toInt8.toInt32 = b0 at A213 ⊢
    generalize ((p0.toUInt64 >>> ((8 : Int32) &&& 0x3f).toInt64.toUInt64).toInt64).toInt32.toInt8.toInt32 = b1 at A213 ⊢
    generalize ((p0.toUInt64 >>> ((16 : Int32) &&& 0x3f).toInt64.toUInt64).toInt64).toInt32.toInt8.toInt32 = b2 at A213 ⊢
    generalize ((p0.toUInt64 >>> ((24 : Int32) &&& 0x3f).toInt64.toUInt64).toInt64).toInt32.toInt8.toInt32 = b3 at A213 ⊢
    generalize ((p0.toUInt64 >>> ((32 : Int32) &&& 0x3f).toInt64.toUInt64).toInt64).toInt32.toInt8.toInt32 = b4 at A213 ⊢
    generalize ((p0.toUInt64 >>> ((40 : Int32) &&& 0x3f).toInt64.toUInt64).toInt64).toInt32.toInt8.toInt32 = b5 at A213 ⊢
    generalize ((p0.toUInt64 >>> ((48 : Int32) &&& 0x3f).toInt64.toUInt64).toInt64).toInt32.toInt8.toInt32 = b6 at A213 ⊢
    generalize ((p0.toUInt64 >>> ((56 : Int32) &&& 0x3f).toInt64.toUInt64).toInt64).toInt32.toInt8.toInt32 = b7 at A213 ⊢
    rcases hfr with rfl | rfl | rfl | rfl
    · skip
      refine gaload B X211 at_117 rfl rfl (pc' := 119) rfl ?_
      refine gaload B X211 at_119 rfl rfl (pc' := 121) rfl ?_
      refine giload B X211 at_121 rfl (pc' := 123) rfl ?_
      refine giconst B X211 at_123 (v := (0 : Int32)) rfl (pc' := 124) rfl ?_
      refine giloadN B X211 at_124 rfl (pc' := 125) rfl ?_
      refine giloadN B X211 at_125 rfl (pc' := 126) rfl ?_
      refine giload B X211 at_126 rfl (pc' := 128) rfl ?_
      refine gcallS B X211 (hw _ (List.mem_of_getElem? (i := 1) rfl)) (hw _ (List.mem_of_getElem? (i := 2) rfl)) (hw _ (List.mem_of_getElem? (i := 3) rfl)) (hw _ (List.mem_of_getElem? (i := 4) rfl)) (by decide) (mt1_no l Z a0 hw a160 a153 (0 : Int32) (0 : Int32) p1 p2 qm (0 : Int32) [] 0 h210 F214 rfl (by decide) (by decide)) pd___B_BIIIII_V rfl (argsL := [(.ref a160), (.ref a153), (.int (0 : Int32)), (.int (0 : Int32)), (.int p1), (.int p2), (.int qm)]) (st := []) rfl rfl (W := 0) (Nat.le_of_eq rfl) (by decide) (by decide) (by decide) (by decide) (fun x q => nomatch q) at_128 (pc' := 131) rfl (pureV rfl rfl fun T215 X216 => ?_)
      refine gaload B X216 at_131 rfl rfl (pc' := 133) rfl ?_
      refine gaload B X216 at_133 rfl rfl (pc' := 135) rfl ?_
      refine giload B X216 at_135 rfl (pc' := 137) rfl ?_
      refine giconst B X216 at_137 (v := (1 : Int32)) rfl (pc' := 138) rfl ?_
      refine giloadN B X216 at_138 rfl (pc' := 139) rfl ?_
      refine giloadN B X216 at_139 rfl (pc' := 140) rfl ?_
      refine giload B X216 at_140 rfl (pc' := 142) rfl ?_
      refine gcallS B X216 (hw _ (List.mem_of_getElem? (i := 1) rfl)) (hw _ (List.mem_of_getElem? (i := 2) rfl)) (hw _ (List.mem_of_getElem? (i := 3) rfl)) (hw _ (List.mem_of_getElem? (i := 4) rfl)) (by decide) (mt1_no l Z a0 hw a160 a153 (0 : Int32) (1 : Int32) p1 p2 qm (0 : Int32) [] 0 h210 F214 rfl (by decide) (by decide)) pd___B_BIIIII_V rfl (argsL := [(.ref a160), (.ref a153), (.int (0 : Int32)), (.int (1 : Int32)), (.int p1), (.int p2), (.int qm)]) (st := []) rfl rfl (W := 0) (Nat.le_of_eq rfl) (by decide) (by decide) (by decide) (by decide) (fun x q => nomatch q) at_142 (pc' := 145) rfl (pureV rfl rfl fun T217 X218 => ?_)
      refine gaload B X218 at_145 rfl rfl (pc' := 147) rfl ?_
      refine gaload B X218 at_147 rfl rfl (pc' := 149) rfl ?_
      refine giload B X218 at_149 rfl (pc' := 151) rfl ?_
      refine giconst B X218 at_151 (v := (2 : Int32)) rfl (pc' := 152) rfl ?_
      refine giloadN B X218 at_152 rfl (pc' := 153) rfl ?_
      refine giloadN B X218 at_153 rfl (pc' := 154) rfl ?_
      refine giload B X218 at_154 rfl (pc' := 156) rfl ?_
      refine gcallS B X218 (hw _ (List.mem_of_getElem? (i := 1) rfl)) (hw _ (List.mem_of_getElem? (i := 2) rfl)) (hw _ (List.mem_of_getElem? (i := 3) rfl)) (hw _ (List.mem_of_getElem? (i := 4) rfl)) (by decide) (mt1_no l Z a0 hw a160 a153 (0 : Int32) (2 : Int32) p1 p2 qm (0 : Int32) [] 0 h210 F214 rfl (by decide) (by decide)) pd___B_BIIIII_V rfl (argsL := [(.ref a160), (.ref a153), (.int (0 : Int32)), (.int (2 : Int32)), (.int p1), (.int p2), (.int qm)]) (st := []) rfl rfl (W := 0) (Nat.le_of_eq rfl) (by decide) (by decide) (by decide) (by decide) (fun x q => nomatch q) at_156 (pc' := 159) rfl (pureV rfl rfl fun T219 X220 => ?_)
      refine gaload B X220 at_159 rfl rfl (pc' := 161) rfl ?_
      refine gaload B X220 at_161 rfl rfl (pc' := 163) rfl ?_
      refine giload B X220 at_163 rfl (pc' := 165) rfl ?_
      refine giconst B X220 at_165 (v := (3 : Int32)) rfl (pc' := 166) rfl ?_
      refine giloadN B X220 at_166 rfl (pc' := 167) rfl ?_
      refine giloadN B X220 at_167 rfl (pc' := 168) rfl ?_
      refine giload B X220 at_168 rfl (pc' := 170) rfl ?_
      refine gcallS B X220 (hw _ (List.mem_of_getElem? (i := 1) rfl)) (hw _ (List.mem_of_getElem? (i := 2) rfl)) (hw _ (List.mem_of_getElem? (i := 3) rfl)) (hw _ (List.mem_of_getElem? (i := 4) rfl)) (by decide) (mt1_no l Z a0 hw a160 a153 (0 : Int32) (3 : Int32) p1 p2 qm (0 : Int32) [] 0 h210 F214 rfl (by decide) (by decide)) pd___B_BIIIII_V rfl (argsL := [(.ref a160), (.ref a153), (.int (0 : Int32)), (.int (3 : Int32)), (.int p1), (.int p2), (.int qm)]) (st := []) rfl rfl (W := 0) (Nat.le_of_eq rfl) (by decide) (by decide) (by decide) (by decide) (fun x q => nomatch q) at_170 (pc' := 173) rfl (pureV rfl rfl fun T221 X222 => ?_)
      refine joinG B X222 (F := fun z => (mkF m 222 #[.val (.long p0), .second, .val (.int p1), .val (.int p2), .val (.int p3), .val (.int (0 : Int32)), .val (.int (0 : Int32)), .val (.int qm), .val (.ref a153), .val (.ref a160), .unset] [(.int z)])) (r := (oE (0 : Int32) qm)) (fun J => ?_) ?_
      · refine giconst B X222 at_173 (v := (0 : Int32)) rfl (pc' := 174) rfl ?_
        refine giload B X222 at_174 rfl (pc' := 176) rfl ?_
        refine giload B X222 at_176 rfl (pc' := 178) rfl ?_
        refine gcallS B X222 (hw _ (List.mem_of_getElem? (i := 5) rfl)) (hw _ (List.mem_of_getElem? (i := 6) rfl)) (hw _ (List.mem_of_getElem? (i := 3) rfl)) (hw _ (List.mem_of_getElem? (i := 7) rfl)) (by decide) (mt2 l Z a0 hw (0 : Int32) (0 : Int32) qm  h210 ) pd__III_Z rfl (argsL := [(.int (0 : Int32)), (.int (0 : Int32)), (.int qm)]) (st := []) rfl rfl (W := 0) (Nat.le_of_eq rfl) (by decide) (by decide) (by decide) (by decide) (fun x q => nomatch q) at_178 (pc' := 181) rfl (pureG rfl rfl fun T223 X224 => ?_)
        by_cases c181_225 : (f2 (0 : Int32) (0 : Int32) qm) = (0 : Int32)
        · refine gifY B X224 (pc' := 221) at_181 ((if0 _ _).trans (teq c181_225).1) (by decide) ?_
          refine giconst B X224 at_221 (v := (0 : Int32)) rfl (pc' := 222) rfl ?_
          have e_J : (oE (0 : Int32) qm) = (0 : Int32) := by rw [oE, if_pos c181_225]
          rw [e_J] at J
          exact J _ X224
        · refine gifN B X224 at_181 ((if0 _ _).trans (feq c181_225).1) (pc' := 184) rfl ?_
          refine giconst B X224 at_184 (v := (1 : Int32)) rfl (pc' := 185) rfl ?_
          refine giload B X224 at_185 rfl (pc' := 187) rfl ?_
          refine giload B X224 at_187 rfl (pc' := 189) rfl ?_
          refine gcallS B X224 (hw _ (List.mem_of_getElem? (i := 5) rfl)) (hw _ (List.mem_of_getElem? (i := 6) rfl)) (hw _ (List.mem_of_getElem? (i := 3) rfl)) (hw _ (List.mem_of_getElem? (i := 7) rfl)) (by decide) (mt2 l Z a0 hw (1 : Int32) (0 : Int32) qm  h210 ) pd__III_Z rfl (argsL := [(.int (1 : Int32)), (.int (0 : Int32)), (.int qm)]) (st := []) rfl rfl (W := 0) (Nat.le_of_eq rfl) (by decide) (by decide) (by decide) (by decide) (fun x q => nomatch q) at_189 (pc' := 192) rfl (pureG rfl rfl fun T226 X227 => ?_)
          by_cases c192_228 : (f2 (1 : Int32) (0 : Int32) qm) = (0 : Int32)
          · refine gifY B X227 (pc' := 221) at_192 ((if0 _ _).trans (teq c192_228).1) (by decide) ?_
            refine giconst B X227 at_221 (v := (0 : Int32)) rfl (pc' := 222) rfl ?_
            have e_J : (oE (0 : Int32) qm) = (0 : Int32) := by rw [oE, if_neg c181_225, if_pos c192_228]
            rw [e_J] at J
            exact J _ X227
          · refine gifN B X227 at_192 ((if0 _ _).trans (feq c192_228).1) (pc' := 195) rfl ?_
            refine giconst B X227 at_195 (v := (2 : Int32)) rfl (pc' := 196) rfl ?_
            refine giload B X227 at_196 rfl (pc' := 198) rfl ?_
            refine giload B X227 at_198 rfl (pc' := 200) rfl ?_
            refine gcallS B X227 (hw _ (List.mem_of_getElem? (i := 5) rfl)) (hw _ (List.mem_of_getElem? (i := 6) rfl)) (hw _ (List.mem_of_getElem? (i := 3) rfl)) (hw _ (List.mem_of_getElem? (i := 7) rfl)) (by decide) (mt2 l Z a0 hw (2 : Int32) (0 : Int32) qm  h210 ) pd__III_Z rfl (argsL := [(.int (2 : Int32)), (.int (0 : Int32)), (.int qm)]) (st := []) rfl rfl (W := 0) (Nat.le_of_eq rfl) (by decide) (by decide) (by decide) (by decide) (fun x q => nomatch q) at_200 (pc' := 203) rfl (pureG rfl rfl fun T229 X230 => ?_)
            by_cases c203_231 : (f2 (2 : Int32) (0 : Int32) qm) = (0 : Int32)
            · refine gifY B X230 (pc' := 221) at_203 ((if0 _ _).trans (teq c203_231).1) (by decide) ?_
              refine giconst B X230 at_221 (v := (0 : Int32)) rfl (pc' := 222) rfl ?_
              have e_J : (oE (0 : Int32) qm) = (0 : Int32) := by rw [oE, if_neg c181_225, if_neg c192_228, if_pos c203_231]
              rw [e_J] at J
              exact J _ X230
            · refine gifN B X230 at_203 ((if0 _ _).trans (feq c203_231).1) (pc' := 206) rfl ?_
              refine giconst B X230 at_206 (v := (3 : Int32)) rfl (pc' := 207) rfl ?_
              refine giload B X230 at_207 rfl (pc' := 209) rfl ?_
              refine giload B X230 at_209 rfl (pc' := 211) rfl ?_
              refine gcallS B X230 (hw _ (List.mem_of_getElem? (i := 5) rfl)) (hw _ (List.mem_of_getElem? (i := 6) rfl)) (hw _ (List.mem_of_getElem? (i := 3) rfl)) (hw _ (List.mem_of_getElem? (i := 7) rfl)) (by decide) (mt2 l Z a0 hw (3 : Int32) (0 : Int32) qm  h210 ) pd__III_Z rfl (argsL := [(.int (3 : Int32)), (.int (0 : Int32)), (.int qm)]) (st := []) rfl rfl (W := 0) (Nat.le_of_eq rfl) (by decide) (by decide) (by decide) (by decide) (fun x q => nomatch q) at_211 (pc' := 214) rfl (pureG rfl rfl fun T232 X233 => ?_)
              by_cases c214_234 : (f2 (3 : Int32) (0 : Int32) qm) = (0 : Int32)
              · refine gifY B X233 (pc' := 221) at_214 ((if0 _ _).trans (teq c214_234).1) (by decide) ?_
                refine giconst B X233 at_221 (v := (0 : Int32)) rfl (pc' := 222) rfl ?_
                have e_J : (oE (0 : Int32) qm) = (0 : Int32) := by rw [oE, if_neg c181_225, if_neg c192_228, if_neg c203_231, if_pos c214_234]
                rw [e_J] at J
                exact J _ X233
              · refine gifN B X233 at_214 ((if0 _ _).trans (feq c214_234).1) (pc' := 217) rfl ?_
                refine giconst B X233 at_217 (v := (1 : Int32)) rfl (pc' := 218) rfl ?_
                refine ggoto B X233 (pc' := 222) at_218 (by decide) ?_
                have e_J : (oE (0 : Int32) qm) = (1 : Int32) := by rw [oE, if_neg c181_225, if_neg c192_228, if_neg c203_231, if_neg c214_234]
                rw [e_J] at J
                exact J _ X233
      intro T235 X236
      show Go p e below s _ _ _ _ _ T235 (mkF m 222 #[.val (.long p0), .second, .val (.int p1), .val (.int p2), .val (.int p3), .val (.int (0 : Int32)), .val (.int (0 : Int32)), .val (.int qm), .val (.ref a153), .val (.ref a160), .unset] [(.int (oE (0 : Int32) qm))])
      refine gistore B X236 at_222 (Ls' := #[.val (.long p0), .second, .val (.int p1), .val (.int p2), .val (.int p3), .val (.int (0 : Int32)), .val (.int (0 : Int32)), .val (.int qm), .val (.ref a153), .val (.ref a160), .val (.int (oE (0 : Int32) qm))]) rfl (pc' := 224) rfl ?_
      refine gaload B X236 at_224 rfl rfl (pc' := 226) rfl ?_
      refine giload B X236 at_226 rfl (pc' := 228) rfl ?_
      refine gaload B X236 at_228 rfl rfl (pc' := 230) rfl ?_
      refine gcallS B X236 (hw _ (List.mem_of_getElem? (i := 8) rfl)) (hw _ (List.mem_of_getElem? (i := 9) rfl)) (hw _ (List.mem_of_getElem? (i := 10) rfl)) (hw _ (List.mem_of_getElem? (i := 11) rfl)) (by decide) (mt3_0 l Z a0 hw a160 (0 : Int32) a153 [(.int b0), (.int b1), (.int b2), (.int b3), (.int b4), (.int b5), (.int b6), (.int b7)]  h210 A213 rfl F214 ) pd___BI_B_Z rfl (argsL := [(.ref a160), (.int (0 : Int32)), (.ref a153)]) (st := []) rfl rfl (W := 0) (Nat.le_of_eq rfl) (by decide) (by decide) (by decide) (by decide) (fun x q => nomatch q) at_230 (pc' := 233) rfl (pureG rfl rfl fun T237 X238 => ?_)
      refine giload B X238 at_233 rfl (pc' := 235) rfl ?_
      have c235_239 : (f3_0 ) = (oE (0 : Int32) qm) := own_fin0 p1 p2 qm
      refine gicN B X238 at_235 (teq c235_239).2 (pc' := 238) rfl ?_
      refine giconst B X238 at_238 (v := (1 : Int32)) rfl (pc' := 239) rfl ?_
      refine ggoto B X238 (pc' := 243) at_239 (by decide) ?_
      exact gretN B X238 (z' := (1 : Int32)) (by simp) (rfl) at_243 (by decide) (by decide) (rfl)
    · skip
      refine gaload B X211 at_117 rfl rfl (pc' := 119) rfl ?_
      refine gaload B X211 at_119 rfl rfl (pc' := 121) rfl ?_
      refine giload B X211 at_121 rfl (pc' := 123) rfl ?_
      refine giconst B X211 at_123 (v := (0 : Int32)) rfl (pc' := 124) rfl ?_
      refine giloadN B X211 at_124 rfl (pc' := 125) rfl ?_
      refine giloadN B X211 at_125 rfl (pc' := 126) rfl ?_
      refine giload B X211 at_126 rfl (pc' := 128) rfl ?_
      refine gcallS B X211 (hw _ (List.mem_of_getElem? (i := 1) rfl)) (hw _ (List.mem_of_getElem? (i := 2) rfl)) (hw _ (List.mem_of_getElem? (i := 3) rfl)) (hw _ (List.mem_of_getElem? (i := 4) rfl)) (by decide) (mt1_no l Z a0 hw a160 a153 (1 : Int32) (0 : Int32) p1 p2 qm (0 : Int32) [] 0 h210 F214 rfl (by decide) (by decide)) pd___B_BIIIII_V rfl (argsL := [(.ref a160), (.ref a153), (.int (1 : Int32)), (.int (0 : Int32)), (.int p1), (.int p2), (.int qm)]) (st := []) rfl rfl (W := 0) (Nat.le_of_eq rfl) (by decide) (by decide) (by decide) (by decide) (fun x q => nomatch q) at_128 (pc' := 131) rfl (pureV rfl rfl fun T240 X241 => ?_)
      refine gaload B X241 at_131 rfl rfl (pc' := 133) rfl ?_
      refine gaload B X241 at_133 rfl rfl (pc' := 135) rfl ?_
      refine giload B X241 at_135 rfl (pc' := 137) rfl ?_
      refine giconst B X241 at_137 (v := (1 : Int32)) rfl (pc' := 138) rfl ?_
      refine giloadN B X241 at_138 rfl (pc' := 139) rfl ?_
      refine giloadN B X241 at_139 rfl (pc' := 140) rfl ?_
      refine giload B X241 at_140 rfl (pc' := 142) rfl ?_
      refine gcallS B X241 (hw _ (List.mem_of_getElem? (i := 1) rfl)) (hw _ (List.mem_of_getElem? (i := 2) rfl)) (hw _ (List.mem_of_getElem? (i := 3) rfl)) (hw _ (List.mem_of_getElem? (i := 4) rfl)) (by decide) (mt1_no l Z a0 hw a160 a153 (1 : Int32) (1 : Int32) p1 p2 qm (0 : Int32) [] 0 h210 F214 rfl (by decide) (by decide)) pd___B_BIIIII_V rfl (argsL := [(.ref a160), (.ref a153), (.int (1 : Int32)), (.int (1 : Int32)), (.int p1), (.int p2), (.int qm)]) (st := []) rfl rfl (W := 0) (Nat.le_of_eq rfl) (by decide) (by decide) (by decide) (by decide) (fun x q => nomatch q) at_142 (pc' := 145) rfl (pureV rfl rfl fun T242 X243 => ?_)
      refine gaload B X243 at_145 rfl rfl (pc' := 147) rfl ?_
      refine gaload B X243 at_147 rfl rfl (pc' := 149) rfl ?_
      refine giload B X243 at_149 rfl (pc' := 151) rfl ?_
      refine giconst B X243 at_151 (v := (2 : Int32)) rfl (pc' := 152) rfl ?_
      refine giloadN B X243 at_152 rfl (pc' := 153) rfl ?_
      refine giloadN B X243 at_153 rfl (pc' := 154) rfl ?_
      refine giload B X243 at_154 rfl (pc' := 156) rfl ?_
      refine gcallS B X243 (hw _ (List.mem_of_getElem? (i := 1) rfl)) (hw _ (List.mem_of_getElem? (i := 2) rfl)) (hw _ (List.mem_of_getElem? (i := 3) rfl)) (hw _ (List.mem_of_getElem? (i := 4) rfl)) (by decide) (mt1_no l Z a0 hw a160 a153 (1 : Int32) (2 : Int32) p1 p2 qm (0 : Int32) [] 0 h210 F214 rfl (by decide) (by decide)) pd___B_BIIIII_V rfl (argsL := [(.ref a160), (.ref a153), (.int (1 : Int32)), (.int (2 : Int32)), (.int p1), (.int p2), (.int qm)]) (st := []) rfl rfl (W := 0) (Nat.le_of_eq rfl) (by decide) (by decide) (by decide) (by decide) (fun x q => nomatch q) at_156 (pc' := 159) rfl (pureV rfl rfl fun T244 X245 => ?_)
      refine gaload B X245 at_159 rfl rfl (pc' := 161) rfl ?_
      refine gaload B X245 at_161 rfl rfl (pc' := 163) rfl ?_
      refine giload B X245 at_163 rfl (pc' := 165) rfl ?_
      refine giconst B X245 at_165 (v := (3 : Int32)) rfl (pc' := 166) rfl ?_
      refine giloadN B X245 at_166 rfl (pc' := 167) rfl ?_
      refine giloadN B X245 at_167 rfl (pc' := 168) rfl ?_
      refine giload B X245 at_168 rfl (pc' := 170) rfl ?_
      refine gcallS B X245 (hw _ (List.mem_of_getElem? (i := 1) rfl)) (hw _ (List.mem_of_getElem? (i := 2) rfl)) (hw _ (List.mem_of_getElem? (i := 3) rfl)) (hw _ (List.mem_of_getElem? (i := 4) rfl)) (by decide) (mt1_no l Z a0 hw a160 a153 (1 : Int32) (3 : Int32) p1 p2 qm (0 : Int32) [] 0 h210 F214 rfl (by decide) (by decide)) pd___B_BIIIII_V rfl (argsL := [(.ref a160), (.ref a153), (.int (1 : Int32)), (.int (3 : Int32)), (.int p1), (.int p2), (.int qm)]) (st := []) rfl rfl (W := 0) (Nat.le_of_eq rfl) (by decide) (by decide) (by decide) (by decide) (fun x q => nomatch q) at_170 (pc' := 173) rfl (pureV rfl rfl fun T246 X247 => ?_)
      refine joinG B X247 (F := fun z => (mkF m 222 #[.val (.long p0), .second, .val (.int p1), .val (.int p2), .val (.int p3), .val (.int (0 : Int32)), .val (.int (1 : Int32)), .val (.int qm), .val (.ref a153), .val (.ref a160), .unset] [(.int z)])) (r := (oE (0 : Int32) qm)) (fun J => ?_) ?_
      · refine giconst B X247 at_173 (v := (0 : Int32)) rfl (pc' := 174) rfl ?_
        refine giload B X247 at_174 rfl (pc' := 176) rfl ?_
        refine giload B X247 at_176 rfl (pc' := 178) rfl ?_
        refine gcallS B X247 (hw _ (List.mem_of_getElem? (i := 5) rfl)) (hw _ (List.mem_of_getElem? (i := 6) rfl)) (hw _ (List.mem_of_getElem? (i := 3) rfl)) (hw _ (List.mem_of_getElem? (i := 7) rfl)) (by decide) (mt2 l Z a0 hw (0 : Int32) (0 : Int32) qm  h210 ) pd__III_Z rfl (argsL := [(.int (0 : Int32)), (.int (0 : Int32)), (.int qm)]) (st := []) rfl rfl (W := 0) (Nat.le_of_eq rfl) (by decide) (by decide) (by decide) (by decide) (fun x q => nomatch q) at_178 (pc' := 181) rfl (pureG rfl rfl fun T248 X249 => ?_)
        by_cases c181_250 : (f2 (0 : Int32) (0 : Int32) qm) = (0 : Int32)
        · refine gifY B X249 (pc' := 221) at_181 ((if0 _ _).trans (teq c181_250).1) (by decide) ?_
          refine giconst B X249 at_221 (v := (0 : Int32)) rfl (pc' := 222) rfl ?_
          have e_J : (oE (0 : Int32) qm) = (0 : Int32) := by rw [oE, if_pos c181_250]
          rw [e_J] at J
          exact J _ X249
        · refine gifN B X249 at_181 ((if0 _ _).trans (feq c181_250).1) (pc' := 184) rfl ?_
          refine giconst B X249 at_184 (v := (1 : Int32)) rfl (pc' := 185) rfl ?_
          refine giload B X249 at_185 rfl (pc' := 187) rfl ?_
          refine giload B X249 at_187 rfl (pc' := 189) rfl ?_
          refine gcallS B X249 (hw _ (List.mem_of_getElem? (i := 5) rfl)) (hw _ (List.mem_of_getElem? (i := 6) rfl)) (hw _ (List.mem_of_getElem? (i := 3) rfl)) (hw _ (List.mem_of_getElem? (i := 7) rfl)) (by decide) (mt2 l Z a0 hw (1 : Int32) (0 : Int32) qm  h210 ) pd__III_Z rfl (argsL := [(.int (1 : Int32)), (.int (0 : Int32)), (.int qm)]) (st := []) rfl rfl (W := 0) (Nat.le_of_eq rfl) (by decide) (by decide) (by decide) (by decide) (fun x q => nomatch q) at_189 (pc' := 192) rfl (pureG rfl rfl fun T251 X252 => ?_)
          by_cases c192_253 : (f2 (1 : Int32) (0 : Int32) qm) = (0 : Int32)
          · refine gifY B X252 (pc' := 221) at_192 ((if0 _ _).trans (teq c192_253).1) (by decide) ?_
            refine giconst B X252 at_221 (v := (0 : Int32)) rfl (pc' := 222) rfl ?_
            have e_J : (oE (0 : Int32) qm) = (0 : Int32) := by rw [oE, if_neg c181_250, if_pos c192_253]
            rw [e_J] at J
            exact J _ X252
          · refine gifN B X252 at_192 ((if0 _ _).trans (feq c192_253).1) (pc' := 195) rfl ?_
            refine giconst B X252 at_195 (v := (2 : Int32)) rfl (pc' := 196) rfl ?_
            refine giload B X252 at_196 rfl (pc' := 198) rfl ?_
            refine giload B X252 at_198 rfl (pc' := 200) rfl ?_
            refine gcallS B X252 (hw _ (List.mem_of_getElem? (i := 5) rfl)) (hw _ (List.mem_of_getElem? (i := 6) rfl)) (hw _ (List.mem_of_getElem? (i := 3) rfl)) (hw _ (List.mem_of_getElem? (i := 7) rfl)) (by decide) (mt2 l Z a0 hw (2 : Int32) (0 : Int32) qm  h210 ) pd__III_Z rfl (argsL := [(.int (2 : Int32)), (.int (0 : Int32)), (.int qm)]) (st := []) rfl rfl (W := 0) (Nat.le_of_eq rfl) (by decide) (by decide) (by decide) (by decide) (fun x q => nomatch q) at_200 (pc' := 203) rfl (pureG rfl rfl fun T254 X255 => ?_)
            by_cases c203_256 : (f2 (2 : Int32) (0 : Int32) qm) = (0 : Int32)
            · refine gifY B X255 (pc' := 221) at_203 ((if0 _ _).trans (teq c203_256).1) (by decide) ?_
              refine giconst B X255 at_221 (v := (0 : Int32)) rfl (pc' := 222) rfl ?_
              have e_J : (oE (0 : Int32) qm) = (0 : Int32) := by rw [oE, if_neg c181_250, if_neg c192_253, if_pos c203_256]
              rw [e_J] at J
              exact J _ X255
            · refine gifN B X255 at_203 ((if0 _ _).trans (feq c203_256).1) (pc' := 206) rfl ?_
              refine giconst B X255 at_206 (v := (3 : Int32)) rfl (pc' := 207) rfl ?_
              refine giload B X255 at_207 rfl (pc' := 209) rfl ?_
              refine giload B X255 at_209 rfl (pc' := 211) rfl ?_
              refine gcallS B X255 (hw _ (List.mem_of_getElem? (i := 5) rfl)) (hw _ (List.mem_of_getElem? (i := 6) rfl)) (hw _ (List.mem_of_getElem? (i := 3) rfl)) (hw _ (List.mem_of_getElem? (i := 7) rfl)) (by decide) (mt2 l Z a0 hw (3 : Int32) (0 : Int32) qm  h210 ) pd__III_Z rfl (argsL := [(.int (3 : Int32)), (.int (0 : Int32)), (.int qm)]) (st := []) rfl rfl (W := 0) (Nat.le_of_eq rfl) (by decide) (by decide) (by decide) (by decide) (fun x q => nomatch q) at_211 (pc' := 214) rfl (pureG rfl rfl fun T257 X258 => ?_)
              by_cases c214_259 : (f2 (3 : Int32) (0 : Int32) qm) = (0 : Int32)
              · refine gifY B X258 (pc' := 221) at_214 ((if0 _ _).trans (teq c214_259).1) (by decide) ?_
                refine giconst B X258 at_221 (v := (0 : Int32)) rfl (pc' := 222) rfl ?_
                have e_J : (oE (0 : Int32) qm) = (0 : Int32) := by rw [oE, if_neg c181_250, if_neg c192_253, if_neg c203_256, if_pos c214_259]
                rw [e_J] at J
                exact J _ X258
              · refine gifN B X258 at_214 ((if0 _ _).trans (feq c214_259).1) (pc' := 217) rfl ?_
                refine giconst B X258 at_217 (v := (1 : Int32)) rfl (pc' := 218) rfl ?_
                refine ggoto B X258 (pc' := 222) at_218 (by decide) ?_
                have e_J : (oE (0 : Int32) qm) = (1 : Int32) := by rw [oE, if_neg c181_250, if_neg c192_253, if_neg c203_256, if_neg c214_259]
                rw [e_J] at J
                exact J _ X258
      intro T260 X261
      show Go p e below s _ _ _ _ _ T260 (mkF m 222 #[.val (.long p0), .second, .val (.int p1), .val (.int p2), .val (.int p3), .val (.int (0 : Int32)), .val (.int (1 : Int32)), .val (.int qm), .val (.ref a153), .val (.ref a160), .unset] [(.int (oE (0 : Int32) qm))])
      refine gistore B X261 at_222 (Ls' := #[.val (.long p0), .second, .val (.int p1), .val (.int p2), .val (.int p3), .val (.int (0 : Int32)), .val (.int (1 : Int32)), .val (.int qm), .val (.ref a153), .val (.ref a160), .val (.int (oE (0 : Int32) qm))]) rfl (pc' := 224) rfl ?_
      refine gaload B X261 at_224 rfl rfl (pc' := 226) rfl ?_
      refine giload B X261 at_226 rfl (pc' := 228) rfl ?_
      refine gaload B X261 at_228 rfl rfl (pc' := 230) rfl ?_
      refine gcallS B X261 (hw _ (List.mem_of_getElem? (i := 8) rfl)) (hw _ (List.mem_of_getElem? (i := 9) rfl)) (hw _ (List.mem_of_getElem? (i := 10) rfl)) (hw _ (List.mem_of_getElem? (i := 11) rfl)) (by decide) (mt3_0 l Z a0 hw a160 (1 : Int32) a153 [(.int b0), (.int b1), (.int b2), (.int b3), (.int b4), (.int b5), (.int b6), (.int b7)]  h210 A213 rfl F214 ) pd___BI_B_Z rfl (argsL := [(.ref a160), (.int (1 : Int32)), (.ref a153)]) (st := []) rfl rfl (W := 0) (Nat.le_of_eq rfl) (by decide) (by decide) (by decide) (by decide) (fun x q => nomatch q) at_230 (pc' := 233) rfl (pureG rfl rfl fun T262 X263 => ?_)
      refine giload B X263 at_233 rfl (pc' := 235) rfl ?_
      have c235_264 : (f3_0 ) = (oE (0 : Int32) qm) := own_fin0 p1 p2 qm
      refine gicN B X263 at_235 (teq c235_264).2 (pc' := 238) rfl ?_
      refine giconst B X263 at_238 (v := (1 : Int32)) rfl (pc' := 239) rfl ?_
      refine ggoto B X263 (pc' := 243) at_239 (by decide) ?_
      exact gretN B X263 (z' := (1 : Int32)) (by simp) (rfl) at_243 (by decide) (by decide) (rfl)
    · skip
      refine gaload B X211 at_117 rfl rfl (pc' := 119) rfl ?_
      refine gaload B X211 at_119 rfl rfl (pc' := 121) rfl ?_
      refine giload B X211 at_121 rfl (pc' := 123) rfl ?_
      refine giconst B X211 at_123 (v := (0 : Int32)) rfl (pc' := 124) rfl ?_
      refine giloadN B X211 at_124 rfl (pc' := 125) rfl ?_
      refine giloadN B X211 at_125 rfl (pc' := 126) rfl ?_
      refine giload B X211 at_126 rfl (pc' := 128) rfl ?_
      refine gcallS B X211 (hw _ (List.mem_of_getElem? (i := 1) rfl)) (hw _ (List.mem_of_getElem? (i := 2) rfl)) (hw _ (List.mem_of_getElem? (i := 3) rfl)) (hw _ (List.mem_of_getElem? (i := 4) rfl)) (by decide) (mt1_no l Z a0 hw a160 a153 (2 : Int32) (0 : Int32) p1 p2 qm (0 : Int32) [] 0 h210 F214 rfl (by decide) (by decide)) pd___B_BIIIII_V rfl (argsL := [(.ref a160), (.ref a153), (.int (2 : Int32)), (.int (0 : Int32)), (.int p1), (.int p2), (.int qm)]) (st := []) rfl rfl (W := 0) (Nat.le_of_eq rfl) (by decide) (by decide) (by decide) (by decide) (fun x q => nomatch q) at_128 (pc' := 131) rfl (pureV rfl rfl fun T265 X266 => ?_)
      refine gaload B X266 at_131 rfl rfl (pc' := 133) rfl ?_
      refine gaload B X266 at_133 rfl rfl (pc' := 135) rfl ?_
      refine giload B X266 at_135 rfl (pc' := 137) rfl ?_
      refine giconst B X266 at_137 (v := (1 : Int32)) rfl (pc' := 138) rfl ?_
      refine giloadN B X266 at_138 rfl (pc' := 139) rfl ?_
      refine giloadN B X266 at_139 rfl (pc' := 140) rfl ?_
      refine giload B X266 at_140 rfl (pc' := 142) rfl ?_
      refine gcallS B X266 (hw _ (List.mem_of_getElem? (i := 1) rfl)) (hw _ (List.mem_of_getElem? (i := 2) rfl)) (hw _ (List.mem_of_getElem? (i := 3) rfl)) (hw _ (List.mem_of_getElem? (i := 4) rfl)) (by decide) (mt1_no l Z a0 hw a160 a153 (2 : Int32) (1 : Int32) p1 p2 qm (0 : Int32) [] 0 h210 F214 rfl (by decide) (by decide)) pd___B_BIIIII_V rfl (argsL := [(.ref a160), (.ref a153), (.int (2 : Int32)), (.int (1 : Int32)), (.int p1), (.int p2), (.int qm)]) (st := []) rfl rfl (W := 0) (Nat.le_of_eq rfl) (by decide) (by decide) (by decide) (by decide) (fun x q => nomatch q) at_142 (pc' := 145) rfl (pureV rfl rfl fun T267 X268 => ?_)
      refine gaload B X268 at_145 rfl rfl (pc' := 147) rfl ?_
      refine gaload B X268 at_147 rfl rfl (pc' := 149) rfl ?_
      refine giload B X268 at_149 rfl (pc' := 151) rfl ?_
      refine giconst B X268 at_151 (v := (2 : Int32)) rfl (pc' := 152) rfl ?_
      refine giloadN B X268 at_152 rfl (pc' := 153) rfl ?_
      refine giloadN B X268 at_153 rfl (pc' := 154) rfl ?_
      refine giload B X268 at_154 rfl (pc' := 156) rfl ?_
      refine gcallS B X268 (hw _ (List.mem_of_getElem? (i := 1) rfl)) (hw _ (List.mem_of_getElem? (i := 2) rfl)) (hw _ (List.mem_of_getElem? (i := 3) rfl)) (hw _ (List.mem_of_getElem? (i := 4) rfl)) (by decide) (mt1_no l Z a0 hw a160 a153 (2 : Int32) (2 : Int32) p1 p2 qm (0 : Int32) [] 0 h210 F214 rfl (by decide) (by decide)) pd___B_BIIIII_V rfl (argsL := [(.ref a160), (.ref a153), (.int (2 : Int32)), (.int (2 : Int32)), (.int p1), (.int p2), (.int qm)]) (st := []) rfl rfl (W := 0) (Nat.le_of_eq rfl) (by decide) (by decide) (by decide) (by decide) (fun x q => nomatch q) at_156 (pc' := 159) rfl (pureV rfl rfl fun T269 X270 => ?_)
      refine gaload B X270 at_159 rfl rfl (pc' := 161) rfl ?_
      refine gaload B X270 at_161 rfl rfl (pc' := 163) rfl ?_
      refine giload B X270 at_163 rfl (pc' := 165) rfl ?_
      refine giconst B X270 at_165 (v := (3 : Int32)) rfl (pc' := 166) rfl ?_
      refine giloadN B X270 at_166 rfl (pc' := 167) rfl ?_
      refine giloadN B X270 at_167 rfl (pc' := 168) rfl ?_
      refine giload B X270 at_168 rfl (pc' := 170) rfl ?_
      refine gcallS B X270 (hw _ (List.mem_of_getElem? (i := 1) rfl)) (hw _ (List.mem_of_getElem? (i := 2) rfl)) (hw _ (List.mem_of_getElem? (i := 3) rfl)) (hw _ (List.mem_of_getElem? (i := 4) rfl)) (by decide) (mt1_no l Z a0 hw a160 a153 (2 : Int32) (3 : Int32) p1 p2 qm (0 : Int32) [] 0 h210 F214 rfl (by decide) (by decide)) pd___B_BIIIII_V rfl (argsL := [(.ref a160), (.ref a153), (.int (2 : Int32)), (.int (3 : Int32)), (.int p1), (.int p2), (.int qm)]) (st := []) rfl rfl (W := 0) (Nat.le_of_eq rfl) (by decide) (by decide) (by decide) (by decide) (fun x q => nomatch q) at_170 (pc' := 173) rfl (pureV rfl rfl fun T271 X272 => ?_)
      refine joinG B X272 (F := fun z => (mkF m 222 #[.val (.long p0), .second, .val (.int p1), .val (.int p2), .val (.int p3), .val (.int (0 : Int32)), .val (.int (2 : Int32)), .val (.int qm), .val (.ref a153), .val (.ref a160), .unset] [(.int z)])) (r := (oE (0 : Int32) qm)) (fun J => ?_) ?_
      · refine giconst B X272 at_173 (v := (0 : Int32)) rfl (pc' := 174) rfl ?_
        refine giload B X272 at_174 rfl (pc' := 176) rfl ?_
        refine giload B X272 at_176 rfl (pc' := 178) rfl ?_
        refine gcallS B X272 (hw _ (List.mem_of_getElem? (i := 5) rfl)) (hw _ (List.mem_of_getElem? (i := 6) rfl)) (hw _ (List.mem_of_getElem? (i := 3) rfl)) (hw _ (List.mem_of_getElem? (i := 7) rfl)) (by decide) (mt2 l Z a0 hw (0 : Int32) (0 : Int32) qm  h210 ) pd__III_Z rfl (argsL := [(.int (0 : Int32)), (.int (0 : Int32)), (.int qm)]) (st := []) rfl rfl (W := 0) (Nat.le_of_eq rfl) (by decide) (by decide) (by decide) (by decide) (fun x q => nomatch q) at_178 (pc' := 181) rfl (pureG rfl rfl fun T273 X274 => ?_)
        by_cases c181_275 : (f2 (0 : Int32) (0 : Int32) qm) = (0 : Int32)
        · refine gifY B X274 (pc' := 221) at_181 ((if0 _ _).trans (teq c181_275).1) (by decide) ?_
          refine giconst B X274 at_221 (v := (0 : Int32)) rfl (pc' := 222) rfl ?_
          have e_J : (oE (0 : Int32) qm) = (0 : Int32) := by rw [oE, if_pos c181_275]
          rw [e_J] at J
          exact J _ X274
        · refine gifN B X274 at_181 ((if0 _ _).trans (feq c181_275).1) (pc' := 184) rfl ?_
          refine giconst B X274 at_184 (v := (1 : Int32)) rfl (pc' := 185) rfl ?_
          refine giload B X274 at_185 rfl (pc' := 187) rfl ?_
          refine giload B X274 at_187 rfl (pc' := 189) rfl ?_
          refine gcallS B X274 (hw _ (List.mem_of_getElem? (i := 5) rfl)) (hw _ (List.mem_of_getElem? (i := 6) rfl)) (hw _ (List.mem_of_getElem? (i := 3) rfl)) (hw _ (List.mem_of_getElem? (i := 7) rfl)) (by decide) (mt2 l Z a0 hw (1 : Int32) (0 : Int32) qm  h210 ) pd__III_Z rfl (argsL := [(.int (1 : Int32)), (.int (0 : Int32)), (.int qm)]) (st := []) rfl rfl (W := 0) (Nat.le_of_eq rfl) (by decide) (by decide) (by decide) (by decide) (fun x q => nomatch q) at_189 (pc' := 192) rfl (pureG rfl rfl fun T276 X277 => ?_)
          by_cases c192_278 : (f2 (1 : Int32) (0 : Int32) qm) = (0 : Int32)
          · refine gifY B X277 (pc' := 221) at_192 ((if0 _ _).trans (teq c192_278).1) (by decide) ?_
            refine giconst B X277 at_221 (v := (0 : Int32)) rfl (pc' := 222) rfl ?_
            have e_J : (oE (0 : Int32) qm) = (0 : Int32) := by rw [oE, if_neg c181_275, if_pos c192_278]
            rw [e_J] at J
            exact J _ X277
          · refine gifN B X277 at_192 ((if0 _ _).trans (feq c192_278).1) (pc' := 195) rfl ?_
            refine giconst B X277 at_195 (v := (2 : Int32)) rfl (pc' := 196) rfl ?_
            refine giload B X277 at_196 rfl (pc' := 198) rfl ?_
            refine giload B X277 at_198 rfl (pc' := 200) rfl ?_
            refine gcallS B X277 (hw _ (List.mem_of_getElem? (i := 5) rfl)) (hw _ (List.mem_of_getElem? (i := 6) rfl)) (hw _ (List.mem_of_getElem? (i := 3) rfl)) (hw _ (List.mem_of_getElem? (i := 7) rfl)) (by decide) (mt2 l Z a0 hw (2 : Int32) (0 : Int32) qm  h210 ) pd__III_Z rfl (argsL := [(.int (2 : Int32)), (.int (0 : Int32)), (.int qm)]) (st := []) rfl rfl (W := 0) (Nat.le_of_eq rfl) (by decide) (by decide) (by decide) (by decide) (fun x q => nomatch q) at_200 (pc' := 203) rfl (pureG rfl rfl fun T279 X280 => ?_)
            by_cases c203_281 : (f2 (2 : Int32) (0 : Int32) qm) = (0 : Int32)
            · refine gifY B X280 (pc' := 221) at_203 ((if0 _ _).trans (teq c203_281).1) (by decide) ?_
              refine giconst B X280 at_221 (v := (0 : Int32)) rfl (pc' := 222) rfl ?_
              have e_J : (oE (0 : Int32) qm) = (0 : Int32) := by rw [oE, if_neg c181_275, if_neg c192_278, if_pos c203_281]
              rw [e_J] at J
              exact J _ X280
            · refine gifN B X280 at_203 ((if0 _ _).trans (feq c203_281).1) (pc' := 206) rfl ?_
              refine giconst B X280 at_206 (v := (3 : Int32)) rfl (pc' := 207) rfl ?_
              refine giload B X280 at_207 rfl (pc' := 209) rfl ?_
              refine giload B X280 at_209 rfl (pc' := 211) rfl ?_
              refine gcallS B X280 (hw _ (List.mem_of_getElem? (i := 5) rfl)) (hw _ (List.mem_of_getElem? (i := 6) rfl)) (hw _ (List.mem_of_getElem? (i := 3) rfl)) (hw _ (List.mem_of_getElem? (i := 7) rfl)) (by decide) (mt2 l Z a0 hw (3 : Int32) (0 : Int32) qm  h210 ) pd__III_Z rfl (argsL := [(.int (3 : Int32)), (.int (0 : Int32)), (.int qm)]) (st := []) rfl rfl (W := 0) (Nat.le_of_eq rfl) (by decide) (by decide) (by decide) (by decide) (fun x q => nomatch q) at_211 (pc' := 214) rfl (pureG rfl rfl fun T282 X283 => ?_)
              by_cases c214_284 : (f2 (3 : Int32) (0 : Int32) qm) = (0 : Int32)
              · refine gifY B X283 (pc' := 221) at_214 ((if0 _ _).trans (teq c214_284).1) (by decide) ?_
                refine giconst B X283 at_221 (v := (0 : Int32)) rfl (pc' := 222) rfl ?_
                have e_J : (oE (0 : Int32) qm) = (0 : Int32) := by rw [oE, if_neg c181_275, if_neg c192_278, if_neg c203_281, if_pos c214_284]
                rw [e_J] at J
                exact J _ X283
              · refine gifN B X283 at_214 ((if0 _ _).trans (feq c214_284).1) (pc' := 217) rfl ?_
                refine giconst B X283 at_217 (v := (1 : Int32)) rfl (pc' := 218) rfl ?_
                refine ggoto B X283 (pc' := 222) at_218 (by decide) ?_
                have e_J : (oE (0 : Int32) qm) = (1 : Int32) := by rw [oE, if_neg c181_275, if_neg c192_278, if_neg c203_281, if_neg c214_284]
                rw [e_J] at J
                exact J _ X283
      intro T285 X286
      show Go p e below s _ _ _ _ _ T285 (mkF m 222 #[.val (.long p0), .second, .val (.int p1), .val (.int p2), .val (.int p3), .val (.int (0 : Int32)), .val (.int (2 : Int32)), .val (.int qm), .val (.ref a153), .val (.ref a160), .unset] [(.int (oE (0 : Int32) qm))])
      refine gistore B X286 at_222 (Ls' := #[.val (.long p0), .second, .val (.int p1), .val (.int p2), .val (.int p3), .val (.int (0 : Int32)), .val (.int (2 : Int32)), .val (.int qm), .val (.ref a153), .val (.ref a160), .val (.int (oE (0 : Int32) qm))]) rfl (pc' := 224) rfl ?_
      refine gaload B X286 at_224 rfl rfl (pc' := 226) rfl ?_
      refine giload B X286 at_226 rfl (pc' := 228) rfl ?_
      refine gaload B X286 at_228 rfl rfl (pc' := 230) rfl ?_
      refine gcallS B X286 (hw _ (List.mem_of_getElem? (i := 8) rfl)) (hw _ (List.mem_of_getElem? (i := 9) rfl)) (hw _ (List.mem_of_getElem? (i := 10) rfl)) (hw _ (List.mem_of_getElem? (i := 11) rfl)) (by decide) (mt3_0 l Z a0 hw a160 (2 : Int32) a153 [(.int b0), (.int b1), (.int b2), (.int b3), (.int b4), (.int b5), (.int b6), (.int b7)]  h210 A213 rfl F214 ) pd___BI_B_Z rfl (argsL := [(.ref a160), (.int (2 : Int32)), (.ref a153)]) (st := []) rfl rfl (W := 0) (Nat.le_of_eq rfl) (by decide) (by decide) (by decide) (by decide) (fun x q => nomatch q) at_230 (pc' := 233) rfl (pureG rfl rfl fun T287 X288 => ?_)
      refine giload B X288 at_233 rfl (pc' := 235) rfl ?_
      have c235_289 : (f3_0 ) = (oE (0 : Int32) qm) := own_fin0 p1 p2 qm
      refine gicN B X288 at_235 (teq c235_289).2 (pc' := 238) rfl ?_
      refine giconst B X288 at_238 (v := (1 : Int32)) rfl (pc' := 239) rfl ?_
      refine ggoto B X288 (pc' := 243) at_239 (by decide) ?_
      exact gretN B X288 (z' := (1 : Int32)) (by simp) (rfl) at_243 (by decide) (by decide) (rfl)
    · skip
      refine gaload B X211 at_117 rfl rfl (pc' := 119) rfl ?_
      refine gaload B X211 at_119 rfl rfl (pc' := 121) rfl ?_
      refine giload B X211 at_121 rfl (pc' := 123) rfl ?_
      refine giconst B X211 at_123 (v := (0 : Int32)) rfl (pc' := 124) rfl ?_
      refine giloadN B X211 at_124 rfl (pc' := 125) rfl ?_
      refine giloadN B X211 at_125 rfl (pc' := 126) rfl ?_
      refine giload B X211 at_126 rfl (pc' := 128) rfl ?_
      refine gcallS B X211 (hw _ (List.mem_of_getElem? (i := 1) rfl)) (hw _ (List.mem_of_getElem? (i := 2) rfl)) (hw _ (List.mem_of_getElem? (i := 3) rfl)) (hw _ (List.mem_of_getElem? (i := 4) rfl)) (by decide) (mt1_no l Z a0 hw a160 a153 (3 : Int32) (0 : Int32) p1 p2 qm (0 : Int32) [] 0 h210 F214 rfl (by decide) (by decide)) pd___B_BIIIII_V rfl (argsL := [(.ref a160), (.ref a153), (.int (3 : Int32)), (.int (0 : Int32)), (.int p1), (.int p2), (.int qm)]) (st := []) rfl rfl (W := 0) (Nat.le_of_eq rfl) (by decide) (by decide) (by decide) (by decide) (fun x q => nomatch q) at_128 (pc' := 131) rfl (pureV rfl rfl fun T290 X291 => ?_)
      refine gaload B X291 at_131 rfl rfl (pc' := 133) rfl ?_
      refine gaload B X291 at_133 rfl rfl (pc' := 135) rfl ?_
      refine giload B X291 at_135 rfl (pc' := 137) rfl ?_
      refine giconst B X291 at_137 (v := (1 : Int32)) rfl (pc' := 138) rfl ?_
      refine giloadN B X291 at_138 rfl (pc' := 139) rfl ?_
      refine giloadN B X291 at_139 rfl (pc' := 140) rfl ?_
      refine giload B X291 at_140 rfl (pc' := 142) rfl ?_
      refine gcallS B X291 (hw _ (List.mem_of_getElem? (i := 1) rfl)) (hw _ (List.mem_of_getElem? (i := 2) rfl)) (hw _ (List.mem_of_getElem? (i := 3) rfl)) (hw _ (List.mem_of_getElem? (i := 4) rfl)) (by decide) (mt1_no l Z a0 hw a160 a153 (3 : Int32) (1 : Int32) p1 p2 qm (0 : Int32) [] 0 h210 F214 rfl (by decide) (by decide)) pd___B_BIIIII_V rfl (argsL := [(.ref a160), (.ref a153), (.int (3 : Int32)), (.int (1 : Int32)), (.int p1), (.int p2), (.int qm)]) (st := []) rfl rfl (W := 0) (Nat.le_of_eq rfl) (by decide) (by decide) (by decide) (by decide) (fun x q => nomatch q) at_142 (pc' := 145) rfl (pureV rfl rfl fun T292 X293 => ?_)
      refine gaload B X293 at_145 rfl rfl (pc' := 147) rfl ?_
      refine gaload B X293 at_147 rfl rfl (pc' := 149) rfl ?_
      refine giload B X293 at_149 rfl (pc' := 151) rfl ?_
      refine giconst B X293 at_151 (v := (2 : Int32)) rfl (pc' := 152) rfl ?_
      refine giloadN B X293 at_152 rfl (pc' := 153) rfl ?_
      refine giloadN B X293 at_153 rfl (pc' := 154) rfl ?_
      refine giload B X293 at_154 rfl (pc' := 156) rfl ?_
      refine gcallS B X293 (hw _ (List.mem_of_getElem? (i := 1) rfl)) (hw _ (List.mem_of_getElem? (i := 2) rfl)) (hw _ (List.mem_of_getElem? (i := 3) rfl)) (hw _ (List.mem_of_getElem? (i := 4) rfl)) (by decide) (mt1_no l Z a0 hw a160 a153 (3 : Int32) (2 : Int32) p1 p2 qm (0 : Int32) [] 0 h210 F214 rfl (by decide) (by decide)) pd___B_BIIIII_V rfl (argsL := [(.ref a160), (.ref a153), (.int (3 : Int32)), (.int (2 : Int32)), (.int p1), (.int p2), (.int qm)]) (st := []) rfl rfl (W := 0) (Nat.le_of_eq rfl) (by decide) (by decide) (by decide) (by decide) (fun x q => nomatch q) at_156 (pc' := 159) rfl (pureV rfl rfl fun T294 X295 => ?_)
      refine gaload B X295 at_159 rfl rfl (pc' := 161) rfl ?_
      refine gaload B X295 at_161 rfl rfl (pc' := 163) rfl ?_
      refine giload B X295 at_163 rfl (pc' := 165) rfl ?_
      refine giconst B X295 at_165 (v := (3 : Int32)) rfl (pc' := 166) rfl ?_
      refine giloadN B X295 at_166 rfl (pc' := 167) rfl ?_
      refine giloadN B X295 at_167 rfl (pc' := 168) rfl ?_
      refine giload B X295 at_168 rfl (pc' := 170) rfl ?_
      refine gcallS B X295 (hw _ (List.mem_of_getElem? (i := 1) rfl)) (hw _ (List.mem_of_getElem? (i := 2) rfl)) (hw _ (List.mem_of_getElem? (i := 3) rfl)) (hw _ (List.mem_of_getElem? (i := 4) rfl)) (by decide) (mt1_no l Z a0 hw a160 a153 (3 : Int32) (3 : Int32) p1 p2 qm (0 : Int32) [] 0 h210 F214 rfl (by decide) (by decide)) pd___B_BIIIII_V rfl (argsL := [(.ref a160), (.ref a153), (.int (3 : Int32)), (.int (3 : Int32)), (.int p1), (.int p2), (.int qm)]) (st := []) rfl rfl (W := 0) (Nat.le_of_eq rfl) (by decide) (by decide) (by decide) (by decide) (fun x q => nomatch q) at_170 (pc' := 173) rfl (pureV rfl rfl fun T296 X297 => ?_)
      refine joinG B X297 (F := fun z => (mkF m 222 #[.val (.long p0), .second, .val (.int p1), .val (.int p2), .val (.int p3), .val (.int (0 : Int32)), .val (.int (3 : Int32)), .val (.int qm), .val (.ref a153), .val (.ref a160), .unset] [(.int z)])) (r := (oE (0 : Int32) qm)) (fun J => ?_) ?_
      · refine giconst B X297 at_173 (v := (0 : Int32)) rfl (pc' := 174) rfl ?_
        refine giload B X297 at_174 rfl (pc' := 176) rfl ?_
        refine giload B X297 at_176 rfl (pc' := 178) rfl ?_
        refine gcallS B X297 (hw _ (List.mem_of_getElem? (i := 5) rfl)) (hw _ (List.mem_of_getElem? (i := 6) rfl)) (hw _ (List.mem_of_getElem? (i := 3) rfl)) (hw _ (List.mem_of_getElem? (i := 7) rfl)) (by decide) (mt2 l Z a0 hw (0 : Int32) (0 : Int32) qm  h210 ) pd__III_Z rfl (argsL := [(.int (0 : Int32)), (.int (0 : Int32)), (.int qm)]) (st := []) rfl rfl (W := 0) (Nat.le_of_eq rfl) (by decide) (by decide) (by decide) (by decide) (fun x q => nomatch q) at_178 (pc' := 181) rfl (pureG rfl rfl fun T298 X299 => ?_)
        by_cases c181_300 : (f2 (0 : Int32) (0 : Int32) qm) = (0 : Int32)
        · refine gifY B X299 (pc' := 221) at_181 ((if0 _ _).trans (teq c181_300).1) (by decide) ?_
          refine giconst B X299 at_221 (v := (0 : Int32)) rfl (pc' := 222) rfl ?_
          have e_J : (oE (0 : Int32) qm) = (0 : Int32) := by rw [oE, if_pos c181_300]
          rw [e_J] at J
          exact J _ X299
        · refine gifN B X299 at_181 ((if0 _ _).trans (feq c181_300).1) (pc' := 184) rfl ?_
          refine giconst B X299 at_184 (v := (1 : Int32)) rfl (pc' := 185) rfl ?_
          refine giload B X299 at_185 rfl (pc' := 187) rfl ?_
          refine giload B X299 at_187 rfl (pc' := 189) rfl ?_
          refine gcallS B X299 (hw _ (List.mem_of_getElem? (i := 5) rfl)) (hw _ (List.mem_of_getElem? (i := 6) rfl)) (hw _ (List.mem_of_getElem? (i := 3) rfl)) (hw _ (List.mem_of_getElem? (i := 7) rfl)) (by decide) (mt2 l Z a0 hw (1 : Int32) (0 : Int32) qm  h210 ) pd__III_Z rfl (argsL := [(.int (1 : Int32)), (.int (0 : Int32)), (.int qm)]) (st := []) rfl rfl (W := 0) (Nat.le_of_eq rfl) (by decide) (by decide) (by decide) (by decide) (fun x q => nomatch q) at_189 (pc' := 192) rfl (pureG rfl rfl fun T301 X302 => ?_)
          by_cases c192_303 : (f2 (1 : Int32) (0 : Int32) qm) = (0 : Int32)
          · refine gifY B X302 (pc' := 221) at_192 ((if0 _ _).trans (teq c192_303).1) (by decide) ?_
            refine giconst B X302 at_221 (v := (0 : Int32)) rfl (pc' := 222) rfl ?_
            have e_J : (oE (0 : Int32) qm) = (0 : Int32) := by rw [oE, if_neg c181_300, if_pos c192_303]
            rw [e_J] at J
            exact J _ X302
          · refine gifN B X302 at_192 ((if0 _ _).trans (feq c192_303).1) (pc' := 195) rfl ?_
            refine giconst B X302 at_195 (v := (2 : Int32)) rfl (pc' := 196) rfl ?_
            refine giload B X302 at_196 rfl (pc' := 198) rfl ?_
            refine giload B X302 at_198 rfl (pc' := 200) rfl ?_
            refine gcallS B X302 (hw _ (List.mem_of_getElem? (i := 5) rfl)) (hw _ (List.mem_of_getElem? (i := 6) rfl)) (hw _ (List.mem_of_getElem? (i := 3) rfl)) (hw _ (List.mem_of_getElem? (i := 7) rfl)) (by decide) (mt2 l Z a0 hw (2 : Int32) (0 : Int32) qm  h210 ) pd__III_Z rfl (argsL := [(.int (2 : Int32)), (.int (0 : Int32)), (.int qm)]) (st := []) rfl rfl (W := 0) (Nat.le_of_eq rfl) (by decide) (by decide) (by decide) (by decide) (fun x q => nomatch q) at_200 (pc' := 203) rfl (pureG rfl rfl fun T304 X305 => ?_)
            by_cases c203_306 : (f2 (2 : Int32) (0 : Int32) qm) = (0 : Int32)
            · refine gifY B X305 (pc' := 221) at_203 ((if0 _ _).trans (teq c203_306).1) (by decide) ?_
              refine giconst B X305 at_221 (v := (0 : Int32)) rfl (pc' := 222) rfl ?_
              have e_J : (oE (0 : Int32) qm) = (0 : Int32) := by rw [oE, if_neg c181_300, if_neg c192_303, if_pos c203_306]
              rw [e_J] at J
              exact J _ X305
            · refine gifN B X305 at_203 ((if0 _ _).trans (feq c203_306).1) (pc' := 206) rfl ?_
              refine giconst B X305 at_206 (v := (3 : Int32)) rfl (pc' := 207) rfl ?_
              refine giload B X305 at_207 rfl (pc' := 209) rfl ?_
              refine giload B X305 at_209 rfl (pc' := 211) rfl ?_
              refine gcallS B X305 (hw _ (List.mem_of_getElem? (i := 5) rfl)) (hw _ (List.mem_of_getElem? (i := 6) rfl)) (hw _ (List.mem_of_getElem? (i := 3) rfl)) (hw _ (List.mem_of_getElem? (i := 7) rfl)) (by decide) (mt2 l Z a0 hw (3 : Int32) (0 : Int32) qm  h210 ) pd__III_Z rfl (argsL := [(.int (3 : Int32)), (.int (0 : Int32)), (.int qm)]) (st := []) rfl rfl (W := 0) (Nat.le_of_eq rfl) (by decide) (by decide) (by decide) (by decide) (fun x q => nomatch q) at_211 (pc' := 214) rfl (pureG rfl rfl fun T307 X308 => ?_)
              by_cases c214_309 : (f2 (3 : Int32) (0 : Int32) qm) = (0 : Int32)
              · refine gifY B X308 (pc' := 221) at_214 ((if0 _ _).trans (teq c214_309).1) (by decide) ?_
                refine giconst B X308 at_221 (v := (0 : Int32)) rfl (pc' := 222) rfl ?_
                have e_J : (oE (0 : Int32) qm) = (0 : Int32) := by rw [oE, if_neg c181_300, if_neg c192_303, if_neg c203_306, if_pos c214_309]
                rw [e_J] at J
                exact J _ X308
              · refine gifN B X308 at_214 ((if0 _ _).trans (feq c214_309).1) (pc' := 217) rfl ?_
                refine giconst B X308 at_217 (v := (1 : Int32)) rfl (pc' := 218) rfl ?_
                refine ggoto B X308 (pc' := 222) at_218 (by decide) ?_
                have e_J : (oE (0 : Int32) qm) = (1 : Int32) := by rw [oE, if_neg c181_300, if_neg c192_303, if_neg c203_306, if_neg c214_309]
                rw [e_J] at J
                exact J _ X308
      intro T310 X311
      show Go p e below s _ _ _ _ _ T310 (mkF m 222 #[.val (.long p0), .second, .val (.int p1), .val (.int p2), .val (.int p3), .val (.int (0 : Int32)), .val (.int (3 : Int32)), .val (.int qm), .val (.ref a153), .val (.ref a160), .unset] [(.int (oE (0 : Int32) qm))])
      refine gistore B X311 at_222 (Ls' := #[.val (.long p0), .second, .val (.int p1), .val (.int p2), .val (.int p3), .val (.int (0 : Int32)), .val (.int (3 : Int32)), .val (.int qm), .val (.ref a153), .val (.ref a160), .val (.int (oE (0 : Int32) qm))]) rfl (pc' := 224) rfl ?_
      refine gaload B X311 at_224 rfl rfl (pc' := 226) rfl ?_
      refine giload B X311 at_226 rfl (pc' := 228) rfl ?_
      refine gaload B X311 at_228 rfl rfl (pc' := 230) rfl ?_
      refine gcallS B X311 (hw _ (List.mem_of_getElem? (i := 8) rfl)) (hw _ (List.mem_of_getElem? (i := 9) rfl)) (hw _ (List.mem_of_getElem? (i := 10) rfl)) (hw _ (List.mem_of_getElem? (i := 11) rfl)) (by decide) (mt3_0 l Z a0 hw a160 (3 : Int32) a153 [(.int b0), (.int b1), (.int b2), (.int b3), (.int b4), (.int b5), (.int b6), (.int b7)]  h210 A213 rfl F214 ) pd___BI_B_Z rfl (argsL := [(.ref a160), (.int (3 : Int32)), (.ref a153)]) (st := []) rfl rfl (W := 0) (Nat.le_of_eq rfl) (by decide) (by decide) (by decide) (by decide) (fun x q => nomatch q) at_230 (pc' := 233) rfl (pureG rfl rfl fun T312 X313 => ?_)
      refine giload B X313 at_233 rfl (pc' := 235) rfl ?_
      have c235_314 : (f3_0 ) = (oE (0 : Int32) qm) := own_fin0 p1 p2 qm
      refine gicN B X313 at_235 (teq c235_314).2 (pc' := 238) rfl ?_
      refine giconst B X313 at_238 (v := (1 : Int32)) rfl (pc' := 239) rfl ?_
      refine ggoto B X313 (pc' := 243) at_239 (by decide) ?_
      exact gretN B X313 (z' := (1 : Int32)) (by simp) (rfl) at_243 (by decide) (by decide) (rfl)
  · rw [e_w]
    refine gistore B X at_7 (Ls' := #[.val (.long p0), .second, .val (.int p1), .val (.int p2), .val (.int p3), .val (.int (1 : Int32)), .unset, .unset, .unset, .unset, .unset]) rfl (pc' := 9) rfl ?_
    refine giload B X at_9 rfl (pc' := 11) rfl ?_
    refine giconst B X at_11 (v := (3 : Int32)) rfl (pc' := 12) rfl ?_
    refine giushr B X at_12 rfl (pc' := 13) rfl ?_
    refine giconst B X at_13 (v := (3 : Int32)) rfl (pc' := 14) rfl ?_
    refine giand B X at_14 rfl (pc' := 15) rfl ?_
    generalize e_qfr : (((p3.toUInt32 >>> ((3 : Int32) &&& 31).toUInt32).toInt32) &&& (3 : Int32)) = qfr
    refine gistore B X at_15 (Ls' := #[.val (.long p0), .second, .val (.int p1), .val (.int p2), .val (.int p3), .val (.int (1 : Int32)), .val (.int qfr), .unset, .unset, .unset, .unset]) rfl (pc' := 17) rfl ?_
    have hfr := own_and3 ((p3.toUInt32 >>> ((3 : Int32) &&& 31).toUInt32).toInt32); rw [e_qfr] at hfr; clear e_qfr
    refine giload B X at_17 rfl (pc' := 19) rfl ?_
    refine giconst B X at_19 (v := (5 : Int32)) rfl (pc' := 20) rfl ?_
    refine giushr B X at_20 rfl (pc' := 21) rfl ?_
    refine gbipush B X at_21 (v := (15 : Int32)) rfl (pc' := 23) rfl ?_
    refine giand B X at_23 rfl (pc' := 24) rfl ?_
    generalize e_qm : (((p3.toUInt32 >>> ((5 : Int32) &&& 31).toUInt32).toInt32) &&& (15 : Int32)) = qm
    refine gistore B X at_24 (Ls' := #[.val (.long p0), .second, .val (.int p1), .val (.int p2), .val (.int p3), .val (.int (1 : Int32)), .val (.int qfr), .val (.int qm), .unset, .unset, .unset]) rfl (pc' := 26) rfl ?_
    clear e_qm
    refine giload B X at_26 rfl (pc' := 28) rfl ?_
    refine gnewarray B X (cap := 1) (vs := [(.int (0 : Int32))]) (ty := .byte) rfl rfl (hw _ (List.mem_of_getElem? (i := 0) rfl)) (by decide) (by decide) (by decide) (by decide) (by decide) at_28 (pc' := 30) rfl fun T315 h316 a317 X318 q319 E320 z_a317 A321 => ?_
    refine gastore B X318 at_30 rfl (Ls' := #[.val (.long p0), .second, .val (.int p1), .val (.int p2), .val (.int p3), .val (.int (1 : Int32)), .val (.int qfr), .val (.int qm), .val (.ref a317), .unset, .unset]) rfl (pc' := 32) rfl ?_
    refine gbipush B X318 at_32 (v := (8 : Int32)) rfl (pc' := 34) rfl ?_
    refine gnewarray B X318 (cap := 8) (vs := [(.int (0 : Int32)), (.int (0 : Int32)), (.int (0 : Int32)), (.int (0 : Int32)), (.int (0 : Int32)), (.int (0 : Int32)), (.int (0 : Int32)), (.int (0 : Int32))]) (ty := .byte) rfl rfl (hw _ (List.mem_of_getElem? (i := 0) rfl)) (by decide) (by decide) (by decide) (by decide) (by decide) at_34 (pc' := 36) rfl fun T322 h323 a324 X325 q326 E327 z_a324 A328 => ?_
    have n329 : a317 ≠ a324 := by rw [q326]; exact Nat.ne_of_lt A321.lt
    have F330 := A321.ext E327
    refine gastore B X325 at_36 rfl (Ls' := #[.val (.long p0), .second, .val (.int p1), .val (.int p2), .val (.int p3), .val (.int (1 : Int32)), .val (.int qfr), .val (.int qm), .val (.ref a317), .val (.ref a324), .unset]) rfl (pc' := 38) rfl ?_
    refine gaload B X325 at_38 rfl rfl (pc' := 40) rfl ?_
    refine giconst B X325 at_40 (v := (0 : Int32)) rfl (pc' := 41) rfl ?_
    refine glloadN B X325 at_41 rfl (pc' := 42) rfl ?_
    refine gl2i B X325 at_42 rfl (pc' := 43) rfl ?_
    refine gi2b B X325 at_43 rfl (pc' := 44) rfl ?_
    refine gbastore B X325 (i := 0) (n := 8) A328 rfl (by decide) rfl (vs' := [(.int p0.toInt32.toInt8.toInt32), (.int (0 : Int32)), (.int (0 : Int32)), (.int (0 : Int32)), (.int (0 : Int32)), (.int (0 : Int32)), (.int (0 : Int32)), (.int (0 : Int32))]) (by rw [Jvm.OwnKit.nbb]; rfl) (Or.inr z_a324) at_44 (pc' := 45) rfl fun T331 h332 X333 W334 A335 => ?_
    have F336 := F330.other W334 n329
    refine gaload B X333 at_45 rfl rfl (pc' := 47) rfl ?_
    refine giconst B X333 at_47 (v := (1 : Int32)) rfl (pc' := 48) rfl ?_
    refine glloadN B X333 at_48 rfl (pc' := 49) rfl ?_
    refine gbipush B X333 at_49 (v := (8 : Int32)) rfl (pc' := 51) rfl ?_
    refine glushr B X333 at_51 rfl (pc' := 52) rfl ?_
    refine gl2i B X333 at_52 rfl (pc' := 53) rfl ?_
    refine gi2b B X333 at_53 rfl (pc' := 54) rfl ?_
    refine gbastore B X333 (i := 1) (n := 8) A335 rfl (by decide) rfl (vs' := [(.int p0.toInt32.toInt8.toInt32), (.int ((p0.toUInt64 >>> ((8 : Int32) &&& 0x3f).toInt64.toUInt64).toInt64).toInt32.toInt8.toInt32), (.int (0 : Int32)), (.int (0 : Int32)), (.int (0 : Int32)), (.int (0 : Int32)), (.int (0 : Int32)), (.int (0 : Int32))]) (by rw [Jvm.OwnKit.nbb]; rfl) (Or.inr z_a324) at_54 (pc' := 55) rfl fun T337 h338 X339 W340 A341 => ?_
    have F342 := F336.other W340 n329
    refine gaload B X339 at_55 rfl rfl (pc' := 57) rfl ?_
    refine giconst B X339 at_57 (v := (2 : Int32)) rfl (pc' := 58) rfl ?_
    refine glloadN B X339 at_58 rfl (pc' := 59) rfl ?_
    refine gbipush B X339 at_59 (v := (16 : Int32)) rfl (pc' := 61) rfl ?_
    refine glushr B X339 at_61 rfl (pc' := 62) rfl ?_
    refine gl2i B X339 at_62 rfl (pc' := 63) rfl ?_
    refine gi2b B X339 at_63 rfl (pc' := 64) rfl ?_
    refine gbastore B X339 (i := 2) (n := 8) A341 rfl (by decide) rfl (vs' := [(.int p0.toInt32.toInt8.toInt32), (.int ((p0.toUInt64 >>> ((8 : Int32) &&& 0x3f).toInt64.toUInt64).toInt64).toInt32.toInt8.toInt32), (.int ((p0.toUInt64 >>> ((16 : Int32) &&& 0x3f).toInt64.toUInt64).toInt64).toInt32.toInt8.toInt32), (.int (0 : Int32)), (.int (0 : Int32)), (.int (0 : Int32)), (.int (0 : Int32)), (.int (0 : Int32))]) (by rw [Jvm.OwnKit.nbb]; rfl) (Or.inr z_a324) at_64 (pc' := 65) rfl fun T343 h344 X345 W346 A347 => ?_
    have F348 := F342.other W346 n329
    refine gaload B X345 at_65 rfl rfl (pc' := 67) rfl ?_
    refine giconst B X345 at_67 (v := (3 : Int32)) rfl (pc' := 68) rfl ?_
    refine glloadN B X345 at_68 rfl (pc' := 69) rfl ?_
    refine gbipush B X345 at_69 (v := (24 : Int32)) rfl (pc' := 71) rfl ?_
    refine glushr B X345 at_71 rfl (pc' := 72) rfl ?_
    refine gl2i B X345 at_72 rfl (pc' := 73) rfl ?_
    refine gi2b B X345 at_73 rfl (pc' := 74) rfl ?_
    refine gbastore B X345 (i := 3) (n := 8) A347 rfl (by decide) rfl (vs' := [(.int p0.toInt32.toInt8.toInt32), (.int ((p0.toUInt64 >>> ((8 : Int32) &&& 0x3f).toInt64.toUInt64).toInt64).toInt32.toInt8.toInt32), (.int ((p0.toUInt64 >>> ((16 : Int32) &&& 0x3f).toInt64.toUInt64).toInt64).toInt32.toInt8.toInt32), (.int ((p0.toUInt64 >>> ((24 : Int32) &&& 0x3f).toInt64.toUInt64).toInt64).toInt32.toInt8.toInt32), (.int (0 : Int32)), (.int (0 : Int32)), (.int (0 : Int32)), (.int (0 : Int32))]) (by rw [Jvm.OwnKit.nbb]; rfl) (Or.inr z_a324) at_74 (pc' := 75) rfl fun T349 h350 X351 W352 A353 => ?_
    have F354 := F348.other W352 n329
    refine gaload B X351 at_75 rfl rfl (pc' := 77) rfl ?_
    refine giconst B X351 at_77 (v := (4 : Int32)) rfl (pc' := 78) rfl ?_
    refine glloadN B X351 at_78 rfl (pc' := 79) rfl ?_
    refine gbipush B X351 at_79 (v := (32 : Int32)) rfl (pc' := 81) rfl ?_
    refine glushr B X351 at_81 rfl (pc' := 82) rfl ?_
    refine gl2i B X351 at_82 rfl (pc' := 83) rfl ?_
    refine gi2b B X351 at_83 rfl (pc' := 84) rfl ?_
    refine gbastore B X351 (i := 4) (n := 8) A353 rfl (by decide) rfl (vs' := [(.int p0.toInt32.toInt8.toInt32), (.int ((p0.toUInt64 >>> ((8 : Int32) &&& 0x3f).toInt64.toUInt64).toInt64).toInt32.toInt8.toInt32), (.int ((p0.toUInt64 >>> ((16 : Int32) &&& 0x3f).toInt64.toUInt64).toInt64).toInt32.toInt8.toInt32), (.int ((p0.toUInt64 >>> ((24 : Int32) &&& 0x3f).toInt64.toUInt64).toInt64).toInt32.toInt8.toInt32), (.int ((p0.toUInt64 >>> ((32 : Int32) &&& 0x3f).toInt64.toUInt64).toInt64).toInt32.toInt8.toInt32), (.int (0 : Int32)), (.int (0 : Int32)), (.int (0 : Int32))]) (by rw [Jvm.OwnKit.nbb]; rfl) (Or.inr z_a324) at_84 (pc' := 85) rfl fun T355 h356 X357 W358 A359 => ?_
    have F360 := F354.other W358 n329
    refine gaload B X357 at_85 rfl rfl (pc' := 87) rfl ?_
    refine giconst B X357 at_87 (v := (5 : Int32)) rfl (pc' := 88) rfl ?_
    refine glloadN B X357 at_88 rfl (pc' := 89) rfl ?_
    refine gbipush B X357 at_89 (v := (40 : Int32)) rfl (pc' := 91) rfl ?_
    refine glushr B X357 at_91 rfl (pc' := 92) rfl ?_
    refine gl2i B X357 at_92 rfl (pc' := 93) rfl ?_
    refine gi2b B X357 at_93 rfl (pc' := 94) rfl ?_
    refine gbastore B X357 (i := 5) (n := 8) A359 rfl (by decide) rfl (vs' := [(.int p0.toInt32.toInt8.toInt32), (.int ((p0.toUInt64 >>> ((8 : Int32) &&& 0x3f).toInt64.toUInt64).toInt64).toInt32.toInt8.toInt32), (.int ((p0.toUInt64 >>> ((16 : Int32) &&& 0x3f).toInt64.toUInt64).toInt64).toInt32.toInt8.toInt32), (.int ((p0.toUInt64 >>> ((24 : Int32) &&& 0x3f).toInt64.toUInt64).toInt64).toInt32.toInt8.toInt32), (.int ((p0.toUInt64 >>> ((32 : Int32) &&& 0x3f).toInt64.toUInt64).toInt64).toInt32.toInt8.toInt32), (.int ((p0.toUInt64 >>> ((40 : Int32) &&& 0x3f).toInt64.toUInt64).toInt64).toInt32.toInt8.toInt32), (.int (0 : Int32)), (.int (0 : Int32))]) (by rw [Jvm.OwnKit.nbb]; rfl) (Or.inr z_a324) at_94 (pc' := 95) rfl fun T361 h362 X363 W364 A365 => ?_
    have F366 := F360.other W364 n329
    refine gaload B X363 at_95 rfl rfl (pc' := 97) rfl ?_
    refine gbipush B X363 at_97 (v := (6 : Int32)) rfl (pc' := 99) rfl ?_
    refine glloadN B X363 at_99 rfl (pc' := 100) rfl ?_
    refine gbipush B X363 at_100 (v := (48 : Int32)) rfl (pc' := 102) rfl ?_
    refine glushr B X363 at_102 rfl (pc' := 103) rfl ?_
    refine gl2i B X363 at_103 rfl (pc' := 104) rfl ?_
    refine gi2b B X363 at_104 rfl (pc' := 105) rfl ?_
    refine gbastore B X363 (i := 6) (n := 8) A365 rfl (by decide) rfl (vs' := [(.int p0.toInt32.toInt8.toInt32), (.int ((p0.toUInt64 >>> ((8 : Int32) &&& 0x3f).toInt64.toUInt64).toInt64).toInt32.toInt8.toInt32), (.int ((p0.toUInt64 >>> ((16 : Int32) &&& 0x3f).toInt64.toUInt64).toInt64).toInt32.toInt8.toInt32), (.int ((p0.toUInt64 >>> ((24 : Int32) &&& 0x3f).toInt64.toUInt64).toInt64).toInt32.toInt8.toInt32), (.int ((p0.toUInt64 >>> ((32 : Int32) &&& 0x3f).toInt64.toUInt64).toInt64).toInt32.toInt8.toInt32), (.int ((p0.toUInt64 >>> ((40 : Int32) &&& 0x3f).toInt64.toUInt64).toInt64).toInt32.toInt8.toInt32), (.int ((p0.toUInt64 >>> ((48 : Int32) &&& 0x3f).toInt64.toUInt64).toInt64).toInt32.toInt8.toInt32), (.int (0 : Int32))]) (by rw [Jvm.OwnKit.nbb]; rfl) (Or.inr z_a324) at_105 (pc' := 106) rfl fun T367 h368 X369 W370 A371 => ?_
    have F372 := F366.other W370 n329
    refine gaload B X369 at_106 rfl rfl (pc' := 108) rfl ?_
    refine gbipush B X369 at_108 (v := (7 : Int32)) rfl (pc' := 110) rfl ?_
    refine glloadN B X369 at_110 rfl (pc' := 111) rfl ?_
    refine gbipush B X369 at_111 (v := (56 : Int32)) rfl (pc' := 113) rfl ?_
    refine glushr B X369 at_113 rfl (pc' := 114) rfl ?_
    refine gl2i B X369 at_114 rfl (pc' := 115) rfl ?_
    refine gi2b B X369 at_115 rfl (pc' := 116) rfl ?_
    refine gbastore B X369 (i := 7) (n := 8) A371 rfl (by decide) rfl (vs' := [(.int p0.toInt32.toInt8.toInt32), (.int ((p0.toUInt64 >>> ((8 : Int32) &&& 0x3f).toInt64.toUInt64).toInt64).toInt32.toInt8.toInt32), (.int ((p0.toUInt64 >>> ((16 : Int32) &&& 0x3f).toInt64.toUInt64).toInt64).toInt32.toInt8.toInt32), (.int ((p0.toUInt64 >>> ((24 : Int32) &&& 0x3f).toInt64.toUInt64).toInt64).toInt32.toInt8.toInt32), (.int ((p0.toUInt64 >>> ((32 : Int32) &&& 0x3f).toInt64.toUInt64).toInt64).toInt32.toInt8.toInt32), (.int ((p0.toUInt64 >>> ((40 : Int32) &&& 0x3f).toInt64.toUInt64).toInt64).toInt32.toInt8.toInt32), (.int ((p0.toUInt64 >>> ((48 : Int32) &&& 0x3f).toInt64.toUInt64).toInt64).toInt32.toInt8.toInt32), (.int ((p0.toUInt64 >>> ((56 : Int32) &&& 0x3f).toInt64.toUInt64).toInt64).toInt32.toInt8.toInt32)]) (by rw [Jvm.OwnKit.nbb]; rfl) (Or.inr z_a324) at_116 (pc' := 117) rfl fun T373 h374 X375 W376 A377 => ?_
    have F378 := F372.other W376 n329
    generalize p0.toInt32.toInt8.toInt32 = b0 at A377 ⊢
    generalize ((p0.toUInt64 >>> ((8 : Int32) &&& 0x3f).toInt64.toUInt64).toInt64).toInt32.toInt8.toInt32 = b1 at A377 ⊢
    generalize ((p0.toUInt64 >>> ((16 : Int32) &&& 0x3f).toInt64.toUInt64).toInt64).toInt32.toInt8.toInt32 = b2 at A377 ⊢
    generalize ((p0.toUInt64 >>> ((24 : Int32) &&& 0x3f).toInt64.toUInt64).toInt64).toInt32.toInt8.toInt32 = b3 at A377 ⊢
    generalize ((p0.toUInt64 >>> ((32 : Int32) &&& 0x3f).toInt64.toUInt64).toInt64).toInt32.toInt8.toInt32 = b4 at A377 ⊢
    generalize ((p0.toUInt64 >>> ((40 : Int32) &&& 0x3f).toInt64.toUInt64).toInt64).toInt32.toInt8.toInt32 = b5 at A377 ⊢
    generalize ((p0.toUInt64 >>> ((48 : Int32) &&& 0x3f).toInt64.toUInt64).toInt64).toInt32.toInt8.toInt32 = b6 at A377 ⊢
    generalize ((p0.toUInt64 >>> ((56 : Int32) &&& 0x3f).toInt64.toUInt64).toInt64).toInt32.toInt8.toInt32 = b7 at A377 ⊢
    rcases hfr with rfl | rfl | rfl | rfl
    · skip
      refine gaload B X375 at_117 rfl rfl (pc' := 119) rfl ?_
      refine gaload B X375 at_119 rfl rfl (pc' := 121) rfl ?_
      refine giload B X375 at_121 rfl (pc' := 123) rfl ?_
      refine giconst B X375 at_123 (v := (0 : Int32)) rfl (pc' := 124) rfl ?_
      refine giloadN B X375 at_124 rfl (pc' := 125) rfl ?_
      refine giloadN B X375 at_125 rfl (pc' := 126) rfl ?_
      refine giload B X375 at_126 rfl (pc' := 128) rfl ?_
      refine gcallS B X375 (hw _ (List.mem_of_getElem? (i := 1) rfl)) (hw _ (List.mem_of_getElem? (i := 2) rfl)) (hw _ (List.mem_of_getElem? (i := 3) rfl)) (hw _ (List.mem_of_getElem? (i := 4) rfl)) (by decide) (mt1_0 l Z a0 hw a324 a317 (0 : Int32) p1 p2 qm (1 : Int32) [(.int b0), (.int b1), (.int b2), (.int b3), (.int b4), (.int b5), (.int b6), (.int b7)] [(.int (0 : Int32))] 0 1 h374 A377 F378 (Ne.symm n329) rfl rfl (by decide) (by decide) (by decide) (by decide) rfl) pd___B_BIIIII_V rfl (argsL := [(.ref a324), (.ref a317), (.int (0 : Int32)), (.int (0 : Int32)), (.int p1), (.int p2), (.int qm)]) (st := []) rfl rfl (W := 0) (Nat.le_of_eq rfl) (by decide) (by decide) (by decide) (by decide) (allS (Or.inr z_a324) (allS (Or.inr z_a317) all0)) at_128 (pc' := 131) rfl fun T379 h380 v381 X382 K383 Q384 => ?_
      obtain ⟨rfl, A385, A386⟩ := Q384
      have A387 : VA Z h380 a324 .byte [(.int (ox0 p1 p2 qm)), (.int b1), (.int b2), (.int b3), (.int b4), (.int b5), (.int b6), (.int b7)] := A385
      have A388 : VA Z h380 a317 .byte [(.int (oc0 p1))] := A386
      show Go p e below s _ _ _ _ _ T379 (mkF m 131 #[.val (.long p0), .second, .val (.int p1), .val (.int p2), .val (.int p3), .val (.int (1 : Int32)), .val (.int (0 : Int32)), .val (.int qm), .val (.ref a317), .val (.ref a324), .unset] [])
      refine gaload B X382 at_131 rfl rfl (pc' := 133) rfl ?_
      refine gaload B X382 at_133 rfl rfl (pc' := 135) rfl ?_
      refine giload B X382 at_135 rfl (pc' := 137) rfl ?_
      refine giconst B X382 at_137 (v := (1 : Int32)) rfl (pc' := 138) rfl ?_
      refine giloadN B X382 at_138 rfl (pc' := 139) rfl ?_
      refine giloadN B X382 at_139 rfl (pc' := 140) rfl ?_
      refine giload B X382 at_140 rfl (pc' := 142) rfl ?_
      refine gcallS B X382 (hw _ (List.mem_of_getElem? (i := 1) rfl)) (hw _ (List.mem_of_getElem? (i := 2) rfl)) (hw _ (List.mem_of_getElem? (i := 3) rfl)) (hw _ (List.mem_of_getElem? (i := 4) rfl)) (by decide) (mt1_no l Z a0 hw a324 a317 (0 : Int32) (1 : Int32) p1 p2 qm (1 : Int32) [(.int (oc0 p1))] 1 h380 A388 rfl (by decide) (by decide)) pd___B_BIIIII_V rfl (argsL := [(.ref a324), (.ref a317), (.int (0 : Int32)), (.int (1 : Int32)), (.int p1), (.int p2), (.int qm)]) (st := []) rfl rfl (W := 0) (Nat.le_of_eq rfl) (by decide) (by decide) (by decide) (by decide) (fun x q => nomatch q) at_142 (pc' := 145) rfl (pureV rfl rfl fun T389 X390 => ?_)
      refine gaload B X390 at_145 rfl rfl (pc' := 147) rfl ?_
      refine gaload B X390 at_147 rfl rfl (pc' := 149) rfl ?_
      refine giload B X390 at_149 rfl (pc' := 151) rfl ?_
      refine giconst B X390 at_151 (v := (2 : Int32)) rfl (pc' := 152) rfl ?_
      refine giloadN B X390 at_152 rfl (pc' := 153) rfl ?_
      refine giloadN B X390 at_153 rfl (pc' := 154) rfl ?_
      refine giload B X390 at_154 rfl (pc' := 156) rfl ?_
      refine gcallS B X390 (hw _ (List.mem_of_getElem? (i := 1) rfl)) (hw _ (List.mem_of_getElem? (i := 2) rfl)) (hw _ (List.mem_of_getElem? (i := 3) rfl)) (hw _ (List.mem_of_getElem? (i := 4) rfl)) (by decide) (mt1_no l Z a0 hw a324 a317 (0 : Int32) (2 : Int32) p1 p2 qm (1 : Int32) [(.int (oc0 p1))] 1 h380 A388 rfl (by decide) (by decide)) pd___B_BIIIII_V rfl (argsL := [(.ref a324), (.ref a317), (.int (0 : Int32)), (.int (2 : Int32)), (.int p1), (.int p2), (.int qm)]) (st := []) rfl rfl (W := 0) (Nat.le_of_eq rfl) (by decide) (by decide) (by decide) (by decide) (fun x q => nomatch q) at_156 (pc' := 159) rfl (pureV rfl rfl fun T391 X392 => ?_)
      refine gaload B X392 at_159 rfl rfl (pc' := 161) rfl ?_
      refine gaload B X392 at_161 rfl rfl (pc' := 163) rfl ?_
      refine giload B X392 at_163 rfl (pc' := 165) rfl ?_
      refine giconst B X392 at_165 (v := (3 : Int32)) rfl (pc' := 166) rfl ?_
      refine giloadN B X392 at_166 rfl (pc' := 167) rfl ?_
      refine giloadN B X392 at_167 rfl (pc' := 168) rfl ?_
      refine giload B X392 at_168 rfl (pc' := 170) rfl ?_
      refine gcallS B X392 (hw _ (List.mem_of_getElem? (i := 1) rfl)) (hw _ (List.mem_of_getElem? (i := 2) rfl)) (hw _ (List.mem_of_getElem? (i := 3) rfl)) (hw _ (List.mem_of_getElem? (i := 4) rfl)) (by decide) (mt1_no l Z a0 hw a324 a317 (0 : Int32) (3 : Int32) p1 p2 qm (1 : Int32) [(.int (oc0 p1))] 1 h380 A388 rfl (by decide) (by decide)) pd___B_BIIIII_V rfl (argsL := [(.ref a324), (.ref a317), (.int (0 : Int32)), (.int (3 : Int32)), (.int p1), (.int p2), (.int qm)]) (st := []) rfl rfl (W := 0) (Nat.le_of_eq rfl) (by decide) (by decide) (by decide) (by decide) (fun x q => nomatch q) at_170 (pc' := 173) rfl (pureV rfl rfl fun T393 X394 => ?_)
      refine joinG B X394 (F := fun z => (mkF m 222 #[.val (.long p0), .second, .val (.int p1), .val (.int p2), .val (.int p3), .val (.int (1 : Int32)), .val (.int (0 : Int32)), .val (.int qm), .val (.ref a317), .val (.ref a324), .unset] [(.int z)])) (r := (oE (1 : Int32) qm)) (fun J => ?_) ?_
      · refine giconst B X394 at_173 (v := (0 : Int32)) rfl (pc' := 174) rfl ?_
        refine giload B X394 at_174 rfl (pc' := 176) rfl ?_
        refine giload B X394 at_176 rfl (pc' := 178) rfl ?_
        refine gcallS B X394 (hw _ (List.mem_of_getElem? (i := 5) rfl)) (hw _ (List.mem_of_getElem? (i := 6) rfl)) (hw _ (List.mem_of_getElem? (i := 3) rfl)) (hw _ (List.mem_of_getElem? (i := 7) rfl)) (by decide) (mt2 l Z a0 hw (0 : Int32) (1 : Int32) qm  h380 ) pd__III_Z rfl (argsL := [(.int (0 : Int32)), (.int (1 : Int32)), (.int qm)]) (st := []) rfl rfl (W := 0) (Nat.le_of_eq rfl) (by decide) (by decide) (by decide) (by decide) (fun x q => nomatch q) at_178 (pc' := 181) rfl (pureG rfl rfl fun T395 X396 => ?_)
        by_cases c181_397 : (f2 (0 : Int32) (1 : Int32) qm) = (0 : Int32)
        · refine gifY B X396 (pc' := 221) at_181 ((if0 _ _).trans (teq c181_397).1) (by decide) ?_
          refine giconst B X396 at_221 (v := (0 : Int32)) rfl (pc' := 222) rfl ?_
          have e_J : (oE (1 : Int32) qm) = (0 : Int32) := by rw [oE, if_pos c181_397]
          rw [e_J] at J
          exact J _ X396
        · refine gifN B X396 at_181 ((if0 _ _).trans (feq c181_397).1) (pc' := 184) rfl ?_
          refine giconst B X396 at_184 (v := (1 : Int32)) rfl (pc' := 185) rfl ?_
          refine giload B X396 at_185 rfl (pc' := 187) rfl ?_
          refine giload B X396 at_187 rfl (pc' := 189) rfl ?_
          refine gcallS B X396 (hw _ (List.mem_of_getElem? (i := 5) rfl)) (hw _ (List.mem_of_getElem? (i := 6) rfl)) (hw _ (List.mem_of_getElem? (i := 3) rfl)) (hw _ (List.mem_of_getElem? (i := 7) rfl)) (by decide) (mt2 l Z a0 hw (1 : Int32) (1 : Int32) qm  h380 ) pd__III_Z rfl (argsL := [(.int (1 : Int32)), (.int (1 : Int32)), (.int qm)]) (st := []) rfl rfl (W := 0) (Nat.le_of_eq rfl) (by decide) (by decide) (by decide) (by decide) (fun x q => nomatch q) at_189 (pc' := 192) rfl (pureG rfl rfl fun T398 X399 => ?_)
          by_cases c192_400 : (f2 (1 : Int32) (1 : Int32) qm) = (0 : Int32)
          · refine gifY B X399 (pc' := 221) at_192 ((if0 _ _).trans (teq c192_400).1) (by decide) ?_
            refine giconst B X399 at_221 (v := (0 : Int32)) rfl (pc' := 222) rfl ?_
            have e_J : (oE (1 : Int32) qm) = (0 : Int32) := by rw [oE, if_neg c181_397, if_pos c192_400]
            rw [e_J] at J
            exact J _ X399
          · refine gifN B X399 at_192 ((if0 _ _).trans (feq c192_400).1) (pc' := 195) rfl ?_
            refine giconst B X399 at_195 (v := (2 : Int32)) rfl (pc' := 196) rfl ?_
            refine giload B X399 at_196 rfl (pc' := 198) rfl ?_
            refine giload B X399 at_198 rfl (pc' := 200) rfl ?_
            refine gcallS B X399 (hw _ (List.mem_of_getElem? (i := 5) rfl)) (hw _ (List.mem_of_getElem? (i := 6) rfl)) (hw _ (List.mem_of_getElem? (i := 3) rfl)) (hw _ (List.mem_of_getElem? (i := 7) rfl)) (by decide) (mt2 l Z a0 hw (2 : Int32) (1 : Int32) qm  h380 ) pd__III_Z rfl (argsL := [(.int (2 : Int32)), (.int (1 : Int32)), (.int qm)]) (st := []) rfl rfl (W := 0) (Nat.le_of_eq rfl) (by decide) (by decide) (by decide) (by decide) (fun x q => nomatch q) at_200 (pc' := 203) rfl (pureG rfl rfl fun T401 X402 => ?_)
            by_cases c203_403 : (f2 (2 : Int32) (1 : Int32) qm) = (0 : Int32)
            · refine gifY B X402 (pc' := 221) at_203 ((if0 _ _).trans (teq c203_403).1) (by decide) ?_
              refine giconst B X402 at_221 (v := (0 : Int32)) rfl (pc' := 222) rfl ?_
              have e_J : (oE (1 : Int32) qm) = (0 : Int32) := by rw [oE, if_neg c181_397, if_neg c192_400, if_pos c203_403]
              rw [e_J] at J
              exact J _ X402
            · refine gifN B X402 at_203 ((if0 _ _).trans (feq c203_403).1) (pc' := 206) rfl ?_
              refine giconst B X402 at_206 (v := (3 : Int32)) rfl (pc' := 207) rfl ?_
              refine giload B X402 at_207 rfl (pc' := 209) rfl ?_
              refine giload B X402 at_209 rfl (pc' := 211) rfl ?_
              refine gcallS B X402 (hw _ (List.mem_of_getElem? (i := 5) rfl)) (hw _ (List.mem_of_getElem? (i := 6) rfl)) (hw _ (List.mem_of_getElem? (i := 3) rfl)) (hw _ (List.mem_of_getElem? (i := 7) rfl)) (by decide) (mt2 l Z a0 hw (3 : Int32) (1 : Int32) qm  h380 ) pd__III_Z rfl (argsL := [(.int (3 : Int32)), (.int (1 : Int32)), (.int qm)]) (st := []) rfl rfl (W := 0) (Nat.le_of_eq rfl) (by decide) (by decide) (by decide) (by decide) (fun x q => nomatch q) at_211 (pc' := 214) rfl (pureG rfl rfl fun T404 X405 => ?_)
              by_cases c214_406 : (f2 (3 : Int32) (1 : Int32) qm) = (0 : Int32)
              · refine gifY B X405 (pc' := 221) at_214 ((if0 _ _).trans (teq c214_406).1) (by decide) ?_
                refine giconst B X405 at_221 (v := (0 : Int32)) rfl (pc' := 222) rfl ?_
                have e_J : (oE (1 : Int32) qm) = (0 : Int32) := by rw [oE, if_neg c181_397, if_neg c192_400, if_neg c203_403, if_pos c214_406]
                rw [e_J] at J
                exact J _ X405
              · refine gifN B X405 at_214 ((if0 _ _).trans (feq c214_406).1) (pc' := 217) rfl ?_
                refine giconst B X405 at_217 (v := (1 : Int32)) rfl (pc' := 218) rfl ?_
                refine ggoto B X405 (pc' := 222) at_218 (by decide) ?_
                have e_J : (oE (1 : Int32) qm) = (1 : Int32) := by rw [oE, if_neg c181_397, if_neg c192_400, if_neg c203_403, if_neg c214_406]
                rw [e_J] at J
                exact J _ X405
      intro T407 X408
      show Go p e below s _ _ _ _ _ T407 (mkF m 222 #[.val (.long p0), .second, .val (.int p1), .val (.int p2), .val (.int p3), .val (.int (1 : Int32)), .val (.int (0 : Int32)), .val (.int qm), .val (.ref a317), .val (.ref a324), .unset] [(.int (oE (1 : Int32) qm))])
      refine gistore B X408 at_222 (Ls' := #[.val (.long p0), .second, .val (.int p1), .val (.int p2), .val (.int p3), .val (.int (1 : Int32)), .val (.int (0 : Int32)), .val (.int qm), .val (.ref a317), .val (.ref a324), .val (.int (oE (1 : Int32) qm))]) rfl (pc' := 224) rfl ?_
      refine gaload B X408 at_224 rfl rfl (pc' := 226) rfl ?_
      refine giload B X408 at_226 rfl (pc' := 228) rfl ?_
      refine gaload B X408 at_228 rfl rfl (pc' := 230) rfl ?_
      refine gcallS B X408 (hw _ (List.mem_of_getElem? (i := 8) rfl)) (hw _ (List.mem_of_getElem? (i := 9) rfl)) (hw _ (List.mem_of_getElem? (i := 10) rfl)) (hw _ (List.mem_of_getElem? (i := 11) rfl)) (by decide) (mt3_1 l Z a0 hw a324 (0 : Int32) a317 [(.int (ox0 p1 p2 qm)), (.int b1), (.int b2), (.int b3), (.int b4), (.int b5), (.int b6), (.int b7)] (ox0 p1 p2 qm) (oc0 p1) h380 A387 rfl A388 (by decide) rfl) pd___BI_B_Z rfl (argsL := [(.ref a324), (.int (0 : Int32)), (.ref a317)]) (st := []) rfl rfl (W := 0) (Nat.le_of_eq rfl) (by decide) (by decide) (by decide) (by decide) (fun x q => nomatch q) at_230 (pc' := 233) rfl (pureG rfl rfl fun T409 X410 => ?_)
      refine giload B X410 at_233 rfl (pc' := 235) rfl ?_
      have c235_411 : (f3_1 (ox0 p1 p2 qm) (oc0 p1)) = (oE (1 : Int32) qm) := own_fin1 p1 p2 qm
      refine gicN B X410 at_235 (teq c235_411).2 (pc' := 238) rfl ?_
      refine giconst B X410 at_238 (v := (1 : Int32)) rfl (pc' := 239) rfl ?_
      refine ggoto B X410 (pc' := 243) at_239 (by decide) ?_
      exact gretN B X410 (z' := (1 : Int32)) (by simp) (rfl) at_243 (by decide) (by decide) (rfl)
    · skip
      refine gaload B X375 at_117 rfl rfl (pc' := 119) rfl ?_
      refine gaload B X375 at_119 rfl rfl (pc' := 121) rfl ?_
      refine giload B X375 at_121 rfl (pc' := 123) rfl ?_
      refine giconst B X375 at_123 (v := (0 : Int32)) rfl (pc' := 124) rfl ?_
      refine giloadN B X375 at_124 rfl (pc' := 125) rfl ?_
      refine giloadN B X375 at_125 rfl (pc' := 126) rfl ?_
      refine giload B X375 at_126 rfl (pc' := 128) rfl ?_
      refine gcallS B X375 (hw _ (List.mem_of_getElem? (i := 1) rfl)) (hw _ (List.mem_of_getElem? (i := 2) rfl)) (hw _ (List.mem_of_getElem? (i := 3) rfl)) (hw _ (List.mem_of_getElem? (i := 4) rfl)) (by decide) (mt1_0 l Z a0 hw a324 a317 (1 : Int32) p1 p2 qm (1 : Int32) [(.int b0), (.int b1), (.int b2), (.int b3), (.int b4), (.int b5), (.int b6), (.int b7)] [(.int (0 : Int32))] 1 1 h374 A377 F378 (Ne.symm n329) rfl rfl (by decide) (by decide) (by decide) (by decide) rfl) pd___B_BIIIII_V rfl (argsL := [(.ref a324), (.ref a317), (.int (1 : Int32)), (.int (0 : Int32)), (.int p1), (.int p2), (.int qm)]) (st := []) rfl rfl (W := 0) (Nat.le_of_eq rfl) (by decide) (by decide) (by decide) (by decide) (allS (Or.inr z_a324) (allS (Or.inr z_a317) all0)) at_128 (pc' := 131) rfl fun T412 h413 v414 X415 K416 Q417 => ?_
      obtain ⟨rfl, A418, A419⟩ := Q417
      have A420 : VA Z h413 a324 .byte [(.int b0), (.int (ox0 p1 p2 qm)), (.int b2), (.int b3), (.int b4), (.int b5), (.int b6), (.int b7)] := A418
      have A421 : VA Z h413 a317 .byte [(.int (oc0 p1))] := A419
      show Go p e below s _ _ _ _ _ T412 (mkF m 131 #[.val (.long p0), .second, .val (.int p1), .val (.int p2), .val (.int p3), .val (.int (1 : Int32)), .val (.int (1 : Int32)), .val (.int qm), .val (.ref a317), .val (.ref a324), .unset] [])
      refine gaload B X415 at_131 rfl rfl (pc' := 133) rfl ?_
      refine gaload B X415 at_133 rfl rfl (pc' := 135) rfl ?_
      refine giload B X415 at_135 rfl (pc' := 137) rfl ?_
      refine giconst B X415 at_137 (v := (1 : Int32)) rfl (pc' := 138) rfl ?_
      refine giloadN B X415 at_138 rfl (pc' := 139) rfl ?_
      refine giloadN B X415 at_139 rfl (pc' := 140) rfl ?_
      refine giload B X415 at_140 rfl (pc' := 142) rfl ?_
      refine gcallS B X415 (hw _ (List.mem_of_getElem? (i := 1) rfl)) (hw _ (List.mem_of_getElem? (i := 2) rfl)) (hw _ (List.mem_of_getElem? (i := 3) rfl)) (hw _ (List.mem_of_getElem? (i := 4) rfl)) (by decide) (mt1_no l Z a0 hw a324 a317 (1 : Int32) (1 : Int32) p1 p2 qm (1 : Int32) [(.int (oc0 p1))] 1 h413 A421 rfl (by decide) (by decide)) pd___B_BIIIII_V rfl (argsL := [(.ref a324), (.ref a317), (.int (1 : Int32)), (.int (1 : Int32)), (.int p1), (.int p2), (.int qm)]) (st := []) rfl rfl (W := 0) (Nat.le_of_eq rfl) (by decide) (by decide) (by decide) (by decide) (fun x q => nomatch q) at_142 (pc' := 145) rfl (pureV rfl rfl fun T422 X423 => ?_)
      refine gaload B X423 at_145 rfl rfl (pc' := 147) rfl ?_
      refine gaload B X423 at_147 rfl rfl (pc' := 149) rfl ?_
      refine giload B X423 at_149 rfl (pc' := 151) rfl ?_
      refine giconst B X423 at_151 (v := (2 : Int32)) rfl (pc' := 152) rfl ?_
      refine giloadN B X423 at_152 rfl (pc' := 153) rfl ?_
      refine giloadN B X423 at_153 rfl (pc' := 154) rfl ?_
      refine giload B X423 at_154 rfl (pc' := 156) rfl ?_
      refine gcallS B X423 (hw _ (List.mem_of_getElem? (i := 1) rfl)) (hw _ (List.mem_of_getElem? (i := 2) rfl)) (hw _ (List.mem_of_getElem? (i := 3) rfl)) (hw _ (List.mem_of_getElem? (i := 4) rfl)) (by decide) (mt1_no l Z a0 hw a324 a317 (1 : Int32) (2 : Int32) p1 p2 qm (1 : Int32) [(.int (oc0 p1))] 1 h413 A421 rfl (by decide) (by decide)) pd___B_BIIIII_V rfl (argsL := [(.ref a324), (.ref a317), (.int (1 : Int32)), (.int (2 : Int32)), (.int p1), (.int p2), (.int qm)]) (st := []) rfl rfl (W := 0) (Nat.le_of_eq rfl) (by decide) (by decide) (by decide) (by decide) (fun x q => nomatch q) at_156 (pc' := 159) rfl (pureV rfl rfl fun T424 X425 => ?_)
      refine gaload B X425 at_159 rfl rfl (pc' := 161) rfl ?_
      refine gaload B X425 at_161 rfl rfl (pc' := 163) rfl ?_
      refine giload B X425 at_163 rfl (pc' := 165) rfl ?_
      refine giconst B X425 at_165 (v := (3 : Int32)) rfl (pc' := 166) rfl ?_
      refine giloadN B X425 at_166 rfl (pc' := 167) rfl ?_
      refine giloadN B X425 at_167 rfl (pc' := 168) rfl ?_
      refine giload B X425 at_168 rfl (pc' := 170) rfl ?_
      refine gcallS B X425 (hw _ (List.mem_of_getElem? (i := 1) rfl)) (hw _ (List.mem_of_getElem? (i := 2) rfl)) (hw _ (List.mem_of_getElem? (i := 3) rfl)) (hw _ (List.mem_of_getElem? (i := 4) rfl)) (by decide) (mt1_no l Z a0 hw a324 a317 (1 : Int32) (3 : Int32) p1 p2 qm (1 : Int32) [(.int (oc0 p1))] 1 h413 A421 rfl (by decide) (by decide)) pd___B_BIIIII_V rfl (argsL := [(.ref a324), (.ref a317), (.int (1 : Int32)), (.int (3 : Int32)), (.int p1), (.int p2), (.int qm)]) (st := []) rfl rfl (W := 0) (Nat.le_of_eq rfl) (by decide) (by decide) (by decide) (by decide) (fun x q => nomatch q) at_170 (pc' := 173) rfl (pureV rfl rfl fun T426 X427 => ?_)
      refine joinG B X427 (F := fun z => (mkF m 222 #[.val (.long p0), .second, .val (.int p1), .val (.int p2), .val (.int p3), .val (.int (1 : Int32)), .val (.int (1 : Int32)), .val (.int qm), .val (.ref a317), .val (.ref a324), .unset] [(.int z)])) (r := (oE (1 : Int32) qm)) (fun J => ?_) ?_
      · refine giconst B X427 at_173 (v := (0 : Int32)) rfl (pc' := 174) rfl ?_
        refine giload B X427 at_174 rfl (pc' := 176) rfl ?_
        refine giload B X427 at_176 rfl (pc' := 178) rfl ?_
        refine gcallS B X427 (hw _ (List.mem_of_getElem? (i := 5) rfl)) (hw _ (List.mem_of_getElem? (i := 6) rfl)) (hw _ (List.mem_of_getElem? (i := 3) rfl)) (hw _ (List.mem_of_getElem? (i := 7) rfl)) (by decide) (mt2 l Z a0 hw (0 : Int32) (1 : Int32) qm  h413 ) pd__III_Z rfl (argsL := [(.int (0 : Int32)), (.int (1 : Int32)), (.int qm)]) (st := []) rfl rfl (W := 0) (Nat.le_of_eq rfl) (by decide) (by decide) (by decide) (by decide) (fun x q => nomatch q) at_178 (pc' := 181) rfl (pureG rfl rfl fun T428 X429 => ?_)
        by_cases c181_430 : (f2 (0 : Int32) (1 : Int32) qm) = (0 : Int32)
        · refine gifY B X429 (pc' := 221) at_181 ((if0 _ _).trans (teq c181_430).1) (by decide) ?_
          refine giconst B X429 at_221 (v := (0 : Int32)) rfl (pc' := 222) rfl ?_
          have e_J : (oE (1 : Int32) qm) = (0 : Int32) := by rw [oE, if_pos c181_430]
          rw [e_J] at J
          exact J _ X429
        · refine gifN B X429 at_181 ((if0 _ _).trans (feq c181_430).1) (pc' := 184) rfl ?_
          refine giconst B X429 at_184 (v := (1 : Int32)) rfl (pc' := 185) rfl ?_
          refine giload B X429 at_185 rfl (pc' := 187) rfl ?_
          refine giload B X429 at_187 rfl (pc' := 189) rfl ?_
          refine gcallS B X429 (hw _ (List.mem_of_getElem? (i := 5) rfl)) (hw _ (List.mem_of_getElem? (i := 6) rfl)) (hw _ (List.mem_of_getElem? (i := 3) rfl)) (hw _ (List.mem_of_getElem? (i := 7) rfl)) (by decide) (mt2 l Z a0 hw (1 : Int32) (1 : Int32) qm  h413 ) pd__III_Z rfl (argsL := [(.int (1 : Int32)), (.int (1 : Int32)), (.int qm)]) (st := []) rfl rfl (W := 0) (Nat.le_of_eq rfl) (by decide) (by decide) (by decide) (by decide) (fun x q => nomatch q) at_189 (pc' := 192) rfl (pureG rfl rfl fun T431 X432 => ?_)
          by_cases c192_433 : (f2 (1 : Int32) (1 : Int32) qm) = (0 : Int32)
          · refine gifY B X432 (pc' := 221) at_192 ((if0 _ _).trans (teq c192_433).1) (by decide) ?_
            refine giconst B X432 at_221 (v := (0 : Int32)) rfl (pc' := 222) rfl ?_
            have e_J : (oE (1 : Int32) qm) = (0 : Int32) := by rw [oE, if_neg c181_430, if_pos c192_433]
            rw [e_J] at J
            exact J _ X432
          · refine gifN B X432 at_192 ((if0 _ _).trans (feq c192_433).1) (pc' := 195) rfl ?_
            refine giconst B X432 at_195 (v := (2 : Int32)) rfl (pc' := 196) rfl ?_
            refine giload B X432 at_196 rfl (pc' := 198) rfl ?_
            refine giload B X432 at_198 rfl (pc' := 200) rfl ?_
            refine gcallS B X432 (hw _ (List.mem_of_getElem? (i := 5) rfl)) (hw _ (List.mem_of_getElem? (i := 6) rfl)) (hw _ (List.mem_of_getElem? (i := 3) rfl)) (hw _ (List.mem_of_getElem? (i := 7) rfl)) (by decide) (mt2 l Z a0 hw (2 : Int32) (1 : Int32) qm  h413 ) pd__III_Z rfl (argsL := [(.int (2 : Int32)), (.int (1 : Int32)), (.int qm)]) (st := []) rfl rfl (W := 0) (Nat.le_of_eq rfl) (by decide) (by decide) (by decide) (by decide) (fun x q => nomatch q) at_200 (pc' := 203) rfl (pureG rfl rfl fun T434 X435 => ?_)
            by_cases c203_436 : (f2 (2 : Int32) (1 : Int32) qm) = (0 : Int32)
            · refine gifY B X435 (pc' := 221) at_203 ((if0 _ _).trans (teq c203_436).1) (by decide) ?_
              refine giconst B X435 at_221 (v := (0 : Int32)) rfl (pc' := 222) rfl ?_
              have e_J : (oE (1 : Int32) qm) = (0 : Int32) := by rw [oE, if_neg c181_430, if_neg c192_433, if_pos c203_436]
              rw [e_J] at J
              exact J _ X435
            · refine gifN B X435 at_203 ((if0 _ _).trans (feq c203_436).1) (pc' := 206) rfl ?_
              refine giconst B X435 at_206 (v := (3 : Int32)) rfl (pc' := 207) rfl ?_
              refine giload B X435 at_207 rfl (pc' := 209) rfl ?_
              refine giload B X435 at_209 rfl (pc' := 211) rfl ?_
              refine gcallS B X435 (hw _ (List.mem_of_getElem? (i := 5) rfl)) (hw _ (List.mem_of_getElem? (i := 6) rfl)) (hw _ (List.mem_of_getElem? (i := 3) rfl)) (hw _ (List.mem_of_getElem? (i := 7) rfl)) (by decide) (mt2 l Z a0 hw (3 : Int32) (1 : Int32) qm  h413 ) pd__III_Z rfl (argsL := [(.int (3 : Int32)), (.int (1 : Int32)), (.int qm)]) (st := []) rfl rfl (W := 0) (Nat.le_of_eq rfl) (by decide) (by decide) (by decide) (by decide) (fun x q => nomatch q) at_211 (pc' := 214) rfl (pureG rfl rfl fun T437 X438 => ?_)
              by_cases c214_439 : (f2 (3 : Int32) (1 : Int32) qm) = (0 : Int32)
              · refine gifY B X438 (pc' := 221) at_214 ((if0 _ _).trans (teq c214_439).1) (by decide) ?_
                refine giconst B X438 at_221 (v := (0 : Int32)) rfl (pc' := 222) rfl ?_
                have e_J : (oE (1 : Int32) qm) = (0 : Int32) := by rw [oE, if_neg c181_430, if_neg c192_433, if_neg c203_436, if_pos c214_439]
                rw [e_J] at J
                exact J _ X438
              · refine gifN B X438 at_214 ((if0 _ _).trans (feq c214_439).1) (pc' := 217) rfl ?_
                refine giconst B X438 at_217 (v := (1 : Int32)) rfl (pc' := 218) rfl ?_
                refine ggoto B X438 (pc' := 222) at_218 (by decide) ?_
                have e_J : (oE (1 : Int32) qm) = (1 : Int32) := by rw [oE, if_neg c181_430, if_neg c192_433, if_neg c203_436, if_neg c214_439]
                rw [e_J] at J
                exact J _ X438
      intro T440 X441
      show Go p e below s _ _ _ _ _ T440 (mkF m 222 #[.val (.long p0), .second, .val (.int p1), .val (.int p2), .val (.int p3), .val (.int (1 : Int32)), .val (.int (1 : Int32)), .val (.int qm), .val (.ref a317), .val (.ref a324), .unset] [(.int (oE (1 : Int32) qm))])
      refine gistore B X441 at_222 (Ls' := #[.val (.long p0), .second, .val (.int p1), .val (.int p2), .val (.int p3), .val (.int (1 : Int32)), .val (.int (1 : Int32)), .val (.int qm), .val (.ref a317), .val (.ref a324), .val (.int (oE (1 : Int32) qm))]) rfl (pc' := 224) rfl ?_
      refine gaload B X441 at_224 rfl rfl (pc' := 226) rfl ?_
      refine giload B X441 at_226 rfl (pc' := 228) rfl ?_
      refine gaload B X441 at_228 rfl rfl (pc' := 230) rfl ?_
      refine gcallS B X441 (hw _ (List.mem_of_getElem? (i := 8) rfl)) (hw _ (List.mem_of_getElem? (i := 9) rfl)) (hw _ (List.mem_of_getElem? (i := 10) rfl)) (hw _ (List.mem_of_getElem? (i := 11) rfl)) (by decide) (mt3_1 l Z a0 hw a324 (1 : Int32) a317 [(.int b0), (.int (ox0 p1 p2 qm)), (.int b2), (.int b3), (.int b4), (.int b5), (.int b6), (.int b7)] (ox0 p1 p2 qm) (oc0 p1) h413 A420 rfl A421 (by decide) rfl) pd___BI_B_Z rfl (argsL := [(.ref a324), (.int (1 : Int32)), (.ref a317)]) (st := []) rfl rfl (W := 0) (Nat.le_of_eq rfl) (by decide) (by decide) (by decide) (by decide) (fun x q => nomatch q) at_230 (pc' := 233) rfl (pureG rfl rfl fun T442 X443 => ?_)
      refine giload B X443 at_233 rfl (pc' := 235) rfl ?_
      have c235_444 : (f3_1 (ox0 p1 p2 qm) (oc0 p1)) = (oE (1 : Int32) qm) := own_fin1 p1 p2 qm
      refine gicN B X443 at_235 (teq c235_444).2 (pc' := 238) rfl ?_
      refine giconst B X443 at_238 (v := (1 : Int32)) rfl (pc' := 239) rfl ?_
      refine ggoto B X443 (pc' := 243) at_239 (by decide) ?_
      exact gretN B X443 (z' := (1 : Int32)) (by simp) (rfl) at_243 (by decide) (by decide) (rfl)
    · skip
      refine gaload B X375 at_117 rfl rfl (pc' := 119) rfl ?_
      refine gaload B X375 at_119 rfl rfl (pc' := 121) rfl ?_
      refine giload B X375 at_121 rfl (pc' := 123) rfl ?_
      refine giconst B X375 at_123 (v := (0 : Int32)) rfl (pc' := 124) rfl ?_
      refine giloadN B X375 at_124 rfl (pc' := 125) rfl ?_
      refine giloadN B X375 at_125 rfl (pc' := 126) rfl ?_
      refine giload B X375 at_126 rfl (pc' := 128) rfl ?_
      refine gcallS B X375 (hw _ (List.mem_of_getElem? (i := 1) rfl)) (hw _ (List.mem_of_getElem? (i := 2) rfl)) (hw _ (List.mem_of_getElem? (i := 3) rfl)) (hw _ (List.mem_of_getElem? (i := 4) rfl)) (by decide) (mt1_0 l Z a0 hw a324 a317 (2 : Int32) p1 p2 qm (1 : Int32) [(.int b0), (.int b1), (.int b2), (.int b3), (.int b4), (.int b5), (.int b6), (.int b7)] [(.int (0 : Int32))] 2 1 h374 A377 F378 (Ne.symm n329) rfl rfl (by decide) (by decide) (by decide) (by decide) rfl) pd___B_BIIIII_V rfl (argsL := [(.ref a324), (.ref a317), (.int (2 : Int32)), (.int (0 : Int32)), (.int p1), (.int p2), (.int qm)]) (st := []) rfl rfl (W := 0) (Nat.le_of_eq rfl) (by decide) (by decide) (by decide) (by decide) (allS (Or.inr z_a324) (allS (Or.inr z_a317) all0)) at_128 (pc' := 131) rfl fun T445 h446 v447 X448 K449 Q450 => ?_
      obtain ⟨rfl, A451, A452⟩ := Q450
      have A453 : VA Z h446 a324 .byte [(.int b0), (.int b1), (.int (ox0 p1 p2 qm)), (.int b3), (.int b4), (.int b5), (.int b6), (.int b7)] := A451
      have A454 : VA Z h446 a317 .byte [(.int (oc0 p1))] := A452
      show Go p e below s _ _ _ _ _ T445 (mkF m 131 #[.val (.long p0), .second, .val (.int p1), .val (.int p2), .val (.int p3), .val (.int (1 : Int32)), .val (.int (2 : Int32)), .val (.int qm), .val (.ref a317), .val (.ref a324), .unset] [])
      refine gaload B X448 at_131 rfl rfl (pc' := 133) rfl ?_
      refine gaload B X448 at_133 rfl rfl (pc' := 135) rfl ?_
      refine giload B X448 at_135 rfl (pc' := 137) rfl ?_
      refine giconst B X448 at_137 (v := (1 : Int32)) rfl (pc' := 138) rfl ?_
      refine giloadN B X448 at_138 rfl (pc' := 139) rfl ?_
      refine giloadN B X448 at_139 rfl (pc' := 140) rfl ?_
      refine giload B X448 at_140 rfl (pc' := 142) rfl ?_
      refine gcallS B X448 (hw _ (List.mem_of_getElem? (i := 1) rfl)) (hw _ (List.mem_of_getElem? (i := 2) rfl)) (hw _ (List.mem_of_getElem? (i := 3) rfl)) (hw _ (List.mem_of_getElem? (i := 4) rfl)) (by decide) (mt1_no l Z a0 hw a324 a317 (2 : Int32) (1 : Int32) p1 p2 qm (1 : Int32) [(.int (oc0 p1))] 1 h446 A454 rfl (by decide) (by decide)) pd___B_BIIIII_V rfl (argsL := [(.ref a324), (.ref a317), (.int (2 : Int32)), (.int (1 : Int32)), (.int p1), (.int p2), (.int qm)]) (st := []) rfl rfl (W := 0) (Nat.le_of_eq rfl) (by decide) (by decide) (by decide) (by decide) (fun x q => nomatch q) at_142 (pc' := 145) rfl (pureV rfl rfl fun T455 X456 => ?_)
      refine gaload B X456 at_145 rfl rfl (pc' := 147) rfl ?_
      refine gaload B X456 at_147 rfl rfl (pc' := 149) rfl ?_
      refine giload B X456 at_149 rfl (pc' := 151) rfl ?_
      refine giconst B X456 at_151 (v := (2 : Int32)) rfl (pc' := 152) rfl ?_
      refine giloadN B X456 at_152 rfl (pc' := 153) rfl ?_
      refine giloadN B X456 at_153 rfl (pc' := 154) rfl ?_
      refine giload B X456 at_154 rfl (pc' := 156) rfl ?_
      refine gcallS B X456 (hw _ (List.mem_of_getElem? (i := 1) rfl)) (hw _ (List.mem_of_getElem? (i := 2) rfl)) (hw _ (List.mem_of_getElem? (i := 3) rfl)) (hw _ (List.mem_of_getElem? (i := 4) rfl)) (by decide) (mt1_no l Z a0 hw a324 a317 (2 : Int32) (2 : Int32) p1 p2 qm (1 : Int32) [(.int (oc0 p1))] 1 h446 A454 rfl (by decide) (by decide)) pd___B_BIIIII_V rfl (argsL := [(.ref a324), (.ref a317), (.int (2 : Int32)), (.int (2 : Int32)), (.int p1), (.int p2), (.int qm)]) (st := []) rfl rfl (W := 0) (Nat.le_of_eq rfl) (by decide) (by decide) (by decide) (by decide) (fun x q => nomatch q) at_156 (pc' := 159) rfl (pureV rfl rfl fun T457 X458 => ?_)
      refine gaload B X458 at_159 rfl rfl (pc' := 161) rfl ?_
      refine gaload B X458 at_161 rfl rfl (pc' := 163) rfl ?_
      refine giload B X458 at_163 rfl (pc' := 165) rfl ?_
      refine giconst B X458 at_165 (v := (3 : Int32)) rfl (pc' := 166) rfl ?_
      refine giloadN B X458 at_166 rfl (pc' := 167) rfl ?_
      refine giloadN B X458 at_167 rfl (pc' := 168) rfl ?_
      refine giload B X458 at_168 rfl (pc' := 170) rfl ?_
      refine gcallS B X458 (hw _ (List.mem_of_getElem? (i := 1) rfl)) (hw _ (List.mem_of_getElem? (i := 2) rfl)) (hw _ (List.mem_of_getElem? (i := 3) rfl)) (hw _ (List.mem_of_getElem? (i := 4) rfl)) (by decide) (mt1_no l Z a0 hw a324 a317 (2 : Int32) (3 : Int32) p1 p2 qm (1 : Int32) [(.int (oc0 p1))] 1 h446 A454 rfl (by decide) (by decide)) pd___B_BIIIII_V rfl (argsL := [(.ref a324), (.ref a317), (.int (2 : Int32)), (.int (3 : Int32)), (.int p1), (.int p2), (.int qm)]) (st := []) rfl rfl (W := 0) (Nat.le_of_eq rfl) (by decide) (by decide) (by decide) (by decide) (fun x q => nomatch q) at_170 (pc' := 173) rfl (pureV rfl rfl fun T459 X460 => ?_)
      refine joinG B X460 (F := fun z => (mkF m 222 #[.val (.long p0), .second, .val (.int p1), .val (.int p2), .val (.int p3), .val (.int (1 : Int32)), .val (.int (2 : Int32)), .val (.int qm), .val (.ref a317), .val (.ref a324), .unset] [(.int z)])) (r := (oE (1 : Int32) qm)) (fun J => ?_) ?_
      · refine giconst B X460 at_173 (v := (0 : Int32)) rfl (pc' := 174) rfl ?_
        refine giload B X460 at_174 rfl (pc' := 176) rfl ?_
        refine giload B X460 at_176 rfl (pc' := 178) rfl ?_
        refine gcallS B X460 (hw _ (List.mem_of_getElem? (i := 5) rfl)) (hw _ (List.mem_of_getElem? (i := 6) rfl)) (hw _ (List.mem_of_getElem? (i := 3) rfl)) (hw _ (List.mem_of_getElem? (i := 7) rfl)) (by decide) (mt2 l Z a0 hw (0 : Int32) (1 : Int32) qm  h446 ) pd__III_Z rfl (argsL := [(.int (0 : Int32)), (.int (1 : Int32)), (.int qm)]) (st := []) rfl rfl (W := 0) (Nat.le_of_eq rfl) (by decide) (by decide) (by decide) (by decide) (fun x q => nomatch q) at_178 (pc' := 181) rfl (pureG rfl rfl fun T461 X462 => ?_)
        by_cases c181_463 : (f2 (0 : Int32) (1 : Int32) qm) = (0 : Int32)
        · refine gifY B X462 (pc' := 221) at_181 ((if0 _ _).trans (teq c181_463).1) (by decide) ?_
          refine giconst B X462 at_221 (v := (0 : Int32)) rfl (pc' := 222) rfl ?_
          have e_J : (oE (1 : Int32) qm) = (0 : Int32) := by rw [oE, if_pos c181_463]
          rw [e_J] at J
          exact J _ X462
        · refine gifN B X462 at_181 ((if0 _ _).trans (feq c181_463).1) (pc' := 184) rfl ?_
          refine giconst B X462 at_184 (v := (1 : Int32)) rfl (pc' := 185) rfl ?_
          refine giload B X462 at_185 rfl (pc' := 187) rfl ?_
          refine giload B X462 at_187 rfl (pc' := 189) rfl ?_
          refine gcallS B X462 (hw _ (List.mem_of_getElem? (i := 5) rfl)) (hw _ (List.mem_of_getElem? (i := 6) rfl)) (hw _ (List.mem_of_getElem? (i := 3) rfl)) (hw _ (List.mem_of_getElem? (i := 7) rfl)) (by decide) (mt2 l Z a0 hw (1 : Int32) (1 : Int32) qm  h446 ) pd__III_Z rfl (argsL := [(.int (1 : Int32)), (.int (1 : Int32)), (.int qm)]) (st := []) rfl rfl (W := 0) (Nat.le_of_eq rfl) (by decide) (by decide) (by decide) (by decide) (fun x q => nomatch q) at_189 (pc' := 192) rfl (pureG rfl rfl fun T464 X465 => ?_)
          by_cases c192_466 : (f2 (1 : Int32) (1 : Int32) qm) = (0 : Int32)
          · refine gifY B X465 (pc' := 221) at_192 ((if0 _ _).trans (teq c192_466).1) (by decide) ?_
            refine giconst B X465 at_221 (v := (0 : Int32)) rfl (pc' := 222) rfl ?_
            have e_J : (oE (1 : Int32) qm) = (0 : Int32) := by rw [oE, if_neg c181_463, if_pos c192_466]
            rw [e_J] at J
            exact J _ X465
          · refine gifN B X465 at_192 ((if0 _ _).trans (feq c192_466).1) (pc' := 195) rfl ?_
            refine giconst B X465 at_195 (v := (2 : Int32)) rfl (pc' := 196) rfl ?_
            refine giload B X465 at_196 rfl (pc' := 198) rfl ?_
            refine giload B X465 at_198 rfl (pc' := 200) rfl ?_
            refine gcallS B X465 (hw _ (List.mem_of_getElem? (i := 5) rfl)) (hw _ (List.mem_of_getElem? (i := 6) rfl)) (hw _ (List.mem_of_getElem? (i := 3) rfl)) (hw _ (List.mem_of_getElem? (i := 7) rfl)) (by decide) (mt2 l Z a0 hw (2 : Int32) (1 : Int32) qm  h446 ) pd__III_Z rfl (argsL := [(.int (2 : Int32)), (.int (1 : Int32)), (.int qm)]) (st := []) rfl rfl (W := 0) (Nat.le_of_eq rfl) (by decide) (by decide) (by decide) (by decide) (fun x q => nomatch q) at_200 (pc' := 203) rfl (pureG rfl rfl fun T467 X468 => ?_)
            by_cases c203_469 : (f2 (2 : Int32) (1 : Int32) qm) = (0 : Int32)
            · refine gifY B X468 (pc' := 221) at_203 ((if0 _ _).trans (teq c203_469).1) (by decide) ?_
              refine giconst B X468 at_221 (v := (0 : Int32)) rfl (pc' := 222) rfl ?_
              have e_J : (oE (1 : Int32) qm) = (0 : Int32) := by rw [oE, if_neg c181_463, if_neg c192_466, if_pos c203_469]
              rw [e_J] at J
              exact J _ X468
            · refine gifN B X468 at_203 ((if0 _ _).trans (feq c203_469).1) (pc' := 206) rfl ?_
              refine giconst B X468 at_206 (v := (3 : Int32)) rfl (pc' := 207) rfl ?_
              refine giload B X468 at_207 rfl (pc' := 209) rfl ?_
              refine giload B X468 at_209 rfl (pc' := 211) rfl ?_
              refine gcallS B X468 (hw _ (List.mem_of_getElem? (i := 5) rfl)) (hw _ (List.mem_of_getElem? (i := 6) rfl)) (hw _ (List.mem_of_getElem? (i := 3) rfl)) (hw _ (List.mem_of_getElem? (i := 7) rfl)) (by decide) (mt2 l Z a0 hw (3 : Int32) (1 : Int32) qm  h446 ) pd__III_Z rfl (argsL := [(.int (3 : Int32)), (.int (1 : Int32)), (.int qm)]) (st := []) rfl rfl (W := 0) (Nat.le_of_eq rfl) (by decide) (by decide) (by decide) (by decide) (fun x q => nomatch q) at_211 (pc' := 214) rfl (pureG rfl rfl fun T470 X471 => ?_)
              by_cases c214_472 : (f2 (3 : Int32) (1 : Int32) qm) = (0 : Int32)
              · refine gifY B X471 (pc' := 221) at_214 ((if0 _ _).trans (teq c214_472).1) (by decide) ?_
                refine giconst B X471 at_221 (v := (0 : Int32)) rfl (pc' := 222) rfl ?_
                have e_J : (oE (1 : Int32) qm) = (0 : Int32) := by rw [oE, if_neg c181_463, if_neg c192_466, if_neg c203_469, if_pos c214_472]
                rw [e_J] at J
                exact J _ X471
              · refine gifN B X471 at_214 ((if0 _ _).trans (feq c214_472).1) (pc' := 217) rfl ?_
                refine giconst B X471 at_217 (v := (1 : Int32)) rfl (pc' := 218) rfl ?_
                refine ggoto B X471 (pc' := 222) at_218 (by decide) ?_
                have e_J : (oE (1 : Int32) qm) = (1 : Int32) := by rw [oE, if_neg c181_463, if_neg c192_466, if_neg c203_469, if_neg c214_472]
                rw [e_J] at J
                exact J _ X471
      intro T473 X474
      show Go p e below s _ _ _ _ _ T473 (mkF m 222 #[.val (.long p0), .second, .val (.int p1), .val (.int p2), .val (.int p3), .val (.int (1 : Int32)), .val (.int (2 : Int32)), .val (.int qm), .val (.ref a317), .val (.ref a324), .unset] [(.int (oE (1 : Int32) qm))])
      refine gistore B X474 at_222 (Ls' := #[.val (.long p0), .second, .val (.int p1), .val (.int p2), .val (.int p3), .val (.int (1 : Int32)), .val (.int (2 : Int32)), .val (.int qm), .val (.ref a317), .val (.ref a324), .val (.int (oE (1 : Int32) qm))]) rfl (pc' := 224) rfl ?_
      refine gaload B X474 at_224 rfl rfl (pc' := 226) rfl ?_
      refine giload B X474 at_226 rfl (pc' := 228) rfl ?_
      refine gaload B X474 at_228 rfl rfl (pc' := 230) rfl ?_
      refine gcallS B X474 (hw _ (List.mem_of_getElem? (i := 8) rfl)) (hw _ (List.mem_of_getElem? (i := 9) rfl)) (hw _ (List.mem_of_getElem? (i := 10) rfl)) (hw _ (List.mem_of_getElem? (i := 11) rfl)) (by decide) (mt3_1 l Z a0 hw a324 (2 : Int32) a317 [(.int b0), (.int b1), (.int (ox0 p1 p2 qm)), (.int b3), (.int b4), (.int b5), (.int b6), (.int b7)] (ox0 p1 p2 qm) (oc0 p1) h446 A453 rfl A454 (by decide) rfl) pd___BI_B_Z rfl (argsL := [(.ref a324), (.int (2 : Int32)), (.ref a317)]) (st := []) rfl rfl (W := 0) (Nat.le_of_eq rfl) (by decide) (by decide) (by decide) (by decide) (fun x q => nomatch q) at_230 (pc' := 233) rfl (pureG rfl rfl fun T475 X476 => ?_)
      refine giload B X476 at_233 rfl (pc' := 235) rfl ?_
      have c235_477 : (f3_1 (ox0 p1 p2 qm) (oc0 p1)) = (oE (1 : Int32) qm) := own_fin1 p1 p2 qm
      refine gicN B X476 at_235 (teq c235_477).2 (pc' := 238) rfl ?_
      refine giconst B X476 at_238 (v := (1 : Int32)) rfl (pc' := 239) rfl ?_
      refine ggoto B X476 (pc' := 243) at_239 (by decide) ?_
      exact gretN B X476 (z' := (1 : Int32)) (by simp) (rfl) at_243 (by decide) (by decide) (rfl)
    · skip
      refine gaload B X375 at_117 rfl rfl (pc' := 119) rfl ?_
      refine gaload B X375 at_119 rfl rfl (pc' := 121) rfl ?_
      refine giload B X375 at_121 rfl (pc' := 123) rfl ?_
      refine giconst B X375 at_123 (v := (0 : Int32)) rfl (pc' := 124) rfl ?_
      refine giloadN B X375 at_124 rfl (pc' := 125) rfl ?_
      refine giloadN B X375 at_125 rfl (pc' := 126) rfl ?_
      refine giload B X375 at_126 rfl (pc' := 128) rfl ?_
      refine gcallS B X375 (hw _ (List.mem_of_getElem? (i := 1) rfl)) (hw _ (List.mem_of_getElem? (i := 2) rfl)) (hw _ (List.mem_of_getElem? (i := 3) rfl)) (hw _ (List.mem_of_getElem? (i := 4) rfl)) (by decide) (mt1_0 l Z a0 hw a324 a317 (3 : Int32) p1 p2 qm (1 : Int32) [(.int b0), (.int b1), (.int b2), (.int b3), (.int b4), (.int b5), (.int b6), (.int b7)] [(.int (0 : Int32))] 3 1 h374 A377 F378 (Ne.symm n329) rfl rfl (by decide) (by decide) (by decide) (by decide) rfl) pd___B_BIIIII_V rfl (argsL := [(.ref a324), (.ref a317), (.int (3 : Int32)), (.int (0 : Int32)), (.int p1), (.int p2), (.int qm)]) (st := []) rfl rfl (W := 0) (Nat.le_of_eq rfl) (by decide) (by decide) (by decide) (by decide) (allS (Or.inr z_a324) (allS (Or.inr z_a317) all0)) at_128 (pc' := 131) rfl fun T478 h479 v480 X481 K482 Q483 => ?_
      obtain ⟨rfl, A484, A485⟩ := Q483
      have A486 : VA Z h479 a324 .byte [(.int b0), (.int b1), (.int b2), (.int (ox0 p1 p2 qm)), (.int b4), (.int b5), (.int b6), (.int b7)] := A484
      have A487 : VA Z h479 a317 .byte [(.int (oc0 p1))] := A485
      show Go p e below s _ _ _ _ _ T478 (mkF m 131 #[.val (.long p0), .second, .val (.int p1), .val (.int p2), .val (.int p3), .val (.int (1 : Int32)), .val (.int (3 : Int32)), .val (.int qm), .val (.ref a317), .val (.ref a324), .unset] [])
      refine gaload B X481 at_131 rfl rfl (pc' := 133) rfl ?_
      refine gaload B X481 at_133 rfl rfl (pc' := 135) rfl ?_
      refine giload B X481 at_135 rfl (pc' := 137) rfl ?_
      refine giconst B X481 at_137 (v := (1 : Int32)) rfl (pc' := 138) rfl ?_
      refine giloadN B X481 at_138 rfl (pc' := 139) rfl ?_
      refine giloadN B X481 at_139 rfl (pc' := 140) rfl ?_
      refine giload B X481 at_140 rfl (pc' := 142) rfl ?_
      refine gcallS B X481 (hw _ (List.mem_of_getElem? (i := 1) rfl)) (hw _ (List.mem_of_getElem? (i := 2) rfl)) (hw _ (List.mem_of_getElem? (i := 3) rfl)) (hw _ (List.mem_of_getElem? (i := 4) rfl)) (by decide) (mt1_no l Z a0 hw a324 a317 (3 : Int32) (1 : Int32) p1 p2 qm (1 : Int32) [(.int (oc0 p1))] 1 h479 A487 rfl (by decide) (by decide)) pd___B_BIIIII_V rfl (argsL := [(.ref a324), (.ref a317), (.int (3 : Int32)), (.int (1 : Int32)), (.int p1), (.int p2), (.int qm)]) (st := []) rfl rfl (W := 0) (Nat.le_of_eq rfl) (by decide) (by decide) (by decide) (by decide) (fun x q => nomatch q) at_142 (pc' := 145) rfl (pureV rfl rfl fun T488 X489 => ?_)
      refine gaload B X489 at_145 rfl rfl (pc' := 147) rfl ?_
      refine gaload B X489 at_147 rfl rfl (pc' := 149) rfl ?_
      refine giload B X489 at_149 rfl (pc' := 151) rfl ?_
      refine giconst B X489 at_151 (v := (2 : Int32)) rfl (pc' := 152) rfl ?_
      refine giloadN B X489 at_152 rfl (pc' := 153) rfl ?_
      refine giloadN B X489 at_153 rfl (pc' := 154) rfl ?_
      refine giload B X489 at_154 rfl (pc' := 156) rfl ?_
      refine gcallS B X489 (hw _ (List.mem_of_getElem? (i := 1) rfl)) (hw _ (List.mem_of_getElem? (i := 2) rfl)) (hw _ (List.mem_of_getElem? (i := 3) rfl)) (hw _ (List.mem_of_getElem? (i := 4) rfl)) (by decide) (mt1_no l Z a0 hw a324 a317 (3 : Int32) (2 : Int32) p1 p2 qm (1 : Int32) [(.int (oc0 p1))] 1 h479 A487 rfl (by decide) (by decide)) pd___B_BIIIII_V rfl (argsL := [(.ref a324), (.ref a317), (.int (3 : Int32)), (.int (2 : Int32)), (.int p1), (.int p2), (.int qm)]) (st := []) rfl rfl (W := 0) (Nat.le_of_eq rfl) (by decide) (by decide) (by decide) (by decide) (fun x q => nomatch q) at_156 (pc' := 159) rfl (pureV rfl rfl fun T490 X491 => ?_)
      refine gaload B X491 at_159 rfl rfl (pc' := 161) rfl ?_
      refine gaload B X491 at_161 rfl rfl (pc' := 163) rfl ?_
      refine giload B X491 at_163 rfl (pc' := 165) rfl ?_
      refine giconst B X491 at_165 (v := (3 : Int32)) rfl (pc' := 166) rfl ?_
      refine giloadN B X491 at_166 rfl (pc' := 167) rfl ?_
      refine giloadN B X491 at_167 rfl (pc' := 168) rfl ?_
      refine giload B X491 at_168 rfl (pc' := 170) rfl ?_
      refine gcallS B X491 (hw _ (List.mem_of_getElem? (i := 1) rfl)) (hw _ (List.mem_of_getElem? (i := 2) rfl)) (hw _ (List.mem_of_getElem? (i := 3) rfl)) (hw _ (List.mem_of_getElem? (i := 4) rfl)) (by decide) (mt1_no l Z a0 hw a324 a317 (3 : Int32) (3 : Int32) p1 p2 qm (1 : Int32) [(.int (oc0 p1))] 1 h479 A487 rfl (by decide) (by decide)) pd___B_BIIIII_V rfl (argsL := [(.ref a324), (.ref a317), (.int (3 : Int32)), (.int (3 : Int32)), (.int p1), (.int p2), (.int qm)]) (st := []) rfl rfl (W := 0) (Nat.le_of_eq rfl) (by decide) (by decide) (by decide) (by decide) (fun x q => nomatch q) at_170 (pc' := 173) rfl (pureV rfl rfl fun T492 X493 => ?_)
      refine joinG B X493 (F := fun z => (mkF m 222 #[.val (.long p0), .second, .val (.int p1), .val (.int p2), .val (.int p3), .val (.int (1 : Int32)), .val (.int (3 : Int32)), .val (.int qm), .val (.ref a317), .val (.ref a324), .unset] [(.int z)])) (r := (oE (1 : Int32) qm)) (fun J => ?_) ?_
      · refine giconst B X493 at_173 (v := (0 : Int32)) rfl (pc' := 174) rfl ?_
        refine giload B X493 at_174 rfl (pc' := 176) rfl ?_
        refine giload B X493 at_176 rfl (pc' := 178) rfl ?_
        refine gcallS B X493 (hw _ (List.mem_of_getElem? (i := 5) rfl)) (hw _ (List.mem_of_getElem? (i := 6) rfl)) (hw _ (List.mem_of_getElem? (i := 3) rfl)) (hw _ (List.mem_of_getElem? (i := 7) rfl)) (by decide) (mt2 l Z a0 hw (0 : Int32) (1 : Int32) qm  h479 ) pd__III_Z rfl (argsL := [(.int (0 : Int32)), (.int (1 : Int32)), (.int qm)]) (st := []) rfl rfl (W := 0) (Nat.le_of_eq rfl) (by decide) (by decide) (by decide) (by decide) (fun x q => nomatch q) at_178 (pc' := 181) rfl (pureG rfl rfl fun T494 X495 => ?_)
        by_cases c181_496 : (f2 (0 : Int32) (1 : Int32) qm) = (0 : Int32)
        · refine gifY B X495 (pc' := 221) at_181 ((if0 _ _).trans (teq c181_496).1) (by decide) ?_
          refine giconst B X495 at_221 (v := (0 : Int32)) rfl (pc' := 222) rfl ?_
          have e_J : (oE (1 : Int32) qm) = (0 : Int32) := by rw [oE, if_pos c181_496]
          rw [e_J] at J
          exact J _ X495
        · refine gifN B X495 at_181 ((if0 _ _).trans (feq c181_496).1) (pc' := 184) rfl ?_
          refine giconst B X495 at_184 (v := (1 : Int32)) rfl (pc' := 185) rfl ?_
          refine giload B X495 at_185 rfl (pc' := 187) rfl ?_
          refine giload B X495 at_187 rfl (pc' := 189) rfl ?_
          refine gcallS B X495 (hw _ (List.mem_of_getElem? (i := 5) rfl)) (hw _ (List.mem_of_getElem? (i := 6) rfl)) (hw _ (List.mem_of_getElem? (i := 3) rfl)) (hw _ (List.mem_of_getElem? (i := 7) rfl)) (by decide) (mt2 l Z a0 hw (1 : Int32) (1 : Int32) qm  h479 ) pd__III_Z rfl (argsL := [(.int (1 : Int32)), (.int (1 : Int32)), (.int qm)]) (st := []) rfl rfl (W := 0) (Nat.le_of_eq rfl) (by decide) (by decide) (by decide) (by decide) (fun x q => nomatch q) at_189 (pc' := 192) rfl (pureG rfl rfl fun T497 X498 => ?_)
          by_cases c192_499 : (f2 (1 : Int32) (1 : Int32) qm) = (0 : Int32)
          · refine gifY B X498 (pc' := 221) at_192 ((if0 _ _).trans (teq c192_499).1) (by decide) ?_
            refine giconst B X498 at_221 (v := (0 : Int32)) rfl (pc' := 222) rfl ?_
            have e_J : (oE (1 : Int32) qm) = (0 : Int32) := by rw [oE, if_neg c181_496, if_pos c192_499]
            rw [e_J] at J
            exact J _ X498
          · refine gifN B X498 at_192 ((if0 _ _).trans (feq c192_499).1) (pc' := 195) rfl ?_
            refine giconst B X498 at_195 (v := (2 : Int32)) rfl (pc' := 196) rfl ?_
            refine giload B X498 at_196 rfl (pc' := 198) rfl ?_
            refine giload B X498 at_198 rfl (pc' := 200) rfl ?_
            refine gcallS B X498 (hw _ (List.mem_of_getElem? (i := 5) rfl)) (hw _ (List.mem_of_getElem? (i := 6) rfl)) (hw _ (List.mem_of_getElem? (i := 3) rfl)) (hw _ (List.mem_of_getElem? (i := 7) rfl)) (by decide) (mt2 l Z a0 hw (2 : Int32) (1 : Int32) qm  h479 ) pd__III_Z rfl (argsL := [(.int (2 : Int32)), (.int (1 : Int32)), (.int qm)]) (st := []) rfl rfl (W := 0) (Nat.le_of_eq rfl) (by decide) (by decide) (by decide) (by decide) (fun x q => nomatch q) at_200 (pc' := 203) rfl (pureG rfl rfl fun T500 X501 => ?_)
            by_cases c203_502 : (f2 (2 : Int32) (1 : Int32) qm) = (0 : Int32)
            · refine gifY B X501 (pc' := 221) at_203 ((if0 _ _).trans (teq c203_502).1) (by decide) ?_
              refine giconst B X501 at_221 (v := (0 : Int32)) rfl (pc' := 222) rfl ?_
              have e_J : (oE (1 : Int32) qm) = (0 : Int32) := by rw [oE, if_neg c181_496, if_neg c192_499, if_pos c203_502]
              rw [e_J] at J
              exact J _ X501
            · refine gifN B X501 at_203 ((if0 _ _).trans (feq c203_502).1) (pc' := 206) rfl ?_
              refine giconst B X501 at_206 (v := (3 : Int32)) rfl (pc' := 207) rfl ?_
              refine giload B X501 at_207 rfl (pc' := 209) rfl ?_
              refine giload B X501 at_209 rfl (pc' := 211) rfl ?_
              refine gcallS B X501 (hw _ (List.mem_of_getElem? (i := 5) rfl)) (hw _ (List.mem_of_getElem? (i := 6) rfl)) (hw _ (List.mem_of_getElem? (i := 3) rfl)) (hw _ (List.mem_of_getElem? (i := 7) rfl)) (by decide) (mt2 l Z a0 hw (3 : Int32) (1 : Int32) qm  h479 ) pd__III_Z rfl (argsL := [(.int (3 : Int32)), (.int (1 : Int32)), (.int qm)]) (st := []) rfl rfl (W := 0) (Nat.le_of_eq rfl) (by decide) (by decide) (by decide) (by decide) (fun x q => nomatch q) at_211 (pc' := 214) rfl (pureG rfl rfl fun T503 X504 => ?_)
              by_cases c214_505 : (f2 (3 : Int32) (1 : Int32) qm) = (0 : Int32)
              · refine gifY B X504 (pc' := 221) at_214 ((if0 _ _).trans (teq c214_505).1) (by decide) ?_
                refine giconst B X504 at_221 (v := (0 : Int32)) rfl (pc' := 222) rfl ?_
                have e_J : (oE (1 : Int32) qm) = (0 : Int32) := by rw [oE, if_neg c181_496, if_neg c192_499, if_neg c203_502, if_pos c214_505]
                rw [e_J] at J
                exact J _ X504
              · refine gifN B X504 at_214 ((if0 _ _).trans (feq c214_505).1) (pc' := 217) rfl ?_
                refine giconst B X504 at_217 (v := (1 : Int32)) rfl (pc' := 218) rfl ?_
                refine ggoto B X504 (pc' := 222) at_218 (by decide) ?_
                have e_J : (oE (1 : Int32) qm) = (1 : Int32) := by rw [oE, if_neg c181_496, if_neg c192_499, if_neg c203_502, if_neg c214_505]
                rw [e_J] at J
                exact J _ X504
      intro T506 X507
      show Go p e below s _ _ _ _ _ T506 (mkF m 222 #[.val (.long p0), .second, .val (.int p1), .val (.int p2), .val (.int p3), .val (.int (1 : Int32)), .val (.int (3 : Int32)), .val (.int qm), .val (.ref a317), .val (.ref a324), .unset] [(.int (oE (1 : Int32) qm))])
      refine gistore B X507 at_222 (Ls' := #[.val (.long p0), .second, .val (.int p1), .val (.int p2), .val (.int p3), .val (.int (1 : Int32)), .val (.int (3 : Int32)), .val (.int qm), .val (.ref a317), .val (.ref a324), .val (.int (oE (1 : Int32) qm))]) rfl (pc' := 224) rfl ?_
      refine gaload B X507 at_224 rfl rfl (pc' := 226) rfl ?_
      refine giload B X507 at_226 rfl (pc' := 228) rfl ?_
      refine gaload B X507 at_228 rfl rfl (pc' := 230) rfl ?_
      refine gcallS B X507 (hw _ (List.mem_of_getElem? (i := 8) rfl)) (hw _ (List.mem_of_getElem? (i := 9) rfl)) (hw _ (List.mem_of_getElem? (i := 10) rfl)) (hw _ (List.mem_of_getElem? (i := 11) rfl)) (by decide) (mt3_1 l Z a0 hw a324 (3 : Int32) a317 [(.int b0), (.int b1), (.int b2), (.int (ox0 p1 p2 qm)), (.int b4), (.int b5), (.int b6), (.int b7)] (ox0 p1 p2 qm) (oc0 p1) h479 A486 rfl A487 (by decide) rfl) pd___BI_B_Z rfl (argsL := [(.ref a324), (.int (3 : Int32)), (.ref a317)]) (st := []) rfl rfl (W := 0) (Nat.le_of_eq rfl) (by decide) (by decide) (by decide) (by decide) (fun x q => nomatch q) at_230 (pc' := 233) rfl (pureG rfl rfl fun T508 X509 => ?_)
      refine giload B X509 at_233 rfl (pc' := 235) rfl ?_
      have c235_510 : (f3_1 (ox0 p1 p2 qm) (oc0 p1)) = (oE (1 : Int32) qm) := own_fin1 p1 p2 qm
      refine gicN B X509 at_235 (teq c235_510).2 (pc' := 238) rfl ?_
      refine giconst B X509 at_238 (v := (1 : Int32)) rfl (pc' := 239) rfl ?_
      refine ggoto B X509 (pc' := 243) at_239 (by decide) ?_
      exact gretN B X509 (z' := (1 : Int32)) (by simp) (rfl) at_243 (by decide) (by decide) (rfl)
  · rw [e_w]
    refine gistore B X at_7 (Ls' := #[.val (.long p0), .second, .val (.int p1), .val (.int p2), .val (.int p3), .val (.int (2 : Int32)), .unset, .unset, .unset, .unset, .unset]) rfl (pc' := 9) rfl ?_
    refine giload B X at_9 rfl (pc' := 11) rfl ?_
    refine giconst B X at_11 (v := (3 : Int32)) rfl (pc' := 12) rfl ?_
    refine giushr B X at_12 rfl (pc' := 13) rfl ?_
    refine giconst B X at_13 (v := (3 : Int32)) rfl (pc' := 14) rfl ?_
    refine giand B X at_14 rfl (pc' := 15) rfl ?_
    generalize e_qfr : (((p3.toUInt32 >>> ((3 : Int32) &&& 31).toUInt32).toInt32) &&& (3 : Int32)) = qfr
    refine gistore B X at_15 (Ls' := #[.val (.long p0), .second, .val (.int p1), .val (.int p2), .val (.int p3), .val (.int (2 : Int32)), .val (.int qfr), .unset, .unset, .unset, .unset]) rfl (pc' := 17) rfl ?_
    have hfr := own_and3 ((p3.toUInt32 >>> ((3 : Int32) &&& 31).toUInt32).toInt32); rw [e_qfr] at hfr; clear e_qfr
    refine giload B X at_17 rfl (pc' := 19) rfl ?_
    refine giconst B X at_19 (v := (5 : Int32)) rfl (pc' := 20) rfl ?_
    refine giushr B X at_20 rfl (pc' := 21) rfl ?_
    refine gbipush B X at_21 (v := (15 : Int32)) rfl (pc' := 23) rfl ?_
    refine giand B X at_23 rfl (pc' := 24) rfl ?_
    generalize e_qm : (((p3.toUInt32 >>> ((5 : Int32) &&& 31).toUInt32).toInt32) &&& (15 : Int32)) = qm
    refine gistore B X at_24 (Ls' := #[.val (.long p0), .second, .val (.int p1), .val (.int p2), .val (.int p3), .val (.int (2 : Int32)), .val (.int qfr), .val (.int qm), .unset, .unset, .unset]) rfl (pc' := 26) rfl ?_
    clear e_qm
    refine giload B X at_26 rfl (pc' := 28) rfl ?_
    refine gnewarray B X (cap := 2) (vs := [(.int (0 : Int32)), (.int (0 : Int32))]) (ty := .byte) rfl rfl (hw _ (List.mem_of_getElem? (i := 0) rfl)) (by decide) (by decide) (by decide) (by decide) (by decide) at_28 (pc' := 30) rfl fun T511 h512 a513 X514 q515 E516 z_a513 A517 => ?_
    refine gastore B X514 at_30 rfl (Ls' := #[.val (.long p0), .second, .val (.int p1), .val (.int p2), .val (.int p3), .val (.int (2 : Int32)), .val (.int qfr), .val (.int qm), .val (.ref a513), .unset, .unset]) rfl (pc' := 32) rfl ?_
    refine gbipush B X514 at_32 (v := (8 : Int32)) rfl (pc' := 34) rfl ?_
    refine gnewarray B X514 (cap := 8) (vs := [(.int (0 : Int32)), (.int (0 : Int32)), (.int (0 : Int32)), (.int (0 : Int32)), (.int (0 : Int32)), (.int (0 : Int32)), (.int (0 : Int32)), (.int (0 : Int32))]) (ty := .byte) rfl rfl (hw _ (List.mem_of_getElem? (i := 0) rfl)) (by decide) (by decide) (by decide) (by decide) (by decide) at_34 (pc' := 36) rfl fun T518 h519 a520 X521 q522 E523 z_a520 A524 => ?_
    have n525 : a513 ≠ a520 := by rw [q522]; exact Nat.ne_of_lt A517.lt
    have F526 := A517.ext E523
    refine gastore B X521 at_36 rfl (Ls' := #[.val (.long p0), .second, .val (.int p1), .val (.int p2), .val (.int p3), .val (.int (2 : Int32)), .val (.int qfr), .val (.int qm), .val (.ref a513), .val (.ref a520), .unset]) rfl (pc' := 38) rfl ?_
    refine gaload B X521 at_38 rfl rfl (pc' := 40) rfl ?_
    refine giconst B X521 at_40 (v := (0 : Int32)) rfl (pc' := 41) rfl ?_
    refine glloadN B X521 at_41 rfl (pc' := 42) rfl ?_
    refine gl2i B X521 at_42 rfl (pc' := 43) rfl ?_
    refine gi2b B X521 at_43 rfl (pc' := 44) rfl ?_
    refine gbastore B X521 (i := 0) (n := 8) A524 rfl (by decide) rfl (vs' := [(.int p0.toInt32.toInt8.toInt32), (.int (0 : Int32)), (.int (0 : Int32)), (.int (0 : Int32)), (.int (0 : Int32)), (.int (0 : Int32)), (.int (0 : Int32)), (.int (0 : Int32))]) (by rw [Jvm.OwnKit.nbb]; rfl) (Or.inr z_a520) at_44 (pc' := 45) rfl fun T527 h528 X529 W530 A531 => ?_
    have F532 := F526.other W530 n525
    refine gaload B X529 at_45 rfl rfl (pc' := 47) rfl ?_
    refine giconst B X529 at_47 (v := (1 : Int32)) rfl (pc' := 48) rfl ?_
    refine glloadN B X529 at_48 rfl (pc' := 49) rfl ?_
    refine gbipush B X529 at_49 (v := (8 : Int32)) rfl (pc' := 51) rfl ?_
    refine glushr B X529 at_51 rfl (pc' := 52) rfl ?_
    refine gl2i B X529 at_52 rfl (pc' := 53) rfl ?_
    refine gi2b B X529 at_53 rfl (pc' := 54) rfl ?_
    refine gbastore B X529 (i := 1) (n := 8) A531 rfl (by decide) rfl (vs' := [(.int p0.toInt32.toInt8.toInt32), (.int ((p0.toUInt64 >>> ((8 : Int32) &&& 0x3f).toInt64.toUInt64).toInt64).toInt32.toInt8.toInt32), (.int (0 : Int32)), (.int (0 : Int32)), (.int (0 : Int32)), (.int (0 : Int32)), (.int (0 : Int32)), (.int (0 : Int32))]) (by rw [Jvm.OwnKit.nbb]; rfl) (Or.inr z_a520) at_54 (pc' := 55) rfl fun T533 h534 X535 W536 A537 => ?_
    have F538 := F532.other W536 n525
    refine gaload B X535 at_55 rfl rfl (pc' := 57) rfl ?_
    refine giconst B X535 at_57 (v := (2 : Int32)) rfl (pc' := 58) rfl ?_
    refine glloadN B X535 at_58 rfl (pc' := 59) rfl ?_
    refine gbipush B X535 at_59 (v := (16 : Int32)) rfl (pc' := 61) rfl ?_
    refine glushr B X535 at_61 rfl (pc' := 62) rfl ?_
    refine gl2i B X535 at_62 rfl (pc' := 63) rfl ?_
    refine gi2b B X535 at_63 rfl (pc' := 64) rfl ?_
    refine gbastore B X535 (i := 2) (n := 8) A537 rfl (by decide) rfl (vs' := [(.int p0.toInt32.toInt8.toInt32), (.int ((p0.toUInt64 >>> ((8 : Int32) &&& 0x3f).toInt64.toUInt64).toInt64).toInt32.toInt8.toInt32), (.int ((p0.toUInt64 >>> ((16 : Int32) &&& 0x3f).toInt64.toUInt64).toInt64).toInt32.toInt8.toInt32), (.int (0 : Int32)), (.int (0 : Int32)), (.int (0 : Int32)), (.int (0 : Int32)), (.int (0 : Int32))]) (by rw [Jvm.OwnKit.nbb]; rfl) (Or.inr z_a520) at_64 (pc' := 65) rfl fun T539 h540 X541 W542 A543 => ?_
    have F544 := F538.other W542 n525
    refine gaload B X541 at_65 rfl rfl (pc' := 67) rfl ?_
    refine giconst B X541 at_67 (v := (3 : Int32)) rfl (pc' := 68) rfl ?_
    refine glloadN B X541 at_68 rfl (pc' := 69) rfl ?_
    refine gbipush B X541 at_69 (v := (24 : Int32)) rfl (pc' := 71) rfl ?_
    refine glushr B X541 at_71 rfl (pc' := 72) rfl ?_
    refine gl2i B X541 at_72 rfl (pc' := 73) rfl ?_
    refine gi2b B X541 at_73 rfl (pc' := 74) rfl ?_
    refine gbastore B X541 (i := 3) (n := 8) A543 rfl (by decide) rfl (vs' := [(.int p0.toInt32.toInt8.toInt32), (.int ((p0.toUInt64 >>> ((8 : Int32) &&& 0x3f).toInt64.toUInt64).toInt64).toInt32.toInt8.toInt32), (.int ((p0.toUInt64 >>> ((16 : Int32) &&& 0x3f).toInt64.toUInt64).toInt64).toInt32.toInt8.toInt32), (.int ((p0.toUInt64 >>> ((24 : Int32) &&& 0x3f).toInt64.toUInt64).toInt64).toInt32.toInt8.toInt32), (.int (0 : Int32)), (.int (0 : Int32)), (.int (0 : Int32)), (.int (0 : Int32))]) (by rw [Jvm.OwnKit.nbb]; rfl) (Or.inr z_a520) at_74 (pc' := 75) rfl fun T545 h546 X547 W548 A549 => ?_
    have F550 := F544.other W548 n525
    refine gaload B X547 at_75 rfl rfl (pc' := 77) rfl ?_
    refine giconst B X547 at_77 (v := (4 : Int32)) rfl (pc' := 78) rfl ?_
    refine glloadN B X547 at_78 rfl (pc' := 79) rfl ?_
    refine gbipush B X547 at_79 (v := (32 : Int32)) rfl (pc' := 81) rfl ?_
    refine glushr B X547 at_81 rfl (pc' := 82) rfl ?_
    refine gl2i B X547 at_82 rfl (pc' := 83) rfl ?_
    refine gi2b B X547 at_83 rfl (pc' := 84) rfl ?_
    refine gbastore B X547 (i := 4) (n := 8) A549 rfl (by decide) rfl (vs' := [(.int p0.toInt32.toInt8.toInt32), (.int ((p0.toUInt64 >>> ((8 : Int32) &&& 0x3f).toInt64.toUInt64).toInt64).toInt32.toInt8.toInt32), (.int ((p0.toUInt64 >>> ((16 : Int32) &&& 0x3f).toInt64.toUInt64).toInt64).toInt32.toInt8.toInt32), (.int ((p0.toUInt64 >>> ((24 : Int32) &&& 0x3f).toInt64.toUInt64).toInt64).toInt32.toInt8.toInt32), (.int ((p0.toUInt64 >>> ((32 : Int32) &&& 0x3f).toInt64.toUInt64).toInt64).toInt32.toInt8.toInt32), (.int (0 : Int32)), (.int (0 : Int32)), (.int (0 : Int32))]) (by rw [Jvm.OwnKit.nbb]; rfl) (Or.inr z_a520) at_84 (pc' := 85) rfl fun T551 h552 X553 W554 A555 => ?_
    have F556 := F550.other W554 n525
    refine gaload B X553 at_85 rfl rfl (pc' := 87) rfl ?_
    refine giconst B X553 at_87 (v := (5 : Int32)) rfl (pc' := 88) rfl ?_
    refine glloadN B X553 at_88 rfl (pc' := 89) rfl ?_
    refine gbipush B X553 at_89 (v := (40 : Int32)) rfl (pc' := 91) rfl ?_
    refine glushr B X553 at_91 rfl (pc' := 92) rfl ?_
    refine gl2i B X553 at_92 rfl (pc' := 93) rfl ?_
    refine gi2b B X553 at_93 rfl (pc' := 94) rfl ?_
    refine gbastore B X553 (i := 5) (n := 8) A555 rfl (by decide) rfl (vs' := [(.int p0.toInt32.toInt8.toInt32), (.int ((p0.toUInt64 >>> ((8 : Int32) &&& 0x3f).toInt64.toUInt64).toInt64).toInt32.toInt8.toInt32), (.int ((p0.toUInt64 >>> ((16 : Int32) &&& 0x3f).toInt64.toUInt64).toInt64).toInt32.toInt8.toInt32), (.int ((p0.toUInt64 >>> ((24 : Int32) &&& 0x3f).toInt64.toUInt64).toInt64).toInt32.toInt8.toInt32), (.int ((p0.toUInt64 >>> ((32 : Int32) &&& 0x3f).toInt64.toUInt64).toInt64).toInt32.toInt8.toInt32), (.int ((p0.toUInt64 >>> ((40 : Int32) &&& 0x3f).toInt64.toUInt64).toInt64).toInt32.toInt8.toInt32), (.int (0 : Int32)), (.int (0 : Int32))]) (by rw [Jvm.OwnKit.nbb]; rfl) (Or.inr z_a520) at_94 (pc' := 95) rfl fun T557 h558 X559 W560 A561 => ?_
    have F562 := F556.other W560 n525
    refine gaload B X559 at_95 rfl rfl (pc' := 97) rfl ?_
    refine gbipush B X559 at_97 (v := (6 : Int32)) rfl (pc' := 99) rfl ?_
    refine glloadN B X559 at_99 rfl (pc' := 100) rfl ?_
    refine gbipush B X559 at_100 (v := (48 : Int32)) rfl (pc' := 102) rfl ?_
    refine glushr B X559 at_102 rfl (pc' := 103) rfl ?_
    refine gl2i B X559 at_103 rfl (pc' := 104) rfl ?_
    refine gi2b B X559 at_104 rfl (pc' := 105) rfl ?_
    refine gbastore B X559 (i := 6) (n := 8) A561 rfl (by decide) rfl (vs' := [(.int p0.toInt32.toInt8.toInt32), (.int ((p0.toUInt64 >>> ((8 : Int32) &&& 0x3f).toInt64.toUInt64).toInt64).toInt32.toInt8.toInt32), (.int ((p0.toUInt64 >>> ((16 : Int32) &&& 0x3f).toInt64.toUInt64).toInt64).toInt32.toInt8.toInt32), (.int ((p0.toUInt64 >>> ((24 : Int32) &&& 0x3f).toInt64.toUInt64).toInt64).toInt32.toInt8.toInt32), (.int ((p0.toUInt64 >>> ((32 : Int32) &&& 0x3f).toInt64.toUInt64).toInt64).toInt32.toInt8.toInt32), (.int ((p0.toUInt64 >>> ((40 : Int32) &&& 0x3f).toInt64.toUInt64).toInt64).toInt32.toInt8.toInt32), (.int ((p0.toUInt64 >>> ((48 : Int32) &&& 0x3f).toInt64.toUInt64).toInt64).toInt32.toInt8.toInt32), (.int (0 : Int32))]) (by rw [Jvm.OwnKit.nbb]; rfl) (Or.inr z_a520) at_105 (pc' := 106) rfl fun T563 h564 X565 W566 A567 => ?_
    have F568 := F562.other W566 n525
    refine gaload B X565 at_106 rfl rfl (pc' := 108) rfl ?_
    refine gbipush B X565 at_108 (v := (7 : Int32)) rfl (pc' := 110) rfl ?_
    refine glloadN B X565 at_110 rfl (pc' := 111) rfl ?_
    refine gbipush B X565 at_111 (v := (56 : Int32)) rfl (pc' := 113) rfl ?_
    refine glushr B X565 at_113 rfl (pc' := 114) rfl ?_
    refine gl2i B X565 at_114 rfl (pc' := 115) rfl ?_
    refine gi2b B X565 at_115 rfl (pc' := 116) rfl ?_
    refine gbastore B X565 (i := 7) (n := 8) A567 rfl (by decide) rfl (vs' := [(.int p0.toInt32.toInt8.toInt32), (.int ((p0.toUInt64 >>> ((8 : Int32) &&& 0x3f).toInt64.toUInt64).toInt64).toInt32.toInt8.toInt32), (.int ((p0.toUInt64 >>> ((16 : Int32) &&& 0x3f).toInt64.toUInt64).toInt64).toInt32.toInt8.toInt32), (.int ((p0.toUInt64 >>> ((24 : Int32) &&& 0x3f).toInt64.toUInt64).toInt64).toInt32.toInt8.toInt32), (.int ((p0.toUInt64 >>> ((32 : Int32) &&& 0x3f).toInt64.toUInt64).toInt64).toInt32.toInt8.toInt32), (.int ((p0.toUInt64 >>> ((40 : Int32) &&& 0x3f).toInt64.toUInt64).toInt64).toInt32.toInt8.toInt32), (.int ((p0.toUInt64 >>> ((48 : Int32) &&& 0x3f).toInt64.toUInt64).toInt64).toInt32.toInt8.toInt32), (.int ((p0.toUInt64 >>> ((56 : Int32) &&& 0x3f).toInt64.toUInt64).toInt64).toInt32.toInt8.toInt32)]) (by rw [Jvm.OwnKit.nbb]; rfl) (Or.inr z_a520) at_116 (pc' := 117) rfl fun T569 h570 X571 W572 A573 => ?_
    have F574 := F568.other W572 n525
    generalize p0.toInt32.toInt8.toInt32 = b0 at A573 ⊢
    generalize ((p0.toUInt64 >>> ((8 : Int32) &&& 0x3f).toInt64.toUInt64).toInt64).toInt32.toInt8.toInt32 = b1 at A573 ⊢
    generalize ((p0.toUInt64 >>> ((16 : Int32) &&& 0x3f).toInt64.toUInt64).toInt64).toInt32.toInt8.toInt32 = b2 at A573 ⊢
    generalize ((p0.toUInt64 >>> ((24 : Int32) &&& 0x3f).toInt64.toUInt64).toInt64).toInt32.toInt8.toInt32 = b3 at A573 ⊢
    generalize ((p0.toUInt64 >>> ((32 : Int32) &&& 0x3f).toInt64.toUInt64).toInt64).toInt32.toInt8.toInt32 = b4 at A573 ⊢
    generalize ((p0.toUInt64 >>> ((40 : Int32) &&& 0x3f).toInt64.toUInt64).toInt64).toInt32.toInt8.toInt32 = b5 at A573 ⊢
    generalize ((p0.toUInt64 >>> ((48 : Int32) &&& 0x3f).toInt64.toUInt64).toInt64).toInt32.toInt8.toInt32 = b6 at A573 ⊢
    generalize ((p0.toUInt64 >>> ((56 : Int32) &&& 0x3f).toInt64.toUInt64).toInt64).toInt32.toInt8.toInt32 = b7 at A573 ⊢
    rcases hfr with rfl | rfl | rfl | rfl
    · skip
      refine gaload B X571 at_117 rfl rfl (pc' := 119) rfl ?_
      refine gaload B X571 at_119 rfl rfl (pc' := 121) rfl ?_
      refine giload B X571 at_121 rfl (pc' := 123) rfl ?_
      refine giconst B X571 at_123 (v := (0 : Int32)) rfl (pc' := 124) rfl ?_
      refine giloadN B X571 at_124 rfl (pc' := 125) rfl ?_
      refine giloadN B X571 at_125 rfl (pc' := 126) rfl ?_
      refine giload B X571 at_126 rfl (pc' := 128) rfl ?_
      refine gcallS B X571 (hw _ (List.mem_of_getElem? (i := 1) rfl)) (hw _ (List.mem_of_getElem? (i := 2) rfl)) (hw _ (List.mem_of_getElem? (i := 3) rfl)) (hw _ (List.mem_of_getElem? (i := 4) rfl)) (by decide) (mt1_0 l Z a0 hw a520 a513 (0 : Int32) p1 p2 qm (2 : Int32) [(.int b0), (.int b1), (.int b2), (.int b3), (.int b4), (.int b5), (.int b6), (.int b7)] [(.int (0 : Int32)), (.int (0 : Int32))] 0 2 h570 A573 F574 (Ne.symm n525) rfl rfl (by decide) (by decide) (by decide) (by decide) rfl) pd___B_BIIIII_V rfl (argsL := [(.ref a520), (.ref a513), (.int (0 : Int32)), (.int (0 : Int32)), (.int p1), (.int p2), (.int qm)]) (st := []) rfl rfl (W := 0) (Nat.le_of_eq rfl) (by decide) (by decide) (by decide) (by decide) (allS (Or.inr z_a520) (allS (Or.inr z_a513) all0)) at_128 (pc' := 131) rfl fun T575 h576 v577 X578 K579 Q580 => ?_
      obtain ⟨rfl, A581, A582⟩ := Q580
      have A583 : VA Z h576 a520 .byte [(.int (ox0 p1 p2 qm)), (.int b1), (.int b2), (.int b3), (.int b4), (.int b5), (.int b6), (.int b7)] := A581
      have A584 : VA Z h576 a513 .byte [(.int (oc0 p1)), (.int (0 : Int32))] := A582
      show Go p e below s _ _ _ _ _ T575 (mkF m 131 #[.val (.long p0), .second, .val (.int p1), .val (.int p2), .val (.int p3), .val (.int (2 : Int32)), .val (.int (0 : Int32)), .val (.int qm), .val (.ref a513), .val (.ref a520), .unset] [])
      refine gaload B X578 at_131 rfl rfl (pc' := 133) rfl ?_
      refine gaload B X578 at_133 rfl rfl (pc' := 135) rfl ?_
      refine giload B X578 at_135 rfl (pc' := 137) rfl ?_
      refine giconst B X578 at_137 (v := (1 : Int32)) rfl (pc' := 138) rfl ?_
      refine giloadN B X578 at_138 rfl (pc' := 139) rfl ?_
      refine giloadN B X578 at_139 rfl (pc' := 140) rfl ?_
      refine giload B X578 at_140 rfl (pc' := 142) rfl ?_
      refine gcallS B X578 (hw _ (List.mem_of_getElem? (i := 1) rfl)) (hw _ (List.mem_of_getElem? (i := 2) rfl)) (hw _ (List.mem_of_getElem? (i := 3) rfl)) (hw _ (List.mem_of_getElem? (i := 4) rfl)) (by decide) (mt1_1 l Z a0 hw a520 a513 (0 : Int32) p1 p2 qm (2 : Int32) [(.int (ox0 p1 p2 qm)), (.int b1), (.int b2), (.int b3), (.int b4), (.int b5), (.int b6), (.int b7)] [(.int (oc0 p1)), (.int (0 : Int32))] 1 2 h576 A583 A584 (Ne.symm n525) rfl rfl (by decide) (by decide) (by decide) (by decide) rfl) pd___B_BIIIII_V rfl (argsL := [(.ref a520), (.ref a513), (.int (0 : Int32)), (.int (1 : Int32)), (.int p1), (.int p2), (.int qm)]) (st := []) rfl rfl (W := 0) (Nat.le_of_eq rfl) (by decide) (by decide) (by decide) (by decide) (allS (Or.inr z_a520) (allS (Or.inr z_a513) all0)) at_142 (pc' := 145) rfl fun T585 h586 v587 X588 K589 Q590 => ?_
      obtain ⟨rfl, A591, A592⟩ := Q590
      have A593 : VA Z h586 a520 .byte [(.int (ox0 p1 p2 qm)), (.int (ox1 p1 p2 qm)), (.int b2), (.int b3), (.int b4), (.int b5), (.int b6), (.int b7)] := A591
      have A594 : VA Z h586 a513 .byte [(.int (oc0 p1)), (.int (oc1 p1))] := A592
      show Go p e below s _ _ _ _ _ T585 (mkF m 145 #[.val (.long p0), .second, .val (.int p1), .val (.int p2), .val (.int p3), .val (.int (2 : Int32)), .val (.int (0 : Int32)), .val (.int qm), .val (.ref a513), .val (.ref a520), .unset] [])
      refine gaload B X588 at_145 rfl rfl (pc' := 147) rfl ?_
      refine gaload B X588 at_147 rfl rfl (pc' := 149) rfl ?_
      refine giload B X588 at_149 rfl (pc' := 151) rfl ?_
      refine giconst B X588 at_151 (v := (2 : Int32)) rfl (pc' := 152) rfl ?_
      refine giloadN B X588 at_152 rfl (pc' := 153) rfl ?_
      refine giloadN B X588 at_153 rfl (pc' := 154) rfl ?_
      refine giload B X588 at_154 rfl (pc' := 156) rfl ?_
      refine gcallS B X588 (hw _ (List.mem_of_getElem? (i := 1) rfl)) (hw _ (List.mem_of_getElem? (i := 2) rfl)) (hw _ (List.mem_of_getElem? (i := 3) rfl)) (hw _ (List.mem_of_getElem? (i := 4) rfl)) (by decide) (mt1_no l Z a0 hw a520 a513 (0 : Int32) (2 : Int32) p1 p2 qm (2 : Int32) [(.int (oc0 p1)), (.int (oc1 p1))] 2 h586 A594 rfl (by decide) (by decide)) pd___B_BIIIII_V rfl (argsL := [(.ref a520), (.ref a513), (.int (0 : Int32)), (.int (2 : Int32)), (.int p1), (.int p2), (.int qm)]) (st := []) rfl rfl (W := 0) (Nat.le_of_eq rfl) (by decide) (by decide) (by decide) (by decide) (fun x q => nomatch q) at_156 (pc' := 159) rfl (pureV rfl rfl fun T595 X596 => ?_)
      refine gaload B X596 at_159 rfl rfl (pc' := 161) rfl ?_
      refine gaload B X596 at_161 rfl rfl (pc' := 163) rfl ?_
      refine giload B X596 at_163 rfl (pc' := 165) rfl ?_
      refine giconst B X596 at_165 (v := (3 : Int32)) rfl (pc' := 166) rfl ?_
      refine giloadN B X596 at_166 rfl (pc' := 167) rfl ?_
      refine giloadN B X596 at_167 rfl (pc' := 168) rfl ?_
      refine giload B X596 at_168 rfl (pc' := 170) rfl ?_
      refine gcallS B X596 (hw _ (List.mem_of_getElem? (i := 1) rfl)) (hw _ (List.mem_of_getElem? (i := 2) rfl)) (hw _ (List.mem_of_getElem? (i := 3) rfl)) (hw _ (List.mem_of_getElem? (i := 4) rfl)) (by decide) (mt1_no l Z a0 hw a520 a513 (0 : Int32) (3 : Int32) p1 p2 qm (2 : Int32) [(.int (oc0 p1)), (.int (oc1 p1))] 2 h586 A594 rfl (by decide) (by decide)) pd___B_BIIIII_V rfl (argsL := [(.ref a520), (.ref a513), (.int (0 : Int32)), (.int (3 : Int32)), (.int p1), (.int p2), (.int qm)]) (st := []) rfl rfl (W := 0) (Nat.le_of_eq rfl) (by decide) (by decide) (by decide) (by decide) (fun x q => nomatch q) at_170 (pc' := 173) rfl (pureV rfl rfl fun T597 X598 => ?_)
      refine joinG B X598 (F := fun z => (mkF m 222 #[.val (.long p0), .second, .val (.int p1), .val (.int p2), .val (.int p3), .val (.int (2 : Int32)), .val (.int (0 : Int32)), .val (.int qm), .val (.ref a513), .val (.ref a520), .unset] [(.int z)])) (r := (oE (2 : Int32) qm)) (fun J => ?_) ?_
      · refine giconst B X598 at_173 (v := (0 : Int32)) rfl (pc' := 174) rfl ?_
        refine giload B X598 at_174 rfl (pc' := 176) rfl ?_
        refine giload B X598 at_176 rfl (pc' := 178) rfl ?_
        refine gcallS B X598 (hw _ (List.mem_of_getElem? (i := 5) rfl)) (hw _ (List.mem_of_getElem? (i := 6) rfl)) (hw _ (List.mem_of_getElem? (i := 3) rfl)) (hw _ (List.mem_of_getElem? (i := 7) rfl)) (by decide) (mt2 l Z a0 hw (0 : Int32) (2 : Int32) qm  h586 ) pd__III_Z rfl (argsL := [(.int (0 : Int32)), (.int (2 : Int32)), (.int qm)]) (st := []) rfl rfl (W := 0) (Nat.le_of_eq rfl) (by decide) (by decide) (by decide) (by decide) (fun x q => nomatch q) at_178 (pc' := 181) rfl (pureG rfl rfl fun T599 X600 => ?_)
        by_cases c181_601 : (f2 (0 : Int32) (2 : Int32) qm) = (0 : Int32)
        · refine gifY B X600 (pc' := 221) at_181 ((if0 _ _).trans (teq c181_601).1) (by decide) ?_
          refine giconst B X600 at_221 (v := (0 : Int32)) rfl (pc' := 222) rfl ?_
          have e_J : (oE (2 : Int32) qm) = (0 : Int32) := by rw [oE, if_pos c181_601]
          rw [e_J] at J
          exact J _ X600
        · refine gifN B X600 at_181 ((if0 _ _).trans (feq c181_601).1) (pc' := 184) rfl ?_
          refine giconst B X600 at_184 (v := (1 : Int32)) rfl (pc' := 185) rfl ?_
          refine giload B X600 at_185 rfl (pc' := 187) rfl ?_
          refine giload B X600 at_187 rfl (pc' := 189) rfl ?_
          refine gcallS B X600 (hw _ (List.mem_of_getElem? (i := 5) rfl)) (hw _ (List.mem_of_getElem? (i := 6) rfl)) (hw _ (List.mem_of_getElem? (i := 3) rfl)) (hw _ (List.mem_of_getElem? (i := 7) rfl)) (by decide) (mt2 l Z a0 hw (1 : Int32) (2 : Int32) qm  h586 ) pd__III_Z rfl (argsL := [(.int (1 : Int32)), (.int (2 : Int32)), (.int qm)]) (st := []) rfl rfl (W := 0) (Nat.le_of_eq rfl) (by decide) (by decide) (by decide) (by decide) (fun x q => nomatch q) at_189 (pc' := 192) rfl (pureG rfl rfl fun T602 X603 => ?_)
          by_cases c192_604 : (f2 (1 : Int32) (2 : Int32) qm) = (0 : Int32)
          · refine gifY B X603 (pc' := 221) at_192 ((if0 _ _).trans (teq c192_604).1) (by decide) ?_
            refine giconst B X603 at_221 (v := (0 : Int32)) rfl (pc' := 222) rfl ?_
            have e_J : (oE (2 : Int32) qm) = (0 : Int32) := by rw [oE, if_neg c181_601, if_pos c192_604]
            rw [e_J] at J
            exact J _ X603
          · refine gifN B X603 at_192 ((if0 _ _).trans (feq c192_604).1) (pc' := 195) rfl ?_
            refine giconst B X603 at_195 (v := (2 : Int32)) rfl (pc' := 196) rfl ?_
            refine giload B X603 at_196 rfl (pc' := 198) rfl ?_
            refine giload B X603 at_198 rfl (pc' := 200) rfl ?_
            refine gcallS B X603 (hw _ (List.mem_of_getElem? (i := 5) rfl)) (hw _ (List.mem_of_getElem? (i := 6) rfl)) (hw _ (List.mem_of_getElem? (i := 3) rfl)) (hw _ (List.mem_of_getElem? (i := 7) rfl)) (by decide) (mt2 l Z a0 hw (2 : Int32) (2 : Int32) qm  h586 ) pd__III_Z rfl (argsL := [(.int (2 : Int32)), (.int (2 : Int32)), (.int qm)]) (st := []) rfl rfl (W := 0) (Nat.le_of_eq rfl) (by decide) (by decide) (by decide) (by decide) (fun x q => nomatch q) at_200 (pc' := 203) rfl (pureG rfl rfl fun T605 X606 => ?_)
            by_cases c203_607 : (f2 (2 : Int32) (2 : Int32) qm) = (0 : Int32)
            · refine gifY B X606 (pc' := 221) at_203 ((if0 _ _).trans (teq c203_607).1) (by decide) ?_
              refine giconst B X606 at_221 (v := (0 : Int32)) rfl (pc' := 222) rfl ?_
              have e_J : (oE (2 : Int32) qm) = (0 : Int32) := by rw [oE, if_neg c181_601, if_neg c192_604, if_pos c203_607]
              rw [e_J] at J
              exact J _ X606
            · refine gifN B X606 at_203 ((if0 _ _).trans (feq c203_607).1) (pc' := 206) rfl ?_
              refine giconst B X606 at_206 (v := (3 : Int32)) rfl (pc' := 207) rfl ?_
              refine giload B X606 at_207 rfl (pc' := 209) rfl ?_
              refine giload B X606 at_209 rfl (pc' := 211) rfl ?_
              refine gcallS B X606 (hw _ (List.mem_of_getElem? (i := 5) rfl)) (hw _ (List.mem_of_getElem? (i := 6) rfl)) (hw _ (List.mem_of_getElem? (i := 3) rfl)) (hw _ (List.mem_of_getElem? (i := 7) rfl)) (by decide) (mt2 l Z a0 hw (3 : Int32) (2 : Int32) qm  h586 ) pd__III_Z rfl (argsL := [(.int (3 : Int32)), (.int (2 : Int32)), (.int qm)]) (st := []) rfl rfl (W := 0) (Nat.le_of_eq rfl) (by decide) (by decide) (by decide) (by decide) (fun x q => nomatch q) at_211 (pc' := 214) rfl (pureG rfl rfl fun T608 X609 => ?_)
              by_cases c214_610 : (f2 (3 : Int32) (2 : Int32) qm) = (0 : Int32)
              · refine gifY B X609 (pc' := 221) at_214 ((if0 _ _).trans (teq c214_610).1) (by decide) ?_
                refine giconst B X609 at_221 (v := (0 : Int32)) rfl (pc' := 222) rfl ?_
                have e_J : (oE (2 : Int32) qm) = (0 : Int32) := by rw [oE, if_neg c181_601, if_neg c192_604, if_neg c203_607, if_pos c214_610]
                rw [e_J] at J
                exact J _ X609
              · refine gifN B X609 at_214 ((if0 _ _).trans (feq c214_610).1) (pc' := 217) rfl ?_
                refine giconst B X609 at_217 (v := (1 : Int32)) rfl (pc' := 218) rfl ?_
                refine ggoto B X609 (pc' := 222) at_218 (by decide) ?_
                have e_J : (oE (2 : Int32) qm) = (1 : Int32) := by rw [oE, if_neg c181_601, if_neg c192_604, if_neg c203_607, if_neg c214_610]
                rw [e_J] at J
                exact J _ X609
      intro T611 X612
      show Go p e below s _ _ _ _ _ T611 (mkF m 222 #[.val (.long p0), .second, .val (.int p1), .val (.int p2), .val (.int p3), .val (.int (2 : Int32)), .val (.int (0 : Int32)), .val (.int qm), .val (.ref a513), .val (.ref a520), .unset] [(.int (oE (2 : Int32) qm))])
      refine gistore B X612 at_222 (Ls' := #[.val (.long p0), .second, .val (.int p1), .val (.int p2), .val (.int p3), .val (.int (2 : Int32)), .val (.int (0 : Int32)), .val (.int qm), .val (.ref a513), .val (.ref a520), .val (.int (oE (2 : Int32) qm))]) rfl (pc' := 224) rfl ?_
      refine gaload B X612 at_224 rfl rfl (pc' := 226) rfl ?_
      refine giload B X612 at_226 rfl (pc' := 228) rfl ?_
      refine gaload B X612 at_228 rfl rfl (pc' := 230) rfl ?_
      refine gcallS B X612 (hw _ (List.mem_of_getElem? (i := 8) rfl)) (hw _ (List.mem_of_getElem? (i := 9) rfl)) (hw _ (List.mem_of_getElem? (i := 10) rfl)) (hw _ (List.mem_of_getElem? (i := 11) rfl)) (by decide) (mt3_2 l Z a0 hw a520 (0 : Int32) a513 [(.int (ox0 p1 p2 qm)), (.int (ox1 p1 p2 qm)), (.int b2), (.int b3), (.int b4), (.int b5), (.int b6), (.int b7)] (ox0 p1 p2 qm) (oc0 p1) (ox1 p1 p2 qm) (oc1 p1) h586 A593 rfl A594 (by decide) rfl (by decide) rfl) pd___BI_B_Z rfl (argsL := [(.ref a520), (.int (0 : Int32)), (.ref a513)]) (st := []) rfl rfl (W := 0) (Nat.le_of_eq rfl) (by decide) (by decide) (by decide) (by decide) (fun x q => nomatch q) at_230 (pc' := 233) rfl (pureG rfl rfl fun T613 X614 => ?_)
      refine giload B X614 at_233 rfl (pc' := 235) rfl ?_
      have c235_615 : (f3_2 (ox0 p1 p2 qm) (oc0 p1) (ox1 p1 p2 qm) (oc1 p1)) = (oE (2 : Int32) qm) := own_fin2 p1 p2 qm
      refine gicN B X614 at_235 (teq c235_615).2 (pc' := 238) rfl ?_
      refine giconst B X614 at_238 (v := (1 : Int32)) rfl (pc' := 239) rfl ?_
      refine ggoto B X614 (pc' := 243) at_239 (by decide) ?_
      exact gretN B X614 (z' := (1 : Int32)) (by simp) (rfl) at_243 (by decide) (by decide) (rfl)
    · skip
      refine gaload B X571 at_117 rfl rfl (pc' := 119) rfl ?_
      refine gaload B X571 at_119 rfl rfl (pc' := 121) rfl ?_
      refine giload B X571 at_121 rfl (pc' := 123) rfl ?_
      refine giconst B X571 at_123 (v := (0 : Int32)) rfl (pc' := 124) rfl ?_
      refine giloadN B X571 at_124 rfl (pc' := 125) rfl ?_
      refine giloadN B X571 at_125 rfl (pc' := 126) rfl ?_
      refine giload B X571 at_126 rfl (pc' := 128) rfl ?_
      refine gcallS B X571 (hw _ (List.mem_of_getElem? (i := 1) rfl)) (hw _ (List.mem_of_getElem? (i := 2) rfl)) (hw _ (List.mem_of_getElem? (i := 3) rfl)) (hw _ (List.mem_of_getElem? (i := 4) rfl)) (by decide) (mt1_0 l Z a0 hw a520 a513 (1 : Int32) p1 p2 qm (2 : Int32) [(.int b0), (.int b1), (.int b2), (.int b3), (.int b4), (.int b5), (.int b6), (.int b7)] [(.int (0 : Int32)), (.int (0 : Int32))] 1 2 h570 A573 F574 (Ne.symm n525) rfl rfl (by decide) (by decide) (by decide) (by decide) rfl) pd___B_BIIIII_V rfl (argsL := [(.ref a520), (.ref a513), (.int (1 : Int32)), (.int (0 : Int32)), (.int p1), (.int p2), (.int qm)]) (st := []) rfl rfl (W := 0) (Nat.le_of_eq rfl) (by decide) (by decide) (by decide) (by decide) (allS (Or.inr z_a520) (allS (Or.inr z_a513) all0)) at_128 (pc' := 131) rfl fun T616 h617 v618 X619 K620 Q621 => ?_
      obtain ⟨rfl, A622, A623⟩ := Q621
      have A624 : VA Z h617 a520 .byte [(.int b0), (.int (ox0 p1 p2 qm)), (.int b2), (.int b3), (.int b4), (.int b5), (.int b6), (.int b7)] := A622
      have A625 : VA Z h617 a513 .byte [(.int (oc0 p1)), (.int (0 : Int32))] := A623
      show Go p e below s _ _ _ _ _ T616 (mkF m 131 #[.val (.long p0), .second, .val (.int p1), .val (.int p2), .val (.int p3), .val (.int (2 : Int32)), .val (.int (1 : Int32)), .val (.int qm), .val (.ref a513), .val (.ref a520), .unset] [])
      refine gaload B X619 at_131 rfl rfl (pc' := 133) rfl ?_
      refine gaload B X619 at_133 rfl rfl (pc' := 135) rfl ?_
      refine giload B X619 at_135 rfl (pc' := 137) rfl ?_
      refine giconst B X619 at_137 (v := (1 : Int32)) rfl (pc' := 138) rfl ?_
      refine giloadN B X619 at_138 rfl (pc' := 139) rfl ?_
      refine giloadN B X619 at_139 rfl (pc' := 140) rfl ?_
      refine giload B X619 at_140 rfl (pc' := 142) rfl ?_
      refine gcallS B X619 (hw _ (List.mem_of_getElem? (i := 1) rfl)) (hw _ (List.mem_of_getElem? (i := 2) rfl)) (hw _ (List.mem_of_getElem? (i := 3) rfl)) (hw _ (List.mem_of_getElem? (i := 4) rfl)) (by decide) (mt1_1 l Z a0 hw a520 a513 (1 : Int32) p1 p2 qm (2 : Int32) [(.int b0), (.int (ox0 p1 p2 qm)), (.int b2), (.int b3), (.int b4), (.int b5), (.int b6), (.int b7)] [(.int (oc0 p1)), (.int (0 : Int32))] 2 2 h617 A624 A625 (Ne.symm n525) rfl rfl (by decide) (by decide) (by decide) (by decide) rfl) pd___B_BIIIII_V rfl (argsL := [(.ref a520), (.ref a513), (.int (1 : Int32)), (.int (1 : Int32)), (.int p1), (.int p2), (.int qm)]) (st := []) rfl rfl (W := 0) (Nat.le_of_eq rfl) (by decide) (by decide) (by decide) (by decide) (allS (Or.inr z_a520) (allS (Or.inr z_a513) all0)) at_142 (pc' := 145) rfl fun T626 h627 v628 X629 K630 Q631 => ?_
      obtain ⟨rfl, A632, A633⟩ := Q631
      have A634 : VA Z h627 a520 .byte [(.int b0), (.int (ox0 p1 p2 qm)), (.int (ox1 p1 p2 qm)), (.int b3), (.int b4), (.int b5), (.int b6), (.int b7)] := A632
      have A635 : VA Z h627 a513 .byte [(.int (oc0 p1)), (.int (oc1 p1))] := A633
      show Go p e below s _ _ _ _ _ T626 (mkF m 145 #[.val (.long p0), .second, .val (.int p1), .val (.int p2), .val (.int p3), .val (.int (2 : Int32)), .val (.int (1 : Int32)), .val (.int qm), .val (.ref a513), .val (.ref a520), .unset] [])
      refine gaload B X629 at_145 rfl rfl (pc' := 147) rfl ?_
      refine gaload B X629 at_147 rfl rfl (pc' := 149) rfl ?_
      refine giload B X629 at_149 rfl (pc' := 151) rfl ?_
      refine giconst B X629 at_151 (v := (2 : Int32)) rfl (pc' := 152) rfl ?_
      refine giloadN B X629 at_152 rfl (pc' := 153) rfl ?_
      refine giloadN B X629 at_153 rfl (pc' := 154) rfl ?_
      refine giload B X629 at_154 rfl (pc' := 156) rfl ?_
      refine gcallS B X629 (hw _ (List.mem_of_getElem? (i := 1) rfl)) (hw _ (List.mem_of_getElem? (i := 2) rfl)) (hw _ (List.mem_of_getElem? (i := 3) rfl)) (hw _ (List.mem_of_getElem? (i := 4) rfl)) (by decide) (mt1_no l Z a0 hw a520 a513 (1 : Int32) (2 : Int32) p1 p2 qm (2 : Int32) [(.int (oc0 p1)), (.int (oc1 p1))] 2 h627 A635 rfl (by decide) (by decide)) pd___B_BIIIII_V rfl (argsL := [(.ref a520), (.ref a513), (.int (1 : Int32)), (.int (2 : Int32)), (.int p1), (.int p2), (.int qm)]) (st := []) rfl rfl (W := 0) (Nat.le_of_eq rfl) (by decide) (by decide) (by decide) (by decide) (fun x q => nomatch q) at_156 (pc' := 159) rfl (pureV rfl rfl fun T636 X637 => ?_)
      refine gaload B X637 at_159 rfl rfl (pc' := 161) rfl ?_
      refine gaload B X637 at_161 rfl rfl (pc' := 163) rfl ?_
      refine giload B X637 at_163 rfl (pc' := 165) rfl ?_
      refine giconst B X637 at_165 (v := (3 : Int32)) rfl (pc' := 166) rfl ?_
      refine giloadN B X637 at_166 rfl (pc' := 167) rfl ?_
      refine giloadN B X637 at_167 rfl (pc' := 168) rfl ?_
      refine giload B X637 at_168 rfl (pc' := 170) rfl ?_
      refine gcallS B X637 (hw _ (List.mem_of_getElem? (i := 1) rfl)) (hw _ (List.mem_of_getElem? (i := 2) rfl)) (hw _ (List.mem_of_getElem? (i := 3) rfl)) (hw _ (List.mem_of_getElem? (i := 4) rfl)) (by decide) (mt1_no l Z a0 hw a520 a513 (1 : Int32) (3 : Int32) p1 p2 qm (2 : Int32) [(.int (oc0 p1)), (.int (oc1 p1))] 2 h627 A635 rfl (by decide) (by decide)) pd___B_BIIIII_V rfl (argsL := [(.ref a520), (.ref a513), (.int (1 : Int32)), (.int (3 : Int32)), (.int p1), (.int p2), (.int qm)]) (st := []) rfl rfl (W := 0) (Nat.le_of_eq rfl) (by decide) (by decide) (by decide) (by decide) (fun x q => nomatch q) at_170 (pc' := 173) rfl (pureV rfl rfl fun T638 X639 => ?_)
      refine joinG B X639 (F := fun z => (mkF m 222 #[.val (.long p0), .second, .val (.int p1), .val (.int p2), .val (.int p3), .val (.int (2 : Int32)), .val (.int (1 : Int32)), .val (.int qm), .val (.ref a513), .val (.ref a520), .unset] [(.int z)])) (r := (oE (2 : Int32) qm)) (fun J => ?_) ?_
      · refine giconst B X639 at_173 (v := (0 : Int32)) rfl (pc' := 174) rfl ?_
        refine giload B X639 at_174 rfl (pc' := 176) rfl ?_
        refine giload B X639 at_176 rfl (pc' := 178) rfl ?_
        refine gcallS B X639 (hw _ (List.mem_of_getElem? (i := 5) rfl)) (hw _ (List.mem_of_getElem? (i := 6) rfl)) (hw _ (List.mem_of_getElem? (i := 3) rfl)) (hw _ (List.mem_of_getElem? (i := 7) rfl)) (by decide) (mt2 l Z a0 hw (0 : Int32) (2 : Int32) qm  h627 ) pd__III_Z rfl (argsL := [(.int (0 : Int32)), (.int (2 : Int32)), (.int qm)]) (st := []) rfl rfl (W := 0) (Nat.le_of_eq rfl) (by decide) (by decide) (by decide) (by decide) (fun x q => nomatch q) at_178 (pc' := 181) rfl (pureG rfl rfl fun T640 X641 => ?_)
        by_cases c181_642 : (f2 (0 : Int32) (2 : Int32) qm) = (0 : Int32)
        · refine gifY B X641 (pc' := 221) at_181 ((if0 _ _).trans (teq c181_642).1) (by decide) ?_
          refine giconst B X641 at_221 (v := (0 : Int32)) rfl (pc' := 222) rfl ?_
          have e_J : (oE (2 : Int32) qm) = (0 : Int32) := by rw [oE, if_pos c181_642]
          rw [e_J] at J
          exact J _ X641
        · refine gifN B X641 at_181 ((if0 _ _).trans (feq c181_642).1) (pc' := 184) rfl ?_
          refine giconst B X641 at_184 (v := (1 : Int32)) rfl (pc' := 185) rfl ?_
          refine giload B X641 at_185 rfl (pc' := 187) rfl ?_
          refine giload B X641 at_187 rfl (pc' := 189) rfl ?_
          refine gcallS B X641 (hw _ (List.mem_of_getElem? (i := 5) rfl)) (hw _ (List.mem_of_getElem? (i := 6) rfl)) (hw _ (List.mem_of_getElem? (i := 3) rfl)) (hw _ (List.mem_of_getElem? (i := 7) rfl)) (by decide) (mt2 l Z a0 hw (1 : Int32) (2 : Int32) qm  h627 ) pd__III_Z rfl (argsL := [(.int (1 : Int32)), (.int (2 : Int32)), (.int qm)]) (st := []) rfl rfl (W := 0) (Nat.le_of_eq rfl) (by decide) (by decide) (by decide) (by decide) (fun x q => nomatch q) at_189 (pc' := 192) rfl (pureG rfl rfl fun T643 X644 => ?_)
          by_cases c192_645 : (f2 (1 : Int32) (2 : Int32) qm) = (0 : Int32)
          · refine gifY B X644 (pc' := 221) at_192 ((if0 _ _).trans (teq c192_645).1) (by decide) ?_
            refine giconst B X644 at_221 (v := (0 : Int32)) rfl (pc' := 222) rfl ?_
            have e_J : (oE (2 : Int32) qm) = (0 : Int32) := by rw [oE, if_neg c181_642, if_pos c192_645]
            rw [e_J] at J
            exact J _ X644
          · refine gifN B X644 at_192 ((if0 _ _).trans (feq c192_645).1) (pc' := 195) rfl ?_
            refine giconst B X644 at_195 (v := (2 : Int32)) rfl (pc' := 196) rfl ?_
            refine giload B X644 at_196 rfl (pc' := 198) rfl ?_
            refine giload B X644 at_198 rfl (pc' := 200) rfl ?_
            refine gcallS B X644 (hw _ (List.mem_of_getElem? (i := 5) rfl)) (hw _ (List.mem_of_getElem? (i := 6) rfl)) (hw _ (List.mem_of_getElem? (i := 3) rfl)) (hw _ (List.mem_of_getElem? (i := 7) rfl)) (by decide) (mt2 l Z a0 hw (2 : Int32) (2 : Int32) qm  h627 ) pd__III_Z rfl (argsL := [(.int (2 : Int32)), (.int (2 : Int32)), (.int qm)]) (st := []) rfl rfl (W := 0) (Nat.le_of_eq rfl) (by decide) (by decide) (by decide) (by decide) (fun x q => nomatch q) at_200 (pc' := 203) rfl (pureG rfl rfl fun T646 X647 => ?_)
            by_cases c203_648 : (f2 (2 : Int32) (2 : Int32) qm) = (0 : Int32)
            · refine gifY B X647 (pc' := 221) at_203 ((if0 _ _).trans (teq c203_648).1) (by decide) ?_
              refine giconst B X647 at_221 (v := (0 : Int32)) rfl (pc' := 222) rfl ?_
              have e_J : (oE (2 : Int32) qm) = (0 : Int32) := by rw [oE, if_neg c181_642, if_neg c192_645, if_pos c203_648]
              rw [e_J] at J
              exact J _ X647
            · refine gifN B X647 at_203 ((if0 _ _).trans (feq c203_648).1) (pc' := 206) rfl ?_
              refine giconst B X647 at_206 (v := (3 : Int32)) rfl (pc' := 207) rfl ?_
              refine giload B X647 at_207 rfl (pc' := 209) rfl ?_
              refine giload B X647 at_209 rfl (pc' := 211) rfl ?_
              refine gcallS B X647 (hw _ (List.mem_of_getElem? (i := 5) rfl)) (hw _ (List.mem_of_getElem? (i := 6) rfl)) (hw _ (List.mem_of_getElem? (i := 3) rfl)) (hw _ (List.mem_of_getElem? (i := 7) rfl)) (by decide) (mt2 l Z a0 hw (3 : Int32) (2 : Int32) qm  h627 ) pd__III_Z rfl (argsL := [(.int (3 : Int32)), (.int (2 : Int32)), (.int qm)]) (st := []) rfl rfl (W := 0) (Nat.le_of_eq rfl) (by decide) (by decide) (by decide) (by decide) (fun x q => nomatch q) at_211 (pc' := 214) rfl (pureG rfl rfl fun T649 X650 => ?_)
              by_cases c214_651 : (f2 (3 : Int32) (2 : Int32) qm) = (0 : Int32)
              · refine gifY B X650 (pc' := 221) at_214 ((if0 _ _).trans (teq c214_651).1) (by decide) ?_
                refine giconst B X650 at_221 (v := (0 : Int32)) rfl (pc' := 222) rfl ?_
                have e_J : (oE (2 : Int32) qm) = (0 : Int32) := by rw [oE, if_neg c181_642, if_neg c192_645, if_neg c203_648, if_pos c214_651]
                rw [e_J] at J
                exact J _ X650
              · refine gifN B X650 at_214 ((if0 _ _).trans (feq c214_651).1) (pc' := 217) rfl ?_
                refine giconst B X650 at_217 (v := (1 : Int32)) rfl (pc' := 218) rfl ?_
                refine ggoto B X650 (pc' := 222) at_218 (by decide) ?_
                have e_J : (oE (2 : Int32) qm) = (1 : Int32) := by rw [oE, if_neg c181_642, if_neg c192_645, if_neg c203_648, if_neg c214_651]
                rw [e_J] at J
                exact J _ X650
      intro T652 X653
      show Go p e below s _ _ _ _ _ T652 (mkF m 222 #[.val (.long p0), .second, .val (.int p1), .val (.int p2), .val (.int p3), .val (.int (2 : Int32)), .val (.int (1 : Int32)), .val (.int qm), .val (.ref a513), .val (.ref a520), .unset] [(.int (oE (2 : Int32) qm))])
      refine gistore B X653 at_222 (Ls' := #[.val (.long p0), .second, .val (.int p1), .val (.int p2), .val (.int p3), .val (.int (2 : Int32)), .val (.int (1 : Int32)), .val (.int qm), .val (.ref a513), .val (.ref a520), .val (.int (oE (2 : Int32) qm))]) rfl (pc' := 224) rfl ?_
      refine gaload B X653 at_224 rfl rfl (pc' := 226) rfl ?_
      refine giload B X653 at_226 rfl (pc' := 228) rfl ?_
      refine gaload B X653 at_228 rfl rfl (pc' := 230) rfl ?_
      refine gcallS B X653 (hw _ (List.mem_of_getElem? (i := 8) rfl)) (hw _ (List.mem_of_getElem? (i := 9) rfl)) (hw _ (List.mem_of_getElem? (i := 10) rfl)) (hw _ (List.mem_of_getElem? (i := 11) rfl)) (by decide) (mt3_2 l Z a0 hw a520 (1 : Int32) a513 [(.int b0), (.int (ox0 p1 p2 qm)), (.int (ox1 p1 p2 qm)), (.int b3), (.int b4), (.int b5), (.int b6), (.int b7)] (ox0 p1 p2 qm) (oc0 p1) (ox1 p1 p2 qm) (oc1 p1) h627 A634 rfl A635 (by decide) rfl (by decide) rfl) pd___BI_B_Z rfl (argsL := [(.ref a520), (.int (1 : Int32)), (.ref a513)]) (st := []) rfl rfl (W := 0) (Nat.le_of_eq rfl) (by decide) (by decide) (by decide) (by decide) (fun x q => nomatch q) at_230 (pc' := 233) rfl (pureG rfl rfl fun T654 X655 => ?_)
      refine giload B X655 at_233 rfl (pc' := 235) rfl ?_
      have c235_656 : (f3_2 (ox0 p1 p2 qm) (oc0 p1) (ox1 p1 p2 qm) (oc1 p1)) = (oE (2 : Int32) qm) := own_fin2 p1 p2 qm
      refine gicN B X655 at_235 (teq c235_656).2 (pc' := 238) rfl ?_
      refine giconst B X655 at_238 (v := (1 : Int32)) rfl (pc' := 239) rfl ?_
      refine ggoto B X655 (pc' := 243) at_239 (by decide) ?_
      exact gretN B X655 (z' := (1 : Int32)) (by simp) (rfl) at_243 (by decide) (by decide) (rfl)
    · skip
      refine gaload B X571 at_117 rfl rfl (pc' := 119) rfl ?_
      refine gaload B X571 at_119 rfl rfl (pc' := 121) rfl ?_
      refine giload B X571 at_121 rfl (pc' := 123) rfl ?_
      refine giconst B X571 at_123 (v := (0 : Int32)) rfl (pc' := 124) rfl ?_
      refine giloadN B X571 at_124 rfl (pc' := 125) rfl ?_
      refine giloadN B X571 at_125 rfl (pc' := 126) rfl ?_
      refine giload B X571 at_126 rfl (pc' := 128) rfl ?_
      refine gcallS B X571 (hw _ (List.mem_of_getElem? (i := 1) rfl)) (hw _ (List.mem_of_getElem? (i := 2) rfl)) (hw _ (List.mem_of_getElem? (i := 3) rfl)) (hw _ (List.mem_of_getElem? (i := 4) rfl)) (by decide) (mt1_0 l Z a0 hw a520 a513 (2 : Int32) p1 p2 qm (2 : Int32) [(.int b0), (.int b1), (.int b2), (.int b3), (.int b4), (.int b5), (.int b6), (.int b7)] [(.int (0 : Int32)), (.int (0 : Int32))] 2 2 h570 A573 F574 (Ne.symm n525) rfl rfl (by decide) (by decide) (by decide) (by decide) rfl) pd___B_BIIIII_V rfl (argsL := [(.ref a520), (.ref a513), (.int (2 : Int32)), (.int (0 : Int32)), (.int p1), (.int p2), (.int qm)]) (st := []) rfl rfl (W := 0) (Nat.le_of_eq rfl) (by decide) (by decide) (by decide) (by decide) (allS (Or.inr z_a520) (allS (Or.inr z_a513) all0)) at_128 (pc' := 131) rfl fun T657 h658 v659 X660 K661 Q662 => ?_
      obtain ⟨rfl, A663, A664⟩ := Q662
      have A665 : VA Z h658 a520 .byte [(.int b0), (.int b1), (.int (ox0 p1 p2 qm)), (.int b3), (.int b4), (.int b5), (.int b6), (.int b7)] := A663
      have A666 : VA Z h658 a513 .byte [(.int (oc0 p1)), (.int (0 : Int32))] := A664
      show Go p e below s _ _ _ _ _ T657 (mkF m 131 #[.val (.long p0), .second, .val (.int p1), .val (.int p2), .val (.int p3), .val (.int (2 : Int32)), .val (.int (2 : Int32)), .val (.int qm), .val (.ref a513), .val (.ref a520), .unset] [])
      refine gaload B X660 at_131 rfl rfl (pc' := 133) rfl ?_
      refine gaload B X660 at_133 rfl rfl (pc' := 135) rfl ?_
      refine giload B X660 at_135 rfl (pc' := 137) rfl ?_
      refine giconst B X660 at_137 (v := (1 : Int32)) rfl (pc' := 138) rfl ?_
      refine giloadN B X660 at_138 rfl (pc' := 139) rfl ?_
      refine giloadN B X660 at_139 rfl (pc' := 140) rfl ?_
      refine giload B X660 at_140 rfl (pc' := 142) rfl ?_
      refine gcallS B X660 (hw _ (List.mem_of_getElem? (i := 1) rfl)) (hw _ (List.mem_of_getElem? (i := 2) rfl)) (hw _ (List.mem_of_getElem? (i := 3) rfl)) (hw _ (List.mem_of_getElem? (i := 4) rfl)) (by decide) (mt1_1 l Z a0 hw a520 a513 (2 : Int32) p1 p2 qm (2 : Int32) [(.int b0), (.int b1), (.int (ox0 p1 p2 qm)), (.int b3), (.int b4), (.int b5), (.int b6), (.int b7)] [(.int (oc0 p1)), (.int (0 : Int32))] 3 2 h658 A665 A666 (Ne.symm n525) rfl rfl (by decide) (by decide) (by decide) (by decide) rfl) pd___B_BIIIII_V rfl (argsL := [(.ref a520), (.ref a513), (.int (2 : Int32)), (.int (1 : Int32)), (.int p1), (.int p2), (.int qm)]) (st := []) rfl rfl (W := 0) (Nat.le_of_eq rfl) (by decide) (by decide) (by decide) (by decide) (allS (Or.inr z_a520) (allS (Or.inr z_a513) all0)) at_142 (pc' := 145) rfl fun T667 h668 v669 X670 K671 Q672 => ?_
      obtain ⟨rfl, A673, A674⟩ := Q672
      have A675 : VA Z h668 a520 .byte [(.int b0), (.int b1), (.int (ox0 p1 p2 qm)), (.int (ox1 p1 p2 qm)), (.int b4), (.int b5), (.int b6), (.int b7)] := A673
      have A676 : VA Z h668 a513 .byte [(.int (oc0 p1)), (.int (oc1 p1))] := A674
      show Go p e below s _ _ _ _ _ T667 (mkF m 145 #[.val (.long p0), .second, .val (.int p1), .val (.int p2), .val (.int p3), .val (.int (2 : Int32)), .val (.int (2 : Int32)), .val (.int qm), .val (.ref a513), .val (.ref a520), .unset] [])
      refine gaload B X670 at_145 rfl rfl (pc' := 147) rfl ?_
      refine gaload B X670 at_147 rfl rfl (pc' := 149) rfl ?_
      refine giload B X670 at_149 rfl (pc' := 151) rfl ?_
      refine giconst B X670 at_151 (v := (2 : Int32)) rfl (pc' := 152) rfl ?_
      refine giloadN B X670 at_152 rfl (pc' := 153) rfl ?_
      refine giloadN B X670 at_153 rfl (pc' := 154) rfl ?_
      refine giload B X670 at_154 rfl (pc' := 156) rfl ?_
      refine gcallS B X670 (hw _ (List.mem_of_getElem? (i := 1) rfl)) (hw _ (List.mem_of_getElem? (i := 2) rfl)) (hw _ (List.mem_of_getElem? (i := 3) rfl)) (hw _ (List.mem_of_getElem? (i := 4) rfl)) (by decide) (mt1_no l Z a0 hw a520 a513 (2 : Int32) (2 : Int32) p1 p2 qm (2 : Int32) [(.int (oc0 p1)), (.int (oc1 p1))] 2 h668 A676 rfl (by decide) (by decide)) pd___B_BIIIII_V rfl (argsL := [(.ref a520), (.ref a513), (.int (2 : Int32)), (.int (2 : Int32)), (.int p1), (.int p2), (.int qm)]) (st := []) rfl rfl (W := 0) (Nat.le_of_eq rfl) (by decide) (by decide) (by decide) (by decide) (fun x q => nomatch q) at_156 (pc' := 159) rfl (pureV rfl rfl fun T677 X678 => ?_)
      refine gaload B X678 at_159 rfl rfl (pc' := 161) rfl ?_
      refine gaload B X678 at_161 rfl rfl (pc' := 163) rfl ?_
      refine giload B X678 at_163 rfl (pc' := 165) rfl ?_
      refine giconst B X678 at_165 (v := (3 : Int32)) rfl (pc' := 166) rfl ?_
      refine giloadN B X678 at_166 rfl (pc' := 167) rfl ?_
      refine giloadN B X678 at_167 rfl (pc' := 168) rfl ?_
      refine giload B X678 at_168 rfl (pc' := 170) rfl ?_
      refine gcallS B X678 (hw _ (List.mem_of_getElem? (i := 1) rfl)) (hw _ (List.mem_of_getElem? (i := 2) rfl)) (hw _ (List.mem_of_getElem? (i := 3) rfl)) (hw _ (List.mem_of_getElem? (i := 4) rfl)) (by decide) (mt1_no l Z a0 hw a520 a513 (2 : Int32) (3 : Int32) p1 p2 qm (2 : Int32) [(.int (oc0 p1)), (.int (oc1 p1))] 2 h668 A676 rfl (by decide) (by decide)) pd___B_BIIIII_V rfl (argsL := [(.ref a520), (.ref a513), (.int (2 : Int32)), (.int (3 : Int32)), (.int p1), (.int p2), (.int qm)]) (st := []) rfl rfl (W := 0) (Nat.le_of_eq rfl) (by decide) (by decide) (by decide) (by decide) (fun x q => nomatch q) at_170 (pc' := 173) rfl (pureV rfl rfl fun T679 X680 => ?_)
      refine joinG B X680 (F := fun z => (mkF m 222 #[.val (.long p0), .second, .val (.int p1), .val (.int p2), .val (.int p3), .val (.int (2 : Int32)), .val (.int (2 : Int32)), .val (.int qm), .val (.ref a513), .val (.ref a520), .unset] [(.int z)])) (r := (oE (2 : Int32) qm)) (fun J => ?_) ?_
      · refine giconst B X680 at_173 (v := (0 : Int32)) rfl (pc' := 174) rfl ?_
        refine giload B X680 at_174 rfl (pc' := 176) rfl ?_
        refine giload B X680 at_176 rfl (pc' := 178) rfl ?_
        refine gcallS B X680 (hw _ (List.mem_of_getElem? (i := 5) rfl)) (hw _ (List.mem_of_getElem? (i := 6) rfl)) (hw _ (List.mem_of_getElem? (i := 3) rfl)) (hw _ (List.mem_of_getElem? (i := 7) rfl)) (by decide) (mt2 l Z a0 hw (0 : Int32) (2 : Int32) qm  h668 ) pd__III_Z rfl (argsL := [(.int (0 : Int32)), (.int (2 : Int32)), (.int qm)]) (st := []) rfl rfl (W := 0) (Nat.le_of_eq rfl) (by decide) (by decide) (by decide) (by decide) (fun x q => nomatch q) at_178 (pc' := 181) rfl (pureG rfl rfl fun T681 X682 => ?_)
        by_cases c181_683 : (f2 (0 : Int32) (2 : Int32) qm) = (0 : Int32)
        · refine gifY B X682 (pc' := 221) at_181 ((if0 _ _).trans (teq c181_683).1) (by decide) ?_
          refine giconst B X682 at_221 (v := (0 : Int32)) rfl (pc' := 222) rfl ?_
          have e_J : (oE (2 : Int32) qm) = (0 : Int32) := by rw [oE, if_pos c181_683]
          rw [e_J] at J
          exact J _ X682
        · refine gifN B X682 at_181 ((if0 _ _).trans (feq c181_683).1) (pc' := 184) rfl ?_
          refine giconst B X682 at_184 (v := (1 : Int32)) rfl (pc' := 185) rfl ?_
          refine giload B X682 at_185 rfl (pc' := 187) rfl ?_
          refine giload B X682 at_187 rfl (pc' := 189) rfl ?_
          refine gcallS B X682 (hw _ (List.mem_of_getElem? (i := 5) rfl)) (hw _ (List.mem_of_getElem? (i := 6) rfl)) (hw _ (List.mem_of_getElem? (i := 3) rfl)) (hw _ (List.mem_of_getElem? (i := 7) rfl)) (by decide) (mt2 l Z a0 hw (1 : Int32) (2 : Int32) qm  h668 ) pd__III_Z rfl (argsL := [(.int (1 : Int32)), (.int (2 : Int32)), (.int qm)]) (st := []) rfl rfl (W := 0) (Nat.le_of_eq rfl) (by decide) (by decide) (by decide) (by decide) (fun x q => nomatch q) at_189 (pc' := 192) rfl (pureG rfl rfl fun T684 X685 => ?_)
          by_cases c192_686 : (f2 (1 : Int32) (2 : Int32) qm) = (0 : Int32)
          · refine gifY B X685 (pc' := 221) at_192 ((if0 _ _).trans (teq c192_686).1) (by decide) ?_
            refine giconst B X685 at_221 (v := (0 : Int32)) rfl (pc' := 222) rfl ?_
            have e_J : (oE (2 : Int32) qm) = (0 : Int32) := by rw [oE, if_neg c181_683, if_pos c192_686]
            rw [e_J] at J
            exact J _ X685
          · refine gifN B X685 at_192 ((if0 _ _).trans (feq c192_686).1) (pc' := 195) rfl ?_
            refine giconst B X685 at_195 (v := (2 : Int32)) rfl (pc' := 196) rfl ?_
            refine giload B X685 at_196 rfl (pc' := 198) rfl ?_
            refine giload B X685 at_198 rfl (pc' := 200) rfl ?_
            refine gcallS B X685 (hw _ (List.mem_of_getElem? (i := 5) rfl)) (hw _ (List.mem_of_getElem? (i := 6) rfl)) (hw _ (List.mem_of_getElem? (i := 3) rfl)) (hw _ (List.mem_of_getElem? (i := 7) rfl)) (by decide) (mt2 l Z a0 hw (2 : Int32) (2 : Int32) qm  h668 ) pd__III_Z rfl (argsL := [(.int (2 : Int32)), (.int (2 : Int32)), (.int qm)]) (st := []) rfl rfl (W := 0) (Nat.le_of_eq rfl) (by decide) (by decide) (by decide) (by decide) (fun x q => nomatch q) at_200 (pc' := 203) rfl (pureG rfl rfl fun T687 X688 => ?_)
            by_cases c203_689 : (f2 (2 : Int32) (2 : Int32) qm) = (0 : Int32)
            · refine gifY B X688 (pc' := 221) at_203 ((if0 _ _).trans (teq c203_689).1) (by decide) ?_
              refine giconst B X688 at_221 (v := (0 : Int32)) rfl (pc' := 222) rfl ?_
              have e_J : (oE (2 : Int32) qm) = (0 : Int32) := by rw [oE, if_neg c181_683, if_neg c192_686, if_pos c203_689]
              rw [e_J] at J
              exact J _ X688
            · refine gifN B X688 at_203 ((if0 _ _).trans (feq c203_689).1) (pc' := 206) rfl ?_
              refine giconst B X688 at_206 (v := (3 : Int32)) rfl (pc' := 207) rfl ?_
              refine giload B X688 at_207 rfl (pc' := 209) rfl ?_
              refine giload B X688 at_209 rfl (pc' := 211) rfl ?_
              refine gcallS B X688 (hw _ (List.mem_of_getElem? (i := 5) rfl)) (hw _ (List.mem_of_getElem? (i := 6) rfl)) (hw _ (List.mem_of_getElem? (i := 3) rfl)) (hw _ (List.mem_of_getElem? (i := 7) rfl)) (by decide) (mt2 l Z a0 hw (3 : Int32) (2 : Int32) qm  h668 ) pd__III_Z rfl (argsL := [(.int (3 : Int32)), (.int (2 : Int32)), (.int qm)]) (st := []) rfl rfl (W := 0) (Nat.le_of_eq rfl) (by decide) (by decide) (by decide) (by decide) (fun x q => nomatch q) at_211 (pc' := 214) rfl (pureG rfl rfl fun T690 X691 => ?_)
              by_cases c214_692 : (f2 (3 : Int32) (2 : Int32) qm) = (0 : Int32)
              · refine gifY B X691 (pc' := 221) at_214 ((if0 _ _).trans (teq c214_692).1) (by decide) ?_
                refine giconst B X691 at_221 (v := (0 : Int32)) rfl (pc' := 222) rfl ?_
                have e_J : (oE (2 : Int32) qm) = (0 : Int32) := by rw [oE, if_neg c181_683, if_neg c192_686, if_neg c203_689, if_pos c214_692]
                rw [e_J] at J
                exact J _ X691
              · refine gifN B X691 at_214 ((if0 _ _).trans (feq c214_692).1) (pc' := 217) rfl ?_
                refine giconst B X691 at_217 (v := (1 : Int32)) rfl (pc' := 218) rfl ?_
                refine ggoto B X691 (pc' := 222) at_218 (by decide) ?_
                have e_J : (oE (2 : Int32) qm) = (1 : Int32) := by rw [oE, if_neg c181_683, if_neg c192_686, if_neg c203_689, if_neg c214_692]
                rw [e_J] at J
                exact J _ X691
      intro T693 X694
      show Go p e below s _ _ _ _ _ T693 (mkF m 222 #[.val (.long p0), .second, .val (.int p1), .val (.int p2), .val (.int p3), .val (.int (2 : Int32)), .val (.int (2 : Int32)), .val (.int qm), .val (.ref a513), .val (.ref a520), .unset] [(.int (oE (2 : Int32) qm))])
      refine gistore B X694 at_222 (Ls' := #[.val (.long p0), .second, .val (.int p1), .val (.int p2), .val (.int p3), .val (.int (2 : Int32)), .val (.int (2 : Int32)), .val (.int qm), .val (.ref a513), .val (.ref a520), .val (.int (oE (2 : Int32) qm))]) rfl (pc' := 224) rfl ?_
      refine gaload B X694 at_224 rfl rfl (pc' := 226) rfl ?_
      refine giload B X694 at_226 rfl (pc' := 228) rfl ?_
      refine gaload B X694 at_228 rfl rfl (pc' := 230) rfl ?_
      refine gcallS B X694 (hw _ (List.mem_of_getElem? (i := 8) rfl)) (hw _ (List.mem_of_getElem? (i := 9) rfl)) (hw _ (List.mem_of_getElem? (i := 10) rfl)) (hw _ (List.mem_of_getElem? (i := 11) rfl)) (by decide) (mt3_2 l Z a0 hw a520 (2 : Int32) a513 [(.int b0), (.int b1), (.int (ox0 p1 p2 qm)), (.int (ox1 p1 p2 qm)), (.int b4), (.int b5), (.int b6), (.int b7)] (ox0 p1 p2 qm) (oc0 p1) (ox1 p1 p2 qm) (oc1 p1) h668 A675 rfl A676 (by decide) rfl (by decide) rfl) pd___BI_B_Z rfl (argsL := [(.ref a520), (.int (2 : Int32)), (.ref a513)]) (st := []) rfl rfl (W := 0) (Nat.le_of_eq rfl) (by decide) (by decide) (by decide) (by decide) (fun x q => nomatch q) at_230 (pc' := 233) rfl (pureG rfl rfl fun T695 X696 => ?_)
      refine giload B X696 at_233 rfl (pc' := 235) rfl ?_
      have c235_697 : (f3_2 (ox0 p1 p2 qm) (oc0 p1) (ox1 p1 p2 qm) (oc1 p1)) = (oE (2 : Int32) qm) := own_fin2 p1 p2 qm
      refine gicN B X696 at_235 (teq c235_697).2 (pc' := 238) rfl ?_
      refine giconst B X696 at_238 (v := (1 : Int32)) rfl (pc' := 239) rfl ?_
      refine ggoto B X696 (pc' := 243) at_239 (by decide) ?_
      exact gretN B X696 (z' := (1 : Int32)) (by simp) (rfl) at_243 (by decide) (by decide) (rfl)
    · skip
      refine gaload B X571 at_117 rfl rfl (pc' := 119) rfl ?_
      refine gaload B X571 at_119 rfl rfl (pc' := 121) rfl ?_
      refine giload B X571 at_121 rfl (pc' := 123) rfl ?_
      refine giconst B X571 at_123 (v := (0 : Int32)) rfl (pc' := 124) rfl ?_
      refine giloadN B X571 at_124 rfl (pc' := 125) rfl ?_
      refine giloadN B X571 at_125 rfl (pc' := 126) rfl ?_
      refine giload B X571 at_126 rfl (pc' := 128) rfl ?_
      refine gcallS B X571 (hw _ (List.mem_of_getElem? (i := 1) rfl)) (hw _ (List.mem_of_getElem? (i := 2) rfl)) (hw _ (List.mem_of_getElem? (i := 3) rfl)) (hw _ (List.mem_of_getElem? (i := 4) rfl)) (by decide) (mt1_0 l Z a0 hw a520 a513 (3 : Int32) p1 p2 qm (2 : Int32) [(.int b0), (.int b1), (.int b2), (.int b3), (.int b4), (.int b5), (.int b6), (.int b7)] [(.int (0 : Int32)), (.int (0 : Int32))] 3 2 h570 A573 F574 (Ne.symm n525) rfl rfl (by decide) (by decide) (by decide) (by decide) rfl) pd___B_BIIIII_V rfl (argsL := [(.ref a520), (.ref a513), (.int (3 : Int32)), (.int (0 : Int32)), (.int p1), (.int p2), (.int qm)]) (st := []) rfl rfl (W := 0) (Nat.le_of_eq rfl) (by decide) (by decide) (by decide) (by decide) (allS (Or.inr z_a520) (allS (Or.inr z_a513) all0)) at_128 (pc' := 131) rfl fun T698 h699 v700 X701 K702 Q703 => ?_
      obtain ⟨rfl, A704, A705⟩ := Q703
      have A706 : VA Z h699 a520 .byte [(.int b0), (.int b1), (.int b2), (.int (ox0 p1 p2 qm)), (.int b4), (.int b5), (.int b6), (.int b7)] := A704
      have A707 : VA Z h699 a513 .byte [(.int (oc0 p1)), (.int (0 : Int32))] := A705
      show Go p e below s _ _ _ _ _ T698 (mkF m 131 #[.val (.long p0), .second, .val (.int p1), .val (.int p2), .val (.int p3), .val (.int (2 : Int32)), .val (.int (3 : Int32)), .val (.int qm), .val (.ref a513), .val (.ref a520), .unset] [])
      refine gaload B X701 at_131 rfl rfl (pc' := 133) rfl ?_
      refine gaload B X701 at_133 rfl rfl (pc' := 135) rfl ?_
      refine giload B X701 at_135 rfl (pc' := 137) rfl ?_
      refine giconst B X701 at_137 (v := (1 : Int32)) rfl (pc' := 138) rfl ?_
      refine giloadN B X701 at_138 rfl (pc' := 139) rfl ?_
      refine giloadN B X701 at_139 rfl (pc' := 140) rfl ?_
      refine giload B X701 at_140 rfl (pc' := 142) rfl ?_
      refine gcallS B X701 (hw _ (List.mem_of_getElem? (i := 1) rfl)) (hw _ (List.mem_of_getElem? (i := 2) rfl)) (hw _ (List.mem_of_getElem? (i := 3) rfl)) (hw _ (List.mem_of_getElem? (i := 4) rfl)) (by decide) (mt1_1 l Z a0 hw a520 a513 (3 : Int32) p1 p2 qm (2 : Int32) [(.int b0), (.int b1), (.int b2), (.int (ox0 p1 p2 qm)), (.int b4), (.int b5), (.int b6), (.int b7)] [(.int (oc0 p1)), (.int (0 : Int32))] 4 2 h699 A706 A707 (Ne.symm n525) rfl rfl (by decide) (by decide) (by decide) (by decide) rfl) pd___B_BIIIII_V rfl (argsL := [(.ref a520), (.ref a513), (.int (3 : Int32)), (.int (1 : Int32)), (.int p1), (.int p2), (.int qm)]) (st := []) rfl rfl (W := 0) (Nat.le_of_eq rfl) (by decide) (by decide) (by decide) (by decide) (allS (Or.inr z_a520) (allS (Or.inr z_a513) all0)) at_142 (pc' := 145) rfl fun T708 h709 v710 X711 K712 Q713 => ?_
      obtain ⟨rfl, A714, A715⟩ := Q713
      have A716 : VA Z h709 a520 .byte [(.int b0), (.int b1), (.int b2), (.int (ox0 p1 p2 qm)), (.int (ox1 p1 p2 qm)), (.int b5), (.int b6), (.int b7)] := A714
      have A717 : VA Z h709 a513 .byte [(.int (oc0 p1)), (.int (oc1 p1))] := A715
      show Go p e below s _ _ _ _ _ T708 (mkF m 145 #[.val (.long p0), .second, .val (.int p1), .val (.int p2), .val (.int p3), .val (.int (2 : Int32)), .val (.int (3 : Int32)), .val (.int qm), .val (.ref a513), .val (.ref a520), .unset] [])
      refine gaload B X711 at_145 rfl rfl (pc' := 147) rfl ?_
      refine gaload B X711 at_147 rfl rfl (pc' := 149) rfl ?_
      refine giload B X711 at_149 rfl (pc' := 151) rfl ?_
      refine giconst B X711 at_151 (v := (2 : Int32)) rfl (pc' := 152) rfl ?_
      refine giloadN B X711 at_152 rfl (pc' := 153) rfl ?_
      refine giloadN B X711 at_153 rfl (pc' := 154) rfl ?_
      refine giload B X711 at_154 rfl (pc' := 156) rfl ?_
      refine gcallS B X711 (hw _ (List.mem_of_getElem? (i := 1) rfl)) (hw _ (List.mem_of_getElem? (i := 2) rfl)) (hw _ (List.mem_of_getElem? (i := 3) rfl)) (hw _ (List.mem_of_getElem? (i := 4) rfl)) (by decide) (mt1_no l Z a0 hw a520 a513 (3 : Int32) (2 : Int32) p1 p2 qm (2 : Int32) [(.int (oc0 p1)), (.int (oc1 p1))] 2 h709 A717 rfl (by decide) (by decide)) pd___B_BIIIII_V rfl (argsL := [(.ref a520), (.ref a513), (.int (3 : Int32)), (.int (2 : Int32)), (.int p1), (.int p2), (.int qm)]) (st := []) rfl rfl (W := 0) (Nat.le_of_eq rfl) (by decide) (by decide) (by decide) (by decide) (fun x q => nomatch q) at_156 (pc' := 159) rfl (pureV rfl rfl fun T718 X719 => ?_)
      refine gaload B X719 at_159 rfl rfl (pc' := 161) rfl ?_
      refine gaload B X719 at_161 rfl rfl (pc' := 163) rfl ?_
      refine giload B X719 at_163 rfl (pc' := 165) rfl ?_
      refine giconst B X719 at_165 (v := (3 : Int32)) rfl (pc' := 166) rfl ?_
      refine giloadN B X719 at_166 rfl (pc' := 167) rfl ?_
      refine giloadN B X719 at_167 rfl (pc' := 168) rfl ?_
      refine giload B X719 at_168 rfl (pc' := 170) rfl ?_
      refine gcallS B X719 (hw _ (List.mem_of_getElem? (i := 1) rfl)) (hw _ (List.mem_of_getElem? (i := 2) rfl)) (hw _ (List.mem_of_getElem? (i := 3) rfl)) (hw _ (List.mem_of_getElem? (i := 4) rfl)) (by decide) (mt1_no l Z a0 hw a520 a513 (3 : Int32) (3 : Int32) p1 p2 qm (2 : Int32) [(.int (oc0 p1)), (.int (oc1 p1))] 2 h709 A717 rfl (by decide) (by decide)) pd___B_BIIIII_V rfl (argsL := [(.ref a520), (.ref a513), (.int (3 : Int32)), (.int (3 : Int32)), (.int p1), (.int p2), (.int qm)]) (st := []) rfl rfl (W := 0) (Nat.le_of_eq rfl) (by decide) (by decide) (by decide) (by decide) (fun x q => nomatch q) at_170 (pc' := 173) rfl (pureV rfl rfl fun T720 X721 => ?_)
      refine joinG B X721 (F := fun z => (mkF m 222 #[.val (.long p0), .second, .val (.int p1), .val (.int p2), .val (.int p3), .val (.int (2 : Int32)), .val (.int (3 : Int32)), .val (.int qm), .val (.ref a513), .val (.ref a520), .unset] [(.int z)])) (r := (oE (2 : Int32) qm)) (fun J => ?_) ?_
      · refine giconst B X721 at_173 (v := (0 : Int32)) rfl (pc' := 174) rfl ?_
        refine giload B X721 at_174 rfl (pc' := 176) rfl ?_
        refine giload B X721 at_176 rfl (pc' := 178) rfl ?_
        refine gcallS B X721 (hw _ (List.mem_of_getElem? (i := 5) rfl)) (hw _ (List.mem_of_getElem? (i := 6) rfl)) (hw _ (List.mem_of_getElem? (i := 3) rfl)) (hw _ (List.mem_of_getElem? (i := 7) rfl)) (by decide) (mt2 l Z a0 hw (0 : Int32) (2 : Int32) qm  h709 ) pd__III_Z rfl (argsL := [(.int (0 : Int32)), (.int (2 : Int32)), (.int qm)]) (st := []) rfl rfl (W := 0) (Nat.le_of_eq rfl) (by decide) (by decide) (by decide) (by decide) (fun x q => nomatch q) at_178 (pc' := 181) rfl (pureG rfl rfl fun T722 X723 => ?_)
        by_cases c181_724 : (f2 (0 : Int32) (2 : Int32) qm) = (0 : Int32)
        · refine gifY B X723 (pc' := 221) at_181 ((if0 _ _).trans (teq c181_724).1) (by decide) ?_
          refine giconst B X723 at_221 (v := (0 : Int32)) rfl (pc' := 222) rfl ?_
          have e_J : (oE (2 : Int32) qm) = (0 : Int32) := by rw [oE, if_pos c181_724]
          rw [e_J] at J
          exact J _ X723
        · refine gifN B X723 at_181 ((if0 _ _).trans (feq c181_724).1) (pc' := 184) rfl ?_
          refine giconst B X723 at_184 (v := (1 : Int32)) rfl (pc' := 185) rfl ?_
          refine giload B X723 at_185 rfl (pc' := 187) rfl ?_
          refine giload B X723 at_187 rfl (pc' := 189) rfl ?_
          refine gcallS B X723 (hw _ (List.mem_of_getElem? (i := 5) rfl)) (hw _ (List.mem_of_getElem? (i := 6) rfl)) (hw _ (List.mem_of_getElem? (i := 3) rfl)) (hw _ (List.mem_of_getElem? (i := 7) rfl)) (by decide) (mt2 l Z a0 hw (1 : Int32) (2 : Int32) qm  h709 ) pd__III_Z rfl (argsL := [(.int (1 : Int32)), (.int (2 : Int32)), (.int qm)]) (st := []) rfl rfl (W := 0) (Nat.le_of_eq rfl) (by decide) (by decide) (by decide) (by decide) (fun x q => nomatch q) at_189 (pc' := 192) rfl (pureG rfl rfl fun T725 X726 => ?_)
          by_cases c192_727 : (f2 (1 : Int32) (2 : Int32) qm) = (0 : Int32)
          · refine gifY B X726 (pc' := 221) at_192 ((if0 _ _).trans (teq c192_727).1) (by decide) ?_
            refine giconst B X726 at_221 (v := (0 : Int32)) rfl (pc' := 222) rfl ?_
            have e_J : (oE (2 : Int32) qm) = (0 : Int32) := by rw [oE, if_neg c181_724, if_pos c192_727]
            rw [e_J] at J
            exact J _ X726
          · refine gifN B X726 at_192 ((if0 _ _).trans (feq c192_727).1) (pc' := 195) rfl ?_
            refine giconst B X726 at_195 (v := (2 : Int32)) rfl (pc' := 196) rfl ?_
            refine giload B X726 at_196 rfl (pc' := 198) rfl ?_
            refine giload B X726 at_198 rfl (pc' := 200) rfl ?_
            refine gcallS B X726 (hw _ (List.mem_of_getElem? (i := 5) rfl)) (hw _ (List.mem_of_getElem? (i := 6) rfl)) (hw _ (List.mem_of_getElem? (i := 3) rfl)) (hw _ (List.mem_of_getElem? (i := 7) rfl)) (by decide) (mt2 l Z a0 hw (2 : Int32) (2 : Int32) qm  h709 ) pd__III_Z rfl (argsL := [(.int (2 : Int32)), (.int (2 : Int32)), (.int qm)]) (st := []) rfl rfl (W := 0) (Nat.le_of_eq rfl) (by decide) (by decide) (by decide) (by decide) (fun x q => nomatch q) at_200 (pc' := 203) rfl (pureG rfl rfl fun T728 X729 => ?_)
            by_cases c203_730 : (f2 (2 : Int32) (2 : Int32) qm) = (0 : Int32)
            · refine gifY B X729 (pc' := 221) at_203 ((if0 _ _).trans (teq c203_730).1) (by decide) ?_
              refine giconst B X729 at_221 (v := (0 : Int32)) rfl (pc' := 222) rfl ?_
              have e_J : (oE (2 : Int32) qm) = (0 : Int32) := by rw [oE, if_neg c181_724, if_neg c192_727, if_pos c203_730]
              rw [e_J] at J
              exact J _ X729
            · refine gifN B X729 at_203 ((if0 _ _).trans (feq c203_730).1) (pc' := 206) rfl ?_
              refine giconst B X729 at_206 (v := (3 : Int32)) rfl (pc' := 207) rfl ?_
              refine giload B X729 at_207 rfl (pc' := 209) rfl ?_
              refine giload B X729 at_209 rfl (pc' := 211) rfl ?_
              refine gcallS B X729 (hw _ (List.mem_of_getElem? (i := 5) rfl)) (hw _ (List.mem_of_getElem? (i := 6) rfl)) (hw _ (List.mem_of_getElem? (i := 3) rfl)) (hw _ (List.mem_of_getElem? (i := 7) rfl)) (by decide) (mt2 l Z a0 hw (3 : Int32) (2 : Int32) qm  h709 ) pd__III_Z rfl (argsL := [(.int (3 : Int32)), (.int (2 : Int32)), (.int qm)]) (st := []) rfl rfl (W := 0) (Nat.le_of_eq rfl) (by decide) (by decide) (by decide) (by decide) (fun x q => nomatch q) at_211 (pc' := 214) rfl (pureG rfl rfl fun T731 X732 => ?_)
              by_cases c214_733 : (f2 (3 : Int32) (2 : Int32) qm) = (0 : Int32)
              · refine gifY B X732 (pc' := 221) at_214 ((if0 _ _).trans (teq c214_733).1) (by decide) ?_
                refine giconst B X732 at_221 (v := (0 : Int32)) rfl (pc' := 222) rfl ?_
                have e_J : (oE (2 : Int32) qm) = (0 : Int32) := by rw [oE, if_neg c181_724, if_neg c192_727, if_neg c203_730, if_pos c214_733]
                rw [e_J] at J
                exact J _ X732
              · refine gifN B X732 at_214 ((if0 _ _).trans (feq c214_733).1) (pc' := 217) rfl ?_
                refine giconst B X732 at_217 (v := (1 : Int32)) rfl (pc' := 218) rfl ?_
                refine ggoto B X732 (pc' := 222) at_218 (by decide) ?_
                have e_J : (oE (2 : Int32) qm) = (1 : Int32) := by rw [oE, if_neg c181_724, if_neg c192_727, if_neg c203_730, if_neg c214_733]
                rw [e_J] at J
                exact J _ X732
      intro T734 X735
      show Go p e below s _ _ _ _ _ T734 (mkF m 222 #[.val (.long p0), .second, .val (.int p1), .val (.int p2), .val (.int p3), .val (.int (2 : Int32)), .val (.int (3 : Int32)), .val (.int qm), .val (.ref a513), .val (.ref a520), .unset] [(.int (oE (2 : Int32) qm))])
      refine gistore B X735 at_222 (Ls' := #[.val (.long p0), .second, .val (.int p1), .val (.int p2), .val (.int p3), .val (.int (2 : Int32)), .val (.int (3 : Int32)), .val (.int qm), .val (.ref a513), .val (.ref a520), .val (.int (oE (2 : Int32) qm))]) rfl (pc' := 224) rfl ?_
      refine gaload B X735 at_224 rfl rfl (pc' := 226) rfl ?_
      refine giload B X735 at_226 rfl (pc' := 228) rfl ?_
      refine gaload B X735 at_228 rfl rfl (pc' := 230) rfl ?_
      refine gcallS B X735 (hw _ (List.mem_of_getElem? (i := 8) rfl)) (hw _ (List.mem_of_getElem? (i := 9) rfl)) (hw _ (List.mem_of_getElem? (i := 10) rfl)) (hw _ (List.mem_of_getElem? (i := 11) rfl)) (by decide) (mt3_2 l Z a0 hw a520 (3 : Int32) a513 [(.int b0), (.int b1), (.int b2), (.int (ox0 p1 p2 qm)), (.int (ox1 p1 p2 qm)), (.int b5), (.int b6), (.int b7)] (ox0 p1 p2 qm) (oc0 p1) (ox1 p1 p2 qm) (oc1 p1) h709 A716 rfl A717 (by decide) rfl (by decide) rfl) pd___BI_B_Z rfl (argsL := [(.ref a520), (.int (3 : Int32)), (.ref a513)]) (st := []) rfl rfl (W := 0) (Nat.le_of_eq rfl) (by decide) (by decide) (by decide) (by decide) (fun x q => nomatch q) at_230 (pc' := 233) rfl (pureG rfl rfl fun T736 X737 => ?_)
      refine giload B X737 at_233 rfl (pc' := 235) rfl ?_
      have c235_738 : (f3_2 (ox0 p1 p2 qm) (oc0 p1) (ox1 p1 p2 qm) (oc1 p1)) = (oE (2 : Int32) qm) := own_fin2 p1 p2 qm
      refine gicN B X737 at_235 (teq c235_738).2 (pc' := 238) rfl ?_
      refine giconst B X737 at_238 (v := (1 : Int32)) rfl (pc' := 239) rfl ?_
      refine ggoto B X737 (pc' := 243) at_239 (by decide) ?_
      exact gretN B X737 (z' := (1 : Int32)) (by simp) (rfl) at_243 (by decide) (by decide) (rfl)
  · rw [e_w]
    refine gistore B X at_7 (Ls' := #[.val (.long p0), .second, .val (.int p1), .val (.int p2), .val (.int p3), .val (.int (3 : Int32)), .unset, .unset, .unset, .unset, .unset]) rfl (pc' := 9) rfl ?_
    refine giload B X at_9 rfl (pc' := 11) rfl ?_
    refine giconst B X at_11 (v := (3 : Int32)) rfl (pc' := 12) rfl ?_
    refine giushr B X at_12 rfl (pc' := 13) rfl ?_
    refine giconst B X at_13 (v := (3 : Int32)) rfl (pc' := 14) rfl ?_
    refine giand B X at_14 rfl (pc' := 15) rfl ?_
    generalize e_qfr : (((p3.toUInt32 >>> ((3 : Int32) &&& 31).toUInt32).toInt32) &&& (3 : Int32)) = qfr
    refine gistore B X at_15 (Ls' := #[.val (.long p0), .second, .val (.int p1), .val (.int p2), .val (.int p3), .val (.int (3 : Int32)), .val (.int qfr), .unset, .unset, .unset, .unset]) rfl (pc' := 17) rfl ?_
    have hfr := own_and3 ((p3.toUInt32 >>> ((3 : Int32) &&& 31).toUInt32).toInt32); rw [e_qfr] at hfr; clear e_qfr
    refine giload B X at_17 rfl (pc' := 19) rfl ?_
    refine giconst B X at_19 (v := (5 : Int32)) rfl (pc' := 20) rfl ?_
    refine giushr B X at_20 rfl (pc' := 21) rfl ?_
    refine gbipush B X at_21 (v := (15 : Int32)) rfl (pc' := 23) rfl ?_
    refine giand B X at_23 rfl (pc' := 24) rfl ?_
    generalize e_qm : (((p3.toUInt32 >>> ((5 : Int32) &&& 31).toUInt32).toInt32) &&& (15 : Int32)) = qm
    refine gistore B X at_24 (Ls' := #[.val (.long p0), .second, .val (.int p1), .val (.int p2), .val (.int p3), .val (.int (3 : Int32)), .val (.int qfr), .val (.int qm), .unset, .unset, .unset]) rfl (pc' := 26) rfl ?_
    clear e_qm
    refine giload B X at_26 rfl (pc' := 28) rfl ?_
    refine gnewarray B X (cap := 3) (vs := [(.int (0 : Int32)), (.int (0 : Int32)), (.int (0 : Int32))]) (ty := .byte) rfl rfl (hw _ (List.mem_of_getElem? (i := 0) rfl)) (by decide) (by decide) (by decide) (by decide) (by decide) at_28 (pc' := 30) rfl fun T739 h740 a741 X742 q743 E744 z_a741 A745 => ?_
    refine gastore B X742 at_30 rfl (Ls' := #[.val (.long p0), .second, .val (.int p1), .val (.int p2), .val (.int p3), .val (.int (3 : Int32)), .val (.int qfr), .val (.int qm), .val (.ref a741), .unset, .unset]) rfl (pc' := 32) rfl ?_
    refine gbipush B X742 at_32 (v := (8 : Int32)) rfl (pc' := 34) rfl ?_
    refine gnewarray B X742 (cap := 8) (vs := [(.int (0 : Int32)), (.int (0 : Int32)), (.int (0 : Int32)), (.int (0 : Int32)), (.int (0 : Int32)), (.int (0 : Int32)), (.int (0 : Int32)), (.int (0 : Int32))]) (ty := .byte) rfl rfl (hw _ (List.mem_of_getElem? (i := 0) rfl)) (by decide) (by decide) (by decide) (by decide) (by decide) at_34 (pc' := 36) rfl fun T746 h747 a748 X749 q750 E751 z_a748 A752 => ?_
    have n753 : a741 ≠ a748 := by rw [q750]; exact Nat.ne_of_lt A745.lt
    have F754 := A745.ext E751
    refine gastore B X749 at_36 rfl (Ls' := #[.val (.long p0), .second, .val (.int p1), .val (.int p2), .val (.int p3), .val (.int (3 : Int32)), .val (.int qfr), .val (.int qm), .val (.ref a741), .val (.ref a748), .unset]) rfl (pc' := 38) rfl ?_
    refine gaload B X749 at_38 rfl rfl (pc' := 40) rfl ?_
    refine giconst B X749 at_40 (v := (0 : Int32)) rfl (pc' := 41) rfl ?_
    refine glloadN B X749 at_41 rfl (pc' := 42) rfl ?_
    refine gl2i B X749 at_42 rfl (pc' := 43) rfl ?_
    refine gi2b B X749 at_43 rfl (pc' := 44) rfl ?_
    refine gbastore B X749 (i := 0) (n := 8) A752 rfl (by decide) rfl (vs' := [(.int p0.toInt32.toInt8.toInt32), (.int (0 : Int32)), (.int (0 : Int32)), (.int (0 : Int32)), (.int (0 : Int32)), (.int (0 : Int32)), (.int (0 : Int32)), (.int (0 : Int32))]) (by rw [Jvm.OwnKit.nbb]; rfl) (Or.inr z_a748) at_44 (pc' := 45) rfl fun T755 h756 X757 W758 A759 => ?_
    have F760 := F754.other W758 n753
    refine gaload B X757 at_45 rfl rfl (pc' := 47) rfl ?_
    refine giconst B X757 at_47 (v := (1 : Int32)) rfl (pc' := 48) rfl ?_
    refine glloadN B X757 at_48 rfl (pc' := 49) rfl ?_
    refine gbipush B X757 at_49 (v := (8 : Int32)) rfl (pc' := 51) rfl ?_
    refine glushr B X757 at_51 rfl (pc' := 52) rfl ?_
    refine gl2i B X757 at_52 rfl (pc' := 53) rfl ?_
    refine gi2b B X757 at_53 rfl (pc' := 54) rfl ?_
    refine gbastore B X757 (i := 1) (n := 8) A759 rfl (by decide) rfl (vs' := [(.int p0.toInt32.toInt8.toInt32), (.int ((p0.toUInt64 >>> ((8 : Int32) &&& 0x3f).toInt64.toUInt64).toInt64).toInt32.toInt8.toInt32), (.int (0 : Int32)), (.int (0 : Int32)), (.int (0 : Int32)), (.int (0 : Int32)), (.int (0 : Int32)), (.int (0 : Int32))]) (by rw [Jvm.OwnKit.nbb]; rfl) (Or.inr z_a748) at_54 (pc' := 55) rfl fun T761 h762 X763 W764 A765 => ?_
    have F766 := F760.other W764 n753
    refine gaload B X763 at_55 rfl rfl (pc' := 57) rfl ?_
    refine giconst B X763 at_57 (v := (2 : Int32)) rfl (pc' := 58) rfl ?_
    refine glloadN B X763 at_58 rfl (pc' := 59) rfl ?_
    refine gbipush B X763 at_59 (v := (16 : Int32)) rfl (pc' := 61) rfl ?_
    refine glushr B X763 at_61 rfl (pc' := 62) rfl ?_
    refine gl2i B X763 at_62 rfl (pc' := 63) rfl ?_
    refine gi2b B X763 at_63 rfl (pc' := 64) rfl ?_
    refine gbastore B X763 (i := 2) (n := 8) A765 rfl (by decide) rfl (vs' := [(.int p0.toInt32.toInt8.toInt32), (.int ((p0.toUInt64 >>> ((8 : Int32) &&& 0x3f).toInt64.toUInt64).toInt64).toInt32.toInt8.toInt32), (.int ((p0.toUInt64 >>> ((16 : Int32) &&& 0x3f).toInt64.toUInt64).toInt64).toInt32.toInt8.toInt32), (.int (0 : Int32)), (.int (0 : Int32)), (.int (0 : Int32)), (.int (0 : Int32)), (.int (0 : Int32))]) (by rw [Jvm.OwnKit.nbb]; rfl) (Or.inr z_a748) at_64 (pc' := 65) rfl fun T767 h768 X769 W770 A771 => ?_
    have F772 := F766.other W770 n753
    refine gaload B X769 at_65 rfl rfl (pc' := 67) rfl ?_
    refine giconst B X769 at_67 (v := (3 : Int32)) rfl (pc' := 68) rfl ?_
    refine glloadN B X769 at_68 rfl (pc' := 69) rfl ?_
    refine gbipush B X769 at_69 (v := (24 : Int32)) rfl (pc' := 71) rfl ?_
    refine glushr B X769 at_71 rfl (pc' := 72) rfl ?_
    refine gl2i B X769 at_72 rfl (pc' := 73) rfl ?_
    refine gi2b B X769 at_73 rfl (pc' := 74) rfl ?_
    refine gbastore B X769 (i := 3) (n := 8) A771 rfl (by decide) rfl (vs' := [(.int p0.toInt32.toInt8.toInt32), (.int ((p0.toUInt64 >>> ((8 : Int32) &&& 0x3f).toInt64.toUInt64).toInt64).toInt32.toInt8.toInt32), (.int ((p0.toUInt64 >>> ((16 : Int32) &&& 0x3f).toInt64.toUInt64).toInt64).toInt32.toInt8.toInt32), (.int ((p0.toUInt64 >>> ((24 : Int32) &&& 0x3f).toInt64.toUInt64).toInt64).toInt32.toInt8.toInt32), (.int (0 : Int32)), (.int (0 : Int32)), (.int (0 : Int32)), (.int (0 : Int32))]) (by rw [Jvm.OwnKit.nbb]; rfl) (Or.inr z_a748) at_74 (pc' := 75) rfl fun T773 h774 X775 W776 A777 => ?_
    have F778 := F772.other W776 n753
    refine gaload B X775 at_75 rfl rfl (pc' := 77) rfl ?_
    refine giconst B X775 at_77 (v := (4 : Int32)) rfl (pc' := 78) rfl ?_
    refine glloadN B X775 at_78 rfl (pc' := 79) rfl ?_
    refine gbipush B X775 at_79 (v := (32 : Int32)) rfl (pc' := 81) rfl ?_
    refine glushr B X775 at_81 rfl (pc' := 82) rfl ?_
    refine gl2i B X775 at_82 rfl (pc' := 83) rfl ?_
    refine gi2b B X775 at_83 rfl (pc' := 84) rfl ?_
    refine gbastore B X775 (i := 4) (n := 8) A777 rfl (by decide) rfl (vs' := [(.int p0.toInt32.toInt8.toInt32), (.int ((p0.toUInt64 >>> ((8 : Int32) &&& 0x3f).toInt64.toUInt64).toInt64).toInt32.toInt8.toInt32), (.int ((p0.toUInt64 >>> ((16 : Int32) &&& 0x3f).toInt64.toUInt64).toInt64).toInt32.toInt8.toInt32), (.int ((p0.toUInt64 >>> ((24 : Int32) &&& 0x3f).toInt64.toUInt64).toInt64).toInt32.toInt8.toInt32), (.int ((p0.toUInt64 >>> ((32 : Int32) &&& 0x3f).toInt64.toUInt64).toInt64).toInt32.toInt8.toInt32), (.int (0 : Int32)), (.int (0 : Int32)), (.int (0 : Int32))]) (by rw [Jvm.OwnKit.nbb]; rfl) (Or.inr z_a748) at_84 (pc' := 85) rfl fun T779 h780 X781 W782 A783 => ?_
    have F784 := F778.other W782 n753
    refine gaload B X781 at_85 rfl rfl (pc' := 87) rfl ?_
    refine giconst B X781 at_87 (v := (5 : Int32)) rfl (pc' := 88) rfl ?_
    refine glloadN B X781 at_88 rfl (pc' := 89) rfl ?_
    refine gbipush B X781 at_89 (v := (40 : Int32)) rfl (pc' := 91) rfl ?_
    refine glushr B X781 at_91 rfl (pc' := 92) rfl ?_
    refine gl2i B X781 at_92 rfl (pc' := 93) rfl ?_
    refine gi2b B X781 at_93 rfl (pc' := 94) rfl ?_
    refine gbastore B X781 (i := 5) (n := 8) A783 rfl (by decide) rfl (vs' := [(.int p0.toInt32.toInt8.toInt32), (.int ((p0.toUInt64 >>> ((8 : Int32) &&& 0x3f).toInt64.toUInt64).toInt64).toInt32.toInt8.toInt32), (.int ((p0.toUInt64 >>> ((16 : Int32) &&& 0x3f).toInt64.toUInt64).toInt64).toInt32.toInt8.toInt32), (.int ((p0.toUInt64 >>> ((24 : Int32) &&& 0x3f).toInt64.toUInt64).toInt64).toInt32.toInt8.toInt32), (.int ((p0.toUInt64 >>> ((32 : Int32) &&& 0x3f).toInt64.toUInt64).toInt64).toInt32.toInt8.toInt32), (.int ((p0.toUInt64 >>> ((40 : Int32) &&& 0x3f).toInt64.toUInt64).toInt64).toInt32.toInt8.toInt32), (.int (0 : Int32)), (.int (0 : Int32))]) (by rw [Jvm.OwnKit.nbb]; rfl) (Or.inr z_a748) at_94 (pc' := 95) rfl fun T785 h786 X787 W788 A789 => ?_
    have F790 := F784.other W788 n753
    refine gaload B X787 at_95 rfl rfl (pc' := 97) rfl ?_
    refine gbipush B X787 at_97 (v := (6 : Int32)) rfl (pc' := 99) rfl ?_
    refine glloadN B X787 at_99 rfl (pc' := 100) rfl ?_
    refine gbipush B X787 at_100 (v := (48 : Int32)) rfl (pc' := 102) rfl ?_
    refine glushr B X787 at_102 rfl (pc' := 103) rfl ?_
    refine gl2i B X787 at_103 rfl (pc' := 104) rfl ?_
    refine gi2b B X787 at_104 rfl (pc' := 105) rfl ?_
    refine gbastore B X787 (i := 6) (n := 8) A789 rfl (by decide) rfl (vs' := [(.int p0.toInt32.toInt8.toInt32), (.int ((p0.toUInt64 >>> ((8 : Int32) &&& 0x3f).toInt64.toUInt64).toInt64).toInt32.toInt8.toInt32), (.int ((p0.toUInt64 >>> ((16 : Int32) &&& 0x3f).toInt64.toUInt64).toInt64).toInt32.toInt8.toInt32), (.int ((p0.toUInt64 >>> ((24 : Int32) &&& 0x3f).toInt64.toUInt64).toInt64).toInt32.toInt8.toInt32), (.int ((p0.toUInt64 >>> ((32 : Int32) &&& 0x3f).toInt64.toUInt64).toInt64).toInt32.toInt8.toInt32), (.int ((p0.toUInt64 >>> ((40 : Int32) &&& 0x3f).toInt64.toUInt64).toInt64).toInt32.toInt8.toInt32), (.int ((p0.toUInt64 >>> ((48 : Int32) &&& 0x3f).toInt64.toUInt64).toInt64).toInt32.toInt8.toInt32), (.int (0 : Int32))]) (by rw [Jvm.OwnKit.nbb]; rfl) (Or.inr z_a748) at_105 (pc' := 106) rfl fun T791 h792 X793 W794 A795 => ?_
    have F796 := F790.other W794 n753
    refine gaload B X793 at_106 rfl rfl (pc' := 108) rfl ?_
    refine gbipush B X793 at_108 (v := (7 : Int32)) rfl (pc' := 110) rfl ?_
    refine glloadN B X793 at_110 rfl (pc' := 111) rfl ?_
    refine gbipush B X793 at_111 (v := (56 : Int32)) rfl (pc' := 113) rfl ?_
    refine glushr B X793 at_113 rfl (pc' := 114) rfl ?_
    refine gl2i B X793 at_114 rfl (pc' := 115) rfl ?_
    refine gi2b B X793 at_115 rfl (pc' := 116) rfl ?_
    refine gbastore B X793 (i := 7) (n := 8) A795 rfl (by decide) rfl (vs' := [(.int p0.toInt32.toInt8.toInt32), (.int ((p0.toUInt64 >>> ((8 : Int32) &&& 0x3f).toInt64.toUInt64).toInt64).toInt32.toInt8.toInt32), (.int ((p0.toUInt64 >>> ((16 : Int32) &&& 0x3f).toInt64.toUInt64).toInt64).toInt32.toInt8.toInt32), (.int ((p0.toUInt64 >>> ((24 : Int32) &&& 0x3f).toInt64.toUInt64).toInt64).toInt32.toInt8.toInt32), (.int ((p0.toUInt64 >>> ((32 : Int32) &&& 0x3f).toInt64.toUInt64).toInt64).toInt32.toInt8.toInt32), (.int ((p0.toUInt64 >>> ((40 : Int32) &&& 0x3f).toInt64.toUInt64).toInt64).toInt32.toInt8.toInt32), (.int ((p0.toUInt64 >>> ((48 : Int32) &&& 0x3f).toInt64.toUInt64).toInt64).toInt32.toInt8.toInt32), (.int ((p0.toUInt64 >>> ((56 : Int32) &&& 0x3f).toInt64.toUInt64).toInt64).toInt32.toInt8.toInt32)]) (by rw [Jvm.OwnKit.nbb]; rfl) (Or.inr z_a748) at_116 (pc' := 117) rfl fun T797 h798 X799 W800 A801 => ?_
    have F802 := F796.other W800 n753
    generalize p0.toInt32.toInt8.toInt32 = b0 at A801 ⊢
    generalize ((p0.toUInt64 >>> ((8 : Int32) &&& 0x3f).toInt64.toUInt64).toInt64).toInt32.toInt8.toInt32 = b1 at A801 ⊢
    generalize ((p0.toUInt64 >>> ((16 : Int32) &&& 0x3f).toInt64.toUInt64).toInt64).toInt32.toInt8.toInt32 = b2 at A801 ⊢
    generalize ((p0.toUInt64 >>> ((24 : Int32) &&& 0x3f).toInt64.toUInt64).toInt64).toInt32.toInt8.toInt32 = b3 at A801 ⊢
    generalize ((p0.toUInt64 >>> ((32 : Int32) &&& 0x3f).toInt64.toUInt64).toInt64).toInt32.toInt8.toInt32 = b4 at A801 ⊢
    generalize ((p0.toUInt64 >>> ((40 : Int32) &&& 0x3f).toInt64.toUInt64).toInt64).toInt32.toInt8.toInt32 = b5 at A801 ⊢
    generalize ((p0.toUInt64 >>> ((48 : Int32) &&& 0x3f).toInt64.toUInt64).toInt64).toInt32.toInt8.toInt32 = b6 at A801 ⊢
    generalize ((p0.toUInt64 >>> ((56 : Int32) &&& 0x3f).toInt64.toUInt64).toInt64).toInt32.toInt8.toInt32 = b7 at A801 ⊢
    rcases hfr with rfl | rfl | rfl | rfl
    · skip
      refine gaload B X799 at_117 rfl rfl (pc' := 119) rfl ?_
      refine gaload B X799 at_119 rfl rfl (pc' := 121) rfl ?_
      refine giload B X799 at_121 rfl (pc' := 123) rfl ?_
      refine giconst B X799 at_123 (v := (0 : Int32)) rfl (pc' := 124) rfl ?_
      refine giloadN B X799 at_124 rfl (pc' := 125) rfl ?_
      refine giloadN B X799 at_125 rfl (pc' := 126) rfl ?_
      refine giload B X799 at_126 rfl (pc' := 128) rfl ?_
      refine gcallS B X799 (hw _ (List.mem_of_getElem? (i := 1) rfl)) (hw _ (List.mem_of_getElem? (i := 2) rfl)) (hw _ (List.mem_of_getElem? (i := 3) rfl)) (hw _ (List.mem_of_getElem? (i := 4) rfl)) (by decide) (mt1_0 l Z a0 hw a748 a741 (0 : Int32) p1 p2 qm (3 : Int32) [(.int b0), (.int b1), (.int b2), (.int b3), (.int b4), (.int b5), (.int b6), (.int b7)] [(.int (0 : Int32)), (.int (0 : Int32)), (.int (0 : Int32))] 0 3 h798 A801 F802 (Ne.symm n753) rfl rfl (by decide) (by decide) (by decide) (by decide) rfl) pd___B_BIIIII_V rfl (argsL := [(.ref a748), (.ref a741), (.int (0 : Int32)), (.int (0 : Int32)), (.int p1), (.int p2), (.int qm)]) (st := []) rfl rfl (W := 0) (Nat.le_of_eq rfl) (by decide) (by decide) (by decide) (by decide) (allS (Or.inr z_a748) (allS (Or.inr z_a741) all0)) at_128 (pc' := 131) rfl fun T803 h804 v805 X806 K807 Q808 => ?_
      obtain ⟨rfl, A809, A810⟩ := Q808
      have A811 : VA Z h804 a748 .byte [(.int (ox0 p1 p2 qm)), (.int b1), (.int b2), (.int b3), (.int b4), (.int b5), (.int b6), (.int b7)] := A809
      have A812 : VA Z h804 a741 .byte [(.int (oc0 p1)), (.int (0 : Int32)), (.int (0 : Int32))] := A810
      show Go p e below s _ _ _ _ _ T803 (mkF m 131 #[.val (.long p0), .second, .val (.int p1), .val (.int p2), .val (.int p3), .val (.int (3 : Int32)), .val (.int (0 : Int32)), .val (.int qm), .val (.ref a741), .val (.ref a748), .unset] [])
      refine gaload B X806 at_131 rfl rfl (pc' := 133) rfl ?_
      refine gaload B X806 at_133 rfl rfl (pc' := 135) rfl ?_
      refine giload B X806 at_135 rfl (pc' := 137) rfl ?_
      refine giconst B X806 at_137 (v := (1 : Int32)) rfl (pc' := 138) rfl ?_
      refine giloadN B X806 at_138 rfl (pc' := 139) rfl ?_
      refine giloadN B X806 at_139 rfl (pc' := 140) rfl ?_
      refine giload B X806 at_140 rfl (pc' := 142) rfl ?_
      refine gcallS B X806 (hw _ (List.mem_of_getElem? (i := 1) rfl)) (hw _ (List.mem_of_getElem? (i := 2) rfl)) (hw _ (List.mem_of_getElem? (i := 3) rfl)) (hw _ (List.mem_of_getElem? (i := 4) rfl)) (by decide) (mt1_1 l Z a0 hw a748 a741 (0 : Int32) p1 p2 qm (3 : Int32) [(.int (ox0 p1 p2 qm)), (.int b1), (.int b2), (.int b3), (.int b4), (.int b5), (.int b6), (.int b7)] [(.int (oc0 p1)), (.int (0 : Int32)), (.int (0 : Int32))] 1 3 h804 A811 A812 (Ne.symm n753) rfl rfl (by decide) (by decide) (by decide) (by decide) rfl) pd___B_BIIIII_V rfl (argsL := [(.ref a748), (.ref a741), (.int (0 : Int32)), (.int (1 : Int32)), (.int p1), (.int p2), (.int qm)]) (st := []) rfl rfl (W := 0) (Nat.le_of_eq rfl) (by decide) (by decide) (by decide) (by decide) (allS (Or.inr z_a748) (allS (Or.inr z_a741) all0)) at_142 (pc' := 145) rfl fun T813 h814 v815 X816 K817 Q818 => ?_
      obtain ⟨rfl, A819, A820⟩ := Q818
      have A821 : VA Z h814 a748 .byte [(.int (ox0 p1 p2 qm)), (.int (ox1 p1 p2 qm)), (.int b2), (.int b3), (.int b4), (.int b5), (.int b6), (.int b7)] := A819
      have A822 : VA Z h814 a741 .byte [(.int (oc0 p1)), (.int (oc1 p1)), (.int (0 : Int32))] := A820
      show Go p e below s _ _ _ _ _ T813 (mkF m 145 #[.val (.long p0), .second, .val (.int p1), .val (.int p2), .val (.int p3), .val (.int (3 : Int32)), .val (.int (0 : Int32)), .val (.int qm), .val (.ref a741), .val (.ref a748), .unset] [])
      refine gaload B X816 at_145 rfl rfl (pc' := 147) rfl ?_
      refine gaload B X816 at_147 rfl rfl (pc' := 149) rfl ?_
      refine giload B X816 at_149 rfl (pc' := 151) rfl ?_
      refine giconst B X816 at_151 (v := (2 : Int32)) rfl (pc' := 152) rfl ?_
      refine giloadN B X816 at_152 rfl (pc' := 153) rfl ?_
      refine giloadN B X816 at_153 rfl (pc' := 154) rfl ?_
      refine giload B X816 at_154 rfl (pc' := 156) rfl ?_
      refine gcallS B X816 (hw _ (List.mem_of_getElem? (i := 1) rfl)) (hw _ (List.mem_of_getElem? (i := 2) rfl)) (hw _ (List.mem_of_getElem? (i := 3) rfl)) (hw _ (List.mem_of_getElem? (i := 4) rfl)) (by decide) (mt1_2 l Z a0 hw a748 a741 (0 : Int32) p1 p2 qm (3 : Int32) [(.int (ox0 p1 p2 qm)), (.int (ox1 p1 p2 qm)), (.int b2), (.int b3), (.int b4), (.int b5), (.int b6), (.int b7)] [(.int (oc0 p1)), (.int (oc1 p1)), (.int (0 : Int32))] 2 3 h814 A821 A822 (Ne.symm n753) rfl rfl (by decide) (by decide) (by decide) (by decide) rfl) pd___B_BIIIII_V rfl (argsL := [(.ref a748), (.ref a741), (.int (0 : Int32)), (.int (2 : Int32)), (.int p1), (.int p2), (.int qm)]) (st := []) rfl rfl (W := 0) (Nat.le_of_eq rfl) (by decide) (by decide) (by decide) (by decide) (allS (Or.inr z_a748) (allS (Or.inr z_a741) all0)) at_156 (pc' := 159) rfl fun T823 h824 v825 X826 K827 Q828 => ?_
      obtain ⟨rfl, A829, A830⟩ := Q828
      have A831 : VA Z h824 a748 .byte [(.int (ox0 p1 p2 qm)), (.int (ox1 p1 p2 qm)), (.int (ox2 p1 p2 qm)), (.int b3), (.int b4), (.int b5), (.int b6), (.int b7)] := A829
      have A832 : VA Z h824 a741 .byte [(.int (oc0 p1)), (.int (oc1 p1)), (.int (oc2 p1))] := A830
      show Go p e below s _ _ _ _ _ T823 (mkF m 159 #[.val (.long p0), .second, .val (.int p1), .val (.int p2), .val (.int p3), .val (.int (3 : Int32)), .val (.int (0 : Int32)), .val (.int qm), .val (.ref a741), .val (.ref a748), .unset] [])
      refine gaload B X826 at_159 rfl rfl (pc' := 161) rfl ?_
      refine gaload B X826 at_161 rfl rfl (pc' := 163) rfl ?_
      refine giload B X826 at_163 rfl (pc' := 165) rfl ?_
      refine giconst B X826 at_165 (v := (3 : Int32)) rfl (pc' := 166) rfl ?_
      refine giloadN B X826 at_166 rfl (pc' := 167) rfl ?_
      refine giloadN B X826 at_167 rfl (pc' := 168) rfl ?_
      refine giload B X826 at_168 rfl (pc' := 170) rfl ?_
      refine gcallS B X826 (hw _ (List.mem_of_getElem? (i := 1) rfl)) (hw _ (List.mem_of_getElem? (i := 2) rfl)) (hw _ (List.mem_of_getElem? (i := 3) rfl)) (hw _ (List.mem_of_getElem? (i := 4) rfl)) (by decide) (mt1_no l Z a0 hw a748 a741 (0 : Int32) (3 : Int32) p1 p2 qm (3 : Int32) [(.int (oc0 p1)), (.int (oc1 p1)), (.int (oc2 p1))] 3 h824 A832 rfl (by decide) (by decide)) pd___B_BIIIII_V rfl (argsL := [(.ref a748), (.ref a741), (.int (0 : Int32)), (.int (3 : Int32)), (.int p1), (.int p2), (.int qm)]) (st := []) rfl rfl (W := 0) (Nat.le_of_eq rfl) (by decide) (by decide) (by decide) (by decide) (fun x q => nomatch q) at_170 (pc' := 173) rfl (pureV rfl rfl fun T833 X834 => ?_)
      refine joinG B X834 (F := fun z => (mkF m 222 #[.val (.long p0), .second, .val (.int p1), .val (.int p2), .val (.int p3), .val (.int (3 : Int32)), .val (.int (0 : Int32)), .val (.int qm), .val (.ref a741), .val (.ref a748), .unset] [(.int z)])) (r := (oE (3 : Int32) qm)) (fun J => ?_) ?_
      · refine giconst B X834 at_173 (v := (0 : Int32)) rfl (pc' := 174) rfl ?_
        refine giload B X834 at_174 rfl (pc' := 176) rfl ?_
        refine giload B X834 at_176 rfl (pc' := 178) rfl ?_
        refine gcallS B X834 (hw _ (List.mem_of_getElem? (i := 5) rfl)) (hw _ (List.mem_of_getElem? (i := 6) rfl)) (hw _ (List.mem_of_getElem? (i := 3) rfl)) (hw _ (List.mem_of_getElem? (i := 7) rfl)) (by decide) (mt2 l Z a0 hw (0 : Int32) (3 : Int32) qm  h824 ) pd__III_Z rfl (argsL := [(.int (0 : Int32)), (.int (3 : Int32)), (.int qm)]) (st := []) rfl rfl (W := 0) (Nat.le_of_eq rfl) (by decide) (by decide) (by decide) (by decide) (fun x q => nomatch q) at_178 (pc' := 181) rfl (pureG rfl rfl fun T835 X836 => ?_)
        by_cases c181_837 : (f2 (0 : Int32) (3 : Int32) qm) = (0 : Int32)
        · refine gifY B X836 (pc' := 221) at_181 ((if0 _ _).trans (teq c181_837).1) (by decide) ?_
          refine giconst B X836 at_221 (v := (0 : Int32)) rfl (pc' := 222) rfl ?_
          have e_J : (oE (3 : Int32) qm) = (0 : Int32) := by rw [oE, if_pos c181_837]
          rw [e_J] at J
          exact J _ X836
        · refine gifN B X836 at_181 ((if0 _ _).trans (feq c181_837).1) (pc' := 184) rfl ?_
          refine giconst B X836 at_184 (v := (1 : Int32)) rfl (pc' := 185) rfl ?_
          refine giload B X836 at_185 rfl (pc' := 187) rfl ?_
          refine giload B X836 at_187 rfl (pc' := 189) rfl ?_
          refine gcallS B X836 (hw _ (List.mem_of_getElem? (i := 5) rfl)) (hw _ (List.mem_of_getElem? (i := 6) rfl)) (hw _ (List.mem_of_getElem? (i := 3) rfl)) (hw _ (List.mem_of_getElem? (i := 7) rfl)) (by decide) (mt2 l Z a0 hw (1 : Int32) (3 : Int32) qm  h824 ) pd__III_Z rfl (argsL := [(.int (1 : Int32)), (.int (3 : Int32)), (.int qm)]) (st := []) rfl rfl (W := 0) (Nat.le_of_eq rfl) (by decide) (by decide) (by decide) (by decide) (fun x q => nomatch q) at_189 (pc' := 192) rfl (pureG rfl rfl fun T838 X839 => ?_)
          by_cases c192_840 : (f2 (1 : Int32) (3 : Int32) qm) = (0 : Int32)
          · refine gifY B X839 (pc' := 221) at_192 ((if0 _ _).trans (teq c192_840).1) (by decide) ?_
            refine giconst B X839 at_221 (v := (0 : Int32)) rfl (pc' := 222) rfl ?_
            have e_J : (oE (3 : Int32) qm) = (0 : Int32) := by rw [oE, if_neg c181_837, if_pos c192_840]
            rw [e_J] at J
            exact J _ X839
          · refine gifN B X839 at_192 ((if0 _ _).trans (feq c192_840).1) (pc' := 195) rfl ?_
            refine giconst B X839 at_195 (v := (2 : Int32)) rfl (pc' := 196) rfl ?_
            refine giload B X839 at_196 rfl (pc' := 198) rfl ?_
            refine giload B X839 at_198 rfl (pc' := 200) rfl ?_
            refine gcallS B X839 (hw _ (List.mem_of_getElem? (i := 5) rfl)) (hw _ (List.mem_of_getElem? (i := 6) rfl)) (hw _ (List.mem_of_getElem? (i := 3) rfl)) (hw _ (List.mem_of_getElem? (i := 7) rfl)) (by decide) (mt2 l Z a0 hw (2 : Int32) (3 : Int32) qm  h824 ) pd__III_Z rfl (argsL := [(.int (2 : Int32)), (.int (3 : Int32)), (.int qm)]) (st := []) rfl rfl (W := 0) (Nat.le_of_eq rfl) (by decide) (by decide) (by decide) (by decide) (fun x q => nomatch q) at_200 (pc' := 203) rfl (pureG rfl rfl fun T841 X842 => ?_)
            by_cases c203_843 : (f2 (2 : Int32) (3 : Int32) qm) = (0 : Int32)
            · refine gifY B X842 (pc' := 221) at_203 ((if0 _ _).trans (teq c203_843).1) (by decide) ?_
              refine giconst B X842 at_221 (v := (0 : Int32)) rfl (pc' := 222) rfl ?_
              have e_J : (oE (3 : Int32) qm) = (0 : Int32) := by rw [oE, if_neg c181_837, if_neg c192_840, if_pos c203_843]
              rw [e_J] at J
              exact J _ X842
            · refine gifN B X842 at_203 ((if0 _ _).trans (feq c203_843).1) (pc' := 206) rfl ?_
              refine giconst B X842 at_206 (v := (3 : Int32)) rfl (pc' := 207) rfl ?_
              refine giload B X842 at_207 rfl (pc' := 209) rfl ?_
              refine giload B X842 at_209 rfl (pc' := 211) rfl ?_
              refine gcallS B X842 (hw _ (List.mem_of_getElem? (i := 5) rfl)) (hw _ (List.mem_of_getElem? (i := 6) rfl)) (hw _ (List.mem_of_getElem? (i := 3) rfl)) (hw _ (List.mem_of_getElem? (i := 7) rfl)) (by decide) (mt2 l Z a0 hw (3 : Int32) (3 : Int32) qm  h824 ) pd__III_Z rfl (argsL := [(.int (3 : Int32)), (.int (3 : Int32)), (.int qm)]) (st := []) rfl rfl (W := 0) (Nat.le_of_eq rfl) (by decide) (by decide) (by decide) (by decide) (fun x q => nomatch q) at_211 (pc' := 214) rfl (pureG rfl rfl fun T844 X845 => ?_)
              by_cases c214_846 : (f2 (3 : Int32) (3 : Int32) qm) = (0 : Int32)
              · refine gifY B X845 (pc' := 221) at_214 ((if0 _ _).trans (teq c214_846).1) (by decide) ?_
                refine giconst B X845 at_221 (v := (0 : Int32)) rfl (pc' := 222) rfl ?_
                have e_J : (oE (3 : Int32) qm) = (0 : Int32) := by rw [oE, if_neg c181_837, if_neg c192_840, if_neg c203_843, if_pos c214_846]
                rw [e_J] at J
                exact J _ X845
              · refine gifN B X845 at_214 ((if0 _ _).trans (feq c214_846).1) (pc' := 217) rfl ?_
                refine giconst B X845 at_217 (v := (1 : Int32)) rfl (pc' := 218) rfl ?_
                refine ggoto B X845 (pc' := 222) at_218 (by decide) ?_
                have e_J : (oE (3 : Int32) qm) = (1 : Int32) := by rw [oE, if_neg c181_837, if_neg c192_840, if_neg c203_843, if_neg c214_846]
                rw [e_J] at J
                exact J _ X845
      intro T847 X848
      show Go p e below s _ _ _ _ _ T847 (mkF m 222 #[.val (.long p0), .second, .val (.int p1), .val (.int p2), .val (.int p3), .val (.int (3 : Int32)), .val (.int (0 : Int32)), .val (.int qm), .val (.ref a741), .val (.ref a748), .unset] [(.int (oE (3 : Int32) qm))])
      refine gistore B X848 at_222 (Ls' := #[.val (.long p0), .second, .val (.int p1), .val (.int p2), .val (.int p3), .val (.int (3 : Int32)), .val (.int (0 : Int32)), .val (.int qm), .val (.ref a741), .val (.ref a748), .val (.int (oE (3 : Int32) qm))]) rfl (pc' := 224) rfl ?_
      refine gaload B X848 at_224 rfl rfl (pc' := 226) rfl ?_
      refine giload B X848 at_226 rfl (pc' := 228) rfl ?_
      refine gaload B X848 at_228 rfl rfl (pc' := 230) rfl ?_
      refine gcallS B X848 (hw _ (List.mem_of_getElem? (i := 8) rfl)) (hw _ (List.mem_of_getElem? (i := 9) rfl)) (hw _ (List.mem_of_getElem? (i := 10) rfl)) (hw _ (List.mem_of_getElem? (i := 11) rfl)) (by decide) (mt3_3 l Z a0 hw a748 (0 : Int32) a741 [(.int (ox0 p1 p2 qm)), (.int (ox1 p1 p2 qm)), (.int (ox2 p1 p2 qm)), (.int b3), (.int b4), (.int b5), (.int b6), (.int b7)] (ox0 p1 p2 qm) (oc0 p1) (ox1 p1 p2 qm) (oc1 p1) (ox2 p1 p2 qm) (oc2 p1) h824 A831 rfl A832 (by decide) rfl (by decide) rfl (by decide) rfl) pd___BI_B_Z rfl (argsL := [(.ref a748), (.int (0 : Int32)), (.ref a741)]) (st := []) rfl rfl (W := 0) (Nat.le_of_eq rfl) (by decide) (by decide) (by decide) (by decide) (fun x q => nomatch q) at_230 (pc' := 233) rfl (pureG rfl rfl fun T849 X850 => ?_)
      refine giload B X850 at_233 rfl (pc' := 235) rfl ?_
      have c235_851 : (f3_3 (ox0 p1 p2 qm) (oc0 p1) (ox1 p1 p2 qm) (oc1 p1) (ox2 p1 p2 qm) (oc2 p1)) = (oE (3 : Int32) qm) := own_fin3 p1 p2 qm
      refine gicN B X850 at_235 (teq c235_851).2 (pc' := 238) rfl ?_
      refine giconst B X850 at_238 (v := (1 : Int32)) rfl (pc' := 239) rfl ?_
      refine ggoto B X850 (pc' := 243) at_239 (by decide) ?_
      exact gretN B X850 (z' := (1 : Int32)) (by simp) (rfl) at_243 (by decide) (by decide) (rfl)
    · skip
      refine gaload B X799 at_117 rfl rfl (pc' := 119) rfl ?_
      refine gaload B X799 at_119 rfl rfl (pc' := 121) rfl ?_
      refine giload B X799 at_121 rfl (pc' := 123) rfl ?_
      refine giconst B X799 at_123 (v := (0 : Int32)) rfl (pc' := 124) rfl ?_
      refine giloadN B X799 at_124 rfl (pc' := 125) rfl ?_
      refine giloadN B X799 at_125 rfl (pc' := 126) rfl ?_
      refine giload B X799 at_126 rfl (pc' := 128) rfl ?_
      refine gcallS B X799 (hw _ (List.mem_of_getElem? (i := 1) rfl)) (hw _ (List.mem_of_getElem? (i := 2) rfl)) (hw _ (List.mem_of_getElem? (i := 3) rfl)) (hw _ (List.mem_of_getElem? (i := 4) rfl)) (by decide) (mt1_0 l Z a0 hw a748 a741 (1 : Int32) p1 p2 qm (3 : Int32) [(.int b0), (.int b1), (.int b2), (.int b3), (.int b4), (.int b5), (.int b6), (.int b7)] [(.int (0 : Int32)), (.int (0 : Int32)), (.int (0 : Int32))] 1 3 h798 A801 F802 (Ne.symm n753) rfl rfl (by decide) (by decide) (by decide) (by decide) rfl) pd___B_BIIIII_V rfl (argsL := [(.ref a748), (.ref a741), (.int (1 : Int32)), (.int (0 : Int32)), (.int p1), (.int p2), (.int qm)]) (st := []) rfl rfl (W := 0) (Nat.le_of_eq rfl) (by decide) (by decide) (by decide) (by decide) (allS (Or.inr z_a748) (allS (Or.inr z_a741) all0)) at_128 (pc' := 131) rfl fun T852 h853 v854 X855 K856 Q857 => ?_
      obtain ⟨rfl, A858, A859⟩ := Q857
      have A860 : VA Z h853 a748 .byte [(.int b0), (.int (ox0 p1 p2 qm)), (.int b2), (.int b3), (.int b4), (.int b5), (.int b6), (.int b7)] := A858
      have A861 : VA Z h853 a741 .byte [(.int (oc0 p1)), (.int (0 : Int32)), (.int (0 : Int32))] := A859
      show Go p e below s _ _ _ _ _ T852 (mkF m 131 #[.val (.long p0), .second, .val (.int p1), .val (.int p2), .val (.int p3), .val (.int (3 : Int32)), .val (.int (1 : Int32)), .val (.int qm), .val (.ref a741), .val (.ref a748), .unset] [])
      refine gaload B X855 at_131 rfl rfl (pc' := 133) rfl ?_
      refine gaload B X855 at_133 rfl rfl (pc' := 135) rfl ?_
      refine giload B X855 at_135 rfl (pc' := 137) rfl ?_
      refine giconst B X855 at_137 (v := (1 : Int32)) rfl (pc' := 138) rfl ?_
      refine giloadN B X855 at_138 rfl (pc' := 139) rfl ?_
      refine giloadN B X855 at_139 rfl (pc' := 140) rfl ?_
      refine giload B X855 at_140 rfl (pc' := 142) rfl ?_
      refine gcallS B X855 (hw _ (List.mem_of_getElem? (i := 1) rfl)) (hw _ (List.mem_of_getElem? (i := 2) rfl)) (hw _ (List.mem_of_getElem? (i := 3) rfl)) (hw _ (List.mem_of_getElem? (i := 4) rfl)) (by decide) (mt1_1 l Z a0 hw a748 a741 (1 : Int32) p1 p2 qm (3 : Int32) [(.int b0), (.int (ox0 p1 p2 qm)), (.int b2), (.int b3), (.int b4), (.int b5), (.int b6), (.int b7)] [(.int (oc0 p1)), (.int (0 : Int32)), (.int (0 : Int32))] 2 3 h853 A860 A861 (Ne.symm n753) rfl rfl (by decide) (by decide) (by decide) (by decide) rfl) pd___B_BIIIII_V rfl (argsL := [(.ref a748), (.ref a741), (.int (1 : Int32)), (.int (1 : Int32)), (.int p1), (.int p2), (.int qm)]) (st := []) rfl rfl (W := 0) (Nat.le_of_eq rfl) (by decide) (by decide) (by decide) (by decide) (allS (Or.inr z_a748) (allS (Or.inr z_a741) all0)) at_142 (pc' := 145) rfl fun T862 h863 v864 X865 K866 Q867 => ?_
      obtain ⟨rfl, A868, A869⟩ := Q867
      have A870 : VA Z h863 a748 .byte [(.int b0), (.int (ox0 p1 p2 qm)), (.int (ox1 p1 p2 qm)), (.int b3), (.int b4), (.int b5), (.int b6), (.int b7)] := A868
      have A871 : VA Z h863 a741 .byte [(.int (oc0 p1)), (.int (oc1 p1)), (.int (0 : Int32))] := A869
      show Go p e below s _ _ _ _ _ T862 (mkF m 145 #[.val (.long p0), .second, .val (.int p1), .val (.int p2), .val (.int p3), .val (.int (3 : Int32)), .val (.int (1 : Int32)), .val (.int qm), .val (.ref a741), .val (.ref a748), .unset] [])
      refine gaload B X865 at_145 rfl rfl (pc' := 147) rfl ?_
      refine gaload B X865 at_147 rfl rfl (pc' := 149) rfl ?_
      refine giload B X865 at_149 rfl (pc' := 151) rfl ?_
      refine giconst B X865 at_151 (v := (2 : Int32)) rfl (pc' := 152) rfl ?_
      refine giloadN B X865 at_152 rfl (pc' := 153) rfl ?_
      refine giloadN B X865 at_153 rfl (pc' := 154) rfl ?_
      refine giload B X865 at_154 rfl (pc' := 156) rfl ?_
      refine gcallS B X865 (hw _ (List.mem_of_getElem? (i := 1) rfl)) (hw _ (List.mem_of_getElem? (i := 2) rfl)) (hw _ (List.mem_of_getElem? (i := 3) rfl)) (hw _ (List.mem_of_getElem? (i := 4) rfl)) (by decide) (mt1_2 l Z a0 hw a748 a741 (1 : Int32) p1 p2 qm (3 : Int32) [(.int b0), (.int (ox0 p1 p2 qm)), (.int (ox1 p1 p2 qm)), (.int b3), (.int b4), (.int b5), (.int b6), (.int b7)] [(.int (oc0 p1)), (.int (oc1 p1)), (.int (0 : Int32))] 3 3 h863 A870 A871 (Ne.symm n753) rfl rfl (by decide) (by decide) (by decide) (by decide) rfl) pd___B_BIIIII_V rfl (argsL := [(.ref a748), (.ref a741), (.int (1 : Int32)), (.int (2 : Int32)), (.int p1), (.int p2), (.int qm)]) (st := []) rfl rfl (W := 0) (Nat.le_of_eq rfl) (by decide) (by decide) (by decide) (by decide) (allS (Or.inr z_a748) (allS (Or.inr z_a741) all0)) at_156 (pc' := 159) rfl fun T872 h873 v874 X875 K876 Q877 => ?_
      obtain ⟨rfl, A878, A879⟩ := Q877
      have A880 : VA Z h873 a748 .byte [(.int b0), (.int (ox0 p1 p2 qm)), (.int (ox1 p1 p2 qm)), (.int (ox2 p1 p2 qm)), (.int b4), (.int b5), (.int b6), (.int b7)] := A878
      have A881 : VA Z h873 a741 .byte [(.int (oc0 p1)), (.int (oc1 p1)), (.int (oc2 p1))] := A879
      show Go p e below s _ _ _ _ _ T872 (mkF m 159 #[.val (.long p0), .second, .val (.int p1), .val (.int p2), .val (.int p3), .val (.int (3 : Int32)), .val (.int (1 : Int32)), .val (.int qm), .val (.ref a741), .val (.ref a748), .unset] [])
      refine gaload B X875 at_159 rfl rfl (pc' := 161) rfl ?_
      refine gaload B X875 at_161 rfl rfl (pc' := 163) rfl ?_
      refine giload B X875 at_163 rfl (pc' := 165) rfl ?_
      refine giconst B X875 at_165 (v := (3 : Int32)) rfl (pc' := 166) rfl ?_
      refine giloadN B X875 at_166 rfl (pc' := 167) rfl ?_
      refine giloadN B X875 at_167 rfl (pc' := 168) rfl ?_
      refine giload B X875 at_168 rfl (pc' := 170) rfl ?_
      refine gcallS B X875 (hw _ (List.mem_of_getElem? (i := 1) rfl)) (hw _ (List.mem_of_getElem? (i := 2) rfl)) (hw _ (List.mem_of_getElem? (i := 3) rfl)) (hw _ (List.mem_of_getElem? (i := 4) rfl)) (by decide) (mt1_no l Z a0 hw a748 a741 (1 : Int32) (3 : Int32) p1 p2 qm (3 : Int32) [(.int (oc0 p1)), (.int (oc1 p1)), (.int (oc2 p1))] 3 h873 A881 rfl (by decide) (by decide)) pd___B_BIIIII_V rfl (argsL := [(.ref a748), (.ref a741), (.int (1 : Int32)), (.int (3 : Int32)), (.int p1), (.int p2), (.int qm)]) (st := []) rfl rfl (W := 0) (Nat.le_of_eq rfl) (by decide) (by decide) (by decide) (by decide) (fun x q => nomatch q) at_170 (pc' := 173) rfl (pureV rfl rfl fun T882 X883 => ?_)
      refine joinG B X883 (F := fun z => (mkF m 222 #[.val (.long p0), .second, .val (.int p1), .val (.int p2), .val (.int p3), .val (.int (3 : Int32)), .val (.int (1 : Int32)), .val (.int qm), .val (.ref a741), .val (.ref a748), .unset] [(.int z)])) (r := (oE (3 : Int32) qm)) (fun J => ?_) ?_
      · refine giconst B X883 at_173 (v := (0 : Int32)) rfl (pc' := 174) rfl ?_
        refine giload B X883 at_174 rfl (pc' := 176) rfl ?_
        refine giload B X883 at_176 rfl (pc' := 178) rfl ?_
        refine gcallS B X883 (hw _ (List.mem_of_getElem? (i := 5) rfl)) (hw _ (List.mem_of_getElem? (i := 6) rfl)) (hw _ (List.mem_of_getElem? (i := 3) rfl)) (hw _ (List.mem_of_getElem? (i := 7) rfl)) (by decide) (mt2 l Z a0 hw (0 : Int32) (3 : Int32) qm  h873 ) pd__III_Z rfl (argsL := [(.int (0 : Int32)), (.int (3 : Int32)), (.int qm)]) (st := []) rfl rfl (W := 0) (Nat.le_of_eq rfl) (by decide) (by decide) (by decide) (by decide) (fun x q => nomatch q) at_178 (pc' := 181) rfl (pureG rfl rfl fun T884 X885 => ?_)
        by_cases c181_886 : (f2 (0 : Int32) (3 : Int32) qm) = (0 : Int32)
        · refine gifY B X885 (pc' := 221) at_181 ((if0 _ _).trans (teq c181_886).1) (by decide) ?_
          refine giconst B X885 at_221 (v := (0 : Int32)) rfl (pc' := 222) rfl ?_
          have e_J : (oE (3 : Int32) qm) = (0 : Int32) := by rw [oE, if_pos c181_886]
          rw [e_J] at J
          exact J _ X885
        · refine gifN B X885 at_181 ((if0 _ _).trans (feq c181_886).1) (pc' := 184) rfl ?_
          refine giconst B X885 at_184 (v := (1 : Int32)) rfl (pc' := 185) rfl ?_
          refine giload B X885 at_185 rfl (pc' := 187) rfl ?_
          refine giload B X885 at_187 rfl (pc' := 189) rfl ?_
          refine gcallS B X885 (hw _ (List.mem_of_getElem? (i := 5) rfl)) (hw _ (List.mem_of_getElem? (i := 6) rfl)) (hw _ (List.mem_of_getElem? (i := 3) rfl)) (hw _ (List.mem_of_getElem? (i := 7) rfl)) (by decide) (mt2 l Z a0 hw (1 : Int32) (3 : Int32) qm  h873 ) pd__III_Z rfl (argsL := [(.int (1 : Int32)), (.int (3 : Int32)), (.int qm)]) (st := []) rfl rfl (W := 0) (Nat.le_of_eq rfl) (by decide) (by decide) (by decide) (by decide) (fun x q => nomatch q) at_189 (pc' := 192) rfl (pureG rfl rfl fun T887 X888 => ?_)
          by_cases c192_889 : (f2 (1 : Int32) (3 : Int32) qm) = (0 : Int32)
          · refine gifY B X888 (pc' := 221) at_192 ((if0 _ _).trans (teq c192_889).1) (by decide) ?_
            refine giconst B X888 at_221 (v := (0 : Int32)) rfl (pc' := 222) rfl ?_
            have e_J : (oE (3 : Int32) qm) = (0 : Int32) := by rw [oE, if_neg c181_886, if_pos c192_889]
            rw [e_J] at J
            exact J _ X888
          · refine gifN B X888 at_192 ((if0 _ _).trans (feq c192_889).1) (pc' := 195) rfl ?_
            refine giconst B X888 at_195 (v := (2 : Int32)) rfl (pc' := 196) rfl ?_
            refine giload B X888 at_196 rfl (pc' := 198) rfl ?_
            refine giload B X888 at_198 rfl (pc' := 200) rfl ?_
            refine gcallS B X888 (hw _ (List.mem_of_getElem? (i := 5) rfl)) (hw _ (List.mem_of_getElem? (i := 6) rfl)) (hw _ (List.mem_of_getElem? (i := 3) rfl)) (hw _ (List.mem_of_getElem? (i := 7) rfl)) (by decide) (mt2 l Z a0 hw (2 : Int32) (3 : Int32) qm  h873 ) pd__III_Z rfl (argsL := [(.int (2 : Int32)), (.int (3 : Int32)), (.int qm)]) (st := []) rfl rfl (W := 0) (Nat.le_of_eq rfl) (by decide) (by decide) (by decide) (by decide) (fun x q => nomatch q) at_200 (pc' := 203) rfl (pureG rfl rfl fun T890 X891 => ?_)
            by_cases c203_892 : (f2 (2 : Int32) (3 : Int32) qm) = (0 : Int32)
            · refine gifY B X891 (pc' := 221) at_203 ((if0 _ _).trans (teq c203_892).1) (by decide) ?_
              refine giconst B X891 at_221 (v := (0 : Int32)) rfl (pc' := 222) rfl ?_
              have e_J : (oE (3 : Int32) qm) = (0 : Int32) := by rw [oE, if_neg c181_886, if_neg c192_889, if_pos c203_892]
              rw [e_J] at J
              exact J _ X891
            · refine gifN B X891 at_203 ((if0 _ _).trans (feq c203_892).1) (pc' := 206) rfl ?_
              refine giconst B X891 at_206 (v := (3 : Int32)) rfl (pc' := 207) rfl ?_
              refine giload B X891 at_207 rfl (pc' := 209) rfl ?_
              refine giload B X891 at_209 rfl (pc' := 211) rfl ?_
              refine gcallS B X891 (hw _ (List.mem_of_getElem? (i := 5) rfl)) (hw _ (List.mem_of_getElem? (i := 6) rfl)) (hw _ (List.mem_of_getElem? (i := 3) rfl)) (hw _ (List.mem_of_getElem? (i := 7) rfl)) (by decide) (mt2 l Z a0 hw (3 : Int32) (3 : Int32) qm  h873 ) pd__III_Z rfl (argsL := [(.int (3 : Int32)), (.int (3 : Int32)), (.int qm)]) (st := []) rfl rfl (W := 0) (Nat.le_of_eq rfl) (by decide) (by decide) (by decide) (by decide) (fun x q => nomatch q) at_211 (pc' := 214) rfl (pureG rfl rfl fun T893 X894 => ?_)
              by_cases c214_895 : (f2 (3 : Int32) (3 : Int32) qm) = (0 : Int32)
              · refine gifY B X894 (pc' := 221) at_214 ((if0 _ _).trans (teq c214_895).1) (by decide) ?_
                refine giconst B X894 at_221 (v := (0 : Int32)) rfl (pc' := 222) rfl ?_
                have e_J : (oE (3 : Int32) qm) = (0 : Int32) := by rw [oE, if_neg c181_886, if_neg c192_889, if_neg c203_892, if_pos c214_895]
                rw [e_J] at J
                exact J _ X894
              · refine gifN B X894 at_214 ((if0 _ _).trans (feq c214_895).1) (pc' := 217) rfl ?_
                refine giconst B X894 at_217 (v := (1 : Int32)) rfl (pc' := 218) rfl ?_
                refine ggoto B X894 (pc' := 222) at_218 (by decide) ?_
                have e_J : (oE (3 : Int32) qm) = (1 : Int32) := by rw [oE, if_neg c181_886, if_neg c192_889, if_neg c203_892, if_neg c214_895]
                rw [e_J] at J
                exact J _ X894
      intro T896 X897
      show Go p e below s _ _ _ _ _ T896 (mkF m 222 #[.val (.long p0), .second, .val (.int p1), .val (.int p2), .val (.int p3), .val (.int (3 : Int32)), .val (.int (1 : Int32)), .val (.int qm), .val (.ref a741), .val (.ref a748), .unset] [(.int (oE (3 : Int32) qm))])
      refine gistore B X897 at_222 (Ls' := #[.val (.long p0), .second, .val (.int p1), .val (.int p2), .val (.int p3), .val (.int (3 : Int32)), .val (.int (1 : Int32)), .val (.int qm), .val (.ref a741), .val (.ref a748), .val (.int (oE (3 : Int32) qm))]) rfl (pc' := 224) rfl ?_
      refine gaload B X897 at_224 rfl rfl (pc' := 226) rfl ?_
      refine giload B X897 at_226 rfl (pc' := 228) rfl ?_
      refine gaload B X897 at_228 rfl rfl (pc' := 230) rfl ?_
      refine gcallS B X897 (hw _ (List.mem_of_getElem? (i := 8) rfl)) (hw _ (List.mem_of_getElem? (i := 9) rfl)) (hw _ (List.mem_of_getElem? (i := 10) rfl)) (hw _ (List.mem_of_getElem? (i := 11) rfl)) (by decide) (mt3_3 l Z a0 hw a748 (1 : Int32) a741 [(.int b0), (.int (ox0 p1 p2 qm)), (.int (ox1 p1 p2 qm)), (.int (ox2 p1 p2 qm)), (.int b4), (.int b5), (.int b6), (.int b7)] (ox0 p1 p2 qm) (oc0 p1) (ox1 p1 p2 qm) (oc1 p1) (ox2 p1 p2 qm) (oc2 p1) h873 A880 rfl A881 (by decide) rfl (by decide) rfl (by decide) rfl) pd___BI_B_Z rfl (argsL := [(.ref a748), (.int (1 : Int32)), (.ref a741)]) (st := []) rfl rfl (W := 0) (Nat.le_of_eq rfl) (by decide) (by decide) (by decide) (by decide) (fun x q => nomatch q) at_230 (pc' := 233) rfl (pureG rfl rfl fun T898 X899 => ?_)
      refine giload B X899 at_233 rfl (pc' := 235) rfl ?_
      have c235_900 : (f3_3 (ox0 p1 p2 qm) (oc0 p1) (ox1 p1 p2 qm) (oc1 p1) (ox2 p1 p2 qm) (oc2 p1)) = (oE (3 : Int32) qm) := own_fin3 p1 p2 qm
      refine gicN B X899 at_235 (teq c235_900).2 (pc' := 238) rfl ?_
      refine giconst B X899 at_238 (v := (1 : Int32)) rfl (pc' := 239) rfl ?_
      refine ggoto B X899 (pc' := 243) at_239 (by decide) ?_
      exact gretN B X899 (z' := (1 : Int32)) (by simp) (rfl) at_243 (by decide) (by decide) (rfl)
    · skip
      refine gaload B X799 at_117 rfl rfl (pc' := 119) rfl ?_
      refine gaload B X799 at_119 rfl rfl (pc' := 121) rfl ?_
      refine giload B X799 at_121 rfl (pc' := 123) rfl ?_
      refine giconst B X799 at_123 (v := (0 : Int32)) rfl (pc' := 124) rfl ?_
      refine giloadN B X799 at_124 rfl (pc' := 125) rfl ?_
      refine giloadN B X799 at_125 rfl (pc' := 126) rfl ?_
      refine giload B X799 at_126 rfl (pc' := 128) rfl ?_
      refine gcallS B X799 (hw _ (List.mem_of_getElem? (i := 1) rfl)) (hw _ (List.mem_of_getElem? (i := 2) rfl)) (hw _ (List.mem_of_getElem? (i := 3) rfl)) (hw _ (List.mem_of_getElem? (i := 4) rfl)) (by decide) (mt1_0 l Z a0 hw a748 a741 (2 : Int32) p1 p2 qm (3 : Int32) [(.int b0), (.int b1), (.int b2), (.int b3), (.int b4), (.int b5), (.int b6), (.int b7)] [(.int (0 : Int32)), (.int (0 : Int32)), (.int (0 : Int32))] 2 3 h798 A801 F802 (Ne.symm n753) rfl rfl (by decide) (by decide) (by decide) (by decide) rfl) pd___B_BIIIII_V rfl (argsL := [(.ref a748), (.ref a741), (.int (2 : Int32)), (.int (0 : Int32)), (.int p1), (.int p2), (.int qm)]) (st := []) rfl rfl (W := 0) (Nat.le_of_eq rfl) (by decide) (by decide) (by decide) (by decide) (allS (Or.inr z_a748) (allS (Or.inr z_a741) all0)) at_128 (pc' := 131) rfl fun T901 h902 v903 X904 K905 Q906 => ?_
      obtain ⟨rfl, A907, A908⟩ := Q906
      have A909 : VA Z h902 a748 .byte [(.int b0), (.int b1), (.int (ox0 p1 p2 qm)), (.int b3), (.int b4), (.int b5), (.int b6), (.int b7)] := A907
      have A910 : VA Z h902 a741 .byte [(.int (oc0 p1)), (.int (0 : Int32)), (.int (0 : Int32))] := A908
      show Go p e below s _ _ _ _ _ T901 (mkF m 131 #[.val (.long p0), .second, .val (.int p1), .val (.int p2), .val (.int p3), .val (.int (3 : Int32)), .val (.int (2 : Int32)), .val (.int qm), .val (.ref a741), .val (.ref a748), .unset] [])
      refine gaload B X904 at_131 rfl rfl (pc' := 133) rfl ?_
      refine gaload B X904 at_133 rfl rfl (pc' := 135) rfl ?_
      refine giload B X904 at_135 rfl (pc' := 137) rfl ?_
      refine giconst B X904 at_137 (v := (1 : Int32)) rfl (pc' := 138) rfl ?_
      refine giloadN B X904 at_138 rfl (pc' := 139) rfl ?_
      refine giloadN B X904 at_139 rfl (pc' := 140) rfl ?_
      refine giload B X904 at_140 rfl (pc' := 142) rfl ?_
      refine gcallS B X904 (hw _ (List.mem_of_getElem? (i := 1) rfl)) (hw _ (List.mem_of_getElem? (i := 2) rfl)) (hw _ (List.mem_of_getElem? (i := 3) rfl)) (hw _ (List.mem_of_getElem? (i := 4) rfl)) (by decide) (mt1_1 l Z a0 hw a748 a741 (2 : Int32) p1 p2 qm (3 : Int32) [(.int b0), (.int b1), (.int (ox0 p1 p2 qm)), (.int b3), (.int b4), (.int b5), (.int b6), (.int b7)] [(.int (oc0 p1)), (.int (0 : Int32)), (.int (0 : Int32))] 3 3 h902 A909 A910 (Ne.symm n753) rfl rfl (by decide) (by decide) (by decide) (by decide) rfl) pd___B_BIIIII_V rfl (argsL := [(.ref a748), (.ref a741), (.int (2 : Int32)), (.int (1 : Int32)), (.int p1), (.int p2), (.int qm)]) (st := []) rfl rfl (W := 0) (Nat.le_of_eq rfl) (by decide) (by decide) (by decide) (by decide) (allS (Or.inr z_a748) (allS (Or.inr z_a741) all0)) at_142 (pc' := 145) rfl fun T911 h912 v913 X914 K915 Q916 => ?_
      obtain ⟨rfl, A917, A918⟩ := Q916
      have A919 : VA Z h912 a748 .byte [(.int b0), (.int b1), (.int (ox0 p1 p2 qm)), (.int (ox1 p1 p2 qm)), (.int b4), (.int b5), (.int b6), (.int b7)] := A917
      have A920 : VA Z h912 a741 .byte [(.int (oc0 p1)), (.int (oc1 p1)), (.int (0 : Int32))] := A918
      show Go p e below s _ _ _ _ _ T911 (mkF m 145 #[.val (.long p0), .second, .val (.int p1), .val (.int p2), .val (.int p3), .val (.int (3 : Int32)), .val (.int (2 : Int32)), .val (.int qm), .val (.ref a741), .val (.ref a748), .unset] [])
      refine gaload B X914 at_145 rfl rfl (pc' := 147) rfl ?_
      refine gaload B X914 at_147 rfl rfl (pc' := 149) rfl ?_
      refine giload B X914 at_149 rfl (pc' := 151) rfl ?_
      refine giconst B X914 at_151 (v := (2 : Int32)) rfl (pc' := 152) rfl ?_
      refine giloadN B X914 at_152 rfl (pc' := 153) rfl ?_
      refine giloadN B X914 at_153 rfl (pc' := 154) rfl ?_
      refine giload B X914 at_154 rfl (pc' := 156) rfl ?_
      refine gcallS B X914 (hw _ (List.mem_of_getElem? (i := 1) rfl)) (hw _ (List.mem_of_getElem? (i := 2) rfl)) (hw _ (List.mem_of_getElem? (i := 3) rfl)) (hw _ (List.mem_of_getElem? (i := 4) rfl)) (by decide) (mt1_2 l Z a0 hw a748 a741 (2 : Int32) p1 p2 qm (3 : Int32) [(.int b0), (.int b1), (.int (ox0 p1 p2 qm)), (.int (ox1 p1 p2 qm)), (.int b4), (.int b5), (.int b6), (.int b7)] [(.int (oc0 p1)), (.int (oc1 p1)), (.int (0 : Int32))] 4 3 h912 A919 A920 (Ne.symm n753) rfl rfl (by decide) (by decide) (by decide) (by decide) rfl) pd___B_BIIIII_V rfl (argsL := [(.ref a748), (.ref a741), (.int (2 : Int32)), (.int (2 : Int32)), (.int p1), (.int p2), (.int qm)]) (st := []) rfl rfl (W := 0) (Nat.le_of_eq rfl) (by decide) (by decide) (by decide) (by decide) (allS (Or.inr z_a748) (allS (Or.inr z_a741) all0)) at_156 (pc' := 159) rfl fun T921 h922 v923 X924 K925 Q926 => ?_
      obtain ⟨rfl, A927, A928⟩ := Q926
      have A929 : VA Z h922 a748 .byte [(.int b0), (.int b1), (.int (ox0 p1 p2 qm)), (.int (ox1 p1 p2 qm)), (.int (ox2 p1 p2 qm)), (.int b5), (.int b6), (.int b7)] := A927
      have A930 : VA Z h922 a741 .byte [(.int (oc0 p1)), (.int (oc1 p1)), (.int (oc2 p1))] := A928
      show Go p e below s _ _ _ _ _ T921 (mkF m 159 #[.val (.long p0), .second, .val (.int p1), .val (.int p2), .val (.int p3), .val (.int (3 : Int32)), .val (.int (2 : Int32)), .val (.int qm), .val (.ref a741), .val (.ref a748), .unset] [])
      refine gaload B X924 at_159 rfl rfl (pc' := 161) rfl ?_
      refine gaload B X924 at_161 rfl rfl (pc' := 163) rfl ?_
      refine giload B X924 at_163 rfl (pc' := 165) rfl ?_
      refine giconst B X924 at_165 (v := (3 : Int32)) rfl (pc' := 166) rfl ?_
      refine giloadN B X924 at_166 rfl (pc' := 167) rfl ?_
      refine giloadN B X924 at_167 rfl (pc' := 168) rfl ?_
      refine giload B X924 at_168 rfl (pc' := 170) rfl ?_
      refine gcallS B X924 (hw _ (List.mem_of_getElem? (i := 1) rfl)) (hw _ (List.mem_of_getElem? (i := 2) rfl)) (hw _ (List.mem_of_getElem? (i := 3) rfl)) (hw _ (List.mem_of_getElem? (i := 4) rfl)) (by decide) (mt1_no l Z a0 hw a748 a741 (2 : Int32) (3 : Int32) p1 p2 qm (3 : Int32) [(.int (oc0 p1)), (.int (oc1 p1)), (.int (oc2 p1))] 3 h922 A930 rfl (by decide) (by decide)) pd___B_BIIIII_V rfl (argsL := [(.ref a748), (.ref a741), (.int (2 : Int32)), (.int (3 : Int32)), (.int p1), (.int p2), (.int qm)]) (st := []) rfl rfl (W := 0) (Nat.le_of_eq rfl) (by decide) (by decide) (by decide) (by decide) (fun x q => nomatch q) at_170 (pc' := 173) rfl (pureV rfl rfl fun T931 X932 => ?_)
      refine joinG B X932 (F := fun z => (mkF m 222 #[.val (.long p0), .second, .val (.int p1), .val (.int p2), .val (.int p3), .val (.int (3 : Int32)), .val (.int (2 : Int32)), .val (.int qm), .val (.ref a741), .val (.ref a748), .unset] [(.int z)])) (r := (oE (3 : Int32) qm)) (fun J => ?_) ?_
      · refine giconst B X932 at_173 (v := (0 : Int32)) rfl (pc' := 174) rfl ?_
        refine giload B X932 at_174 rfl (pc' := 176) rfl ?_
        refine giload B X932 at_176 rfl (pc' := 178) rfl ?_
        refine gcallS B X932 (hw _ (List.mem_of_getElem? (i := 5) rfl)) (hw _ (List.mem_of_getElem? (i := 6) rfl)) (hw _ (List.mem_of_getElem? (i := 3) rfl)) (hw _ (List.mem_of_getElem? (i := 7) rfl)) (by decide) (mt2 l Z a0 hw (0 : Int32) (3 : Int32) qm  h922 ) pd__III_Z rfl (argsL := [(.int (0 : Int32)), (.int (3 : Int32)), (.int qm)]) (st := []) rfl rfl (W := 0) (Nat.le_of_eq rfl) (by decide) (by decide) (by decide) (by decide) (fun x q => nomatch q) at_178 (pc' := 181) rfl (pureG rfl rfl fun T933 X934 => ?_)
        by_cases c181_935 : (f2 (0 : Int32) (3 : Int32) qm) = (0 : Int32)
        · refine gifY B X934 (pc' := 221) at_181 ((if0 _ _).trans (teq c181_935).1) (by decide) ?_
          refine giconst B X934 at_221 (v := (0 : Int32)) rfl (pc' := 222) rfl ?_
          have e_J : (oE (3 : Int32) qm) = (0 : Int32) := by rw [oE, if_pos c181_935]
          rw [e_J] at J
          exact J _ X934
        · refine gifN B X934 at_181 ((if0 _ _).trans (feq c181_935).1) (pc' := 184) rfl ?_
          refine giconst B X934 at_184 (v := (1 : Int32)) rfl (pc' := 185) rfl ?_
          refine giload B X934 at_185 rfl (pc' := 187) rfl ?_
          refine giload B X934 at_187 rfl (pc' := 189) rfl ?_
          refine gcallS B X934 (hw _ (List.mem_of_getElem? (i := 5) rfl)) (hw _ (List.mem_of_getElem? (i := 6) rfl)) (hw _ (List.mem_of_getElem? (i := 3) rfl)) (hw _ (List.mem_of_getElem? (i := 7) rfl)) (by decide) (mt2 l Z a0 hw (1 : Int32) (3 : Int32) qm  h922 ) pd__III_Z rfl (argsL := [(.int (1 : Int32)), (.int (3 : Int32)), (.int qm)]) (st := []) rfl rfl (W := 0) (Nat.le_of_eq rfl) (by decide) (by decide) (by decide) (by decide) (fun x q => nomatch q) at_189 (pc' := 192) rfl (pureG rfl rfl fun T936 X937 => ?_)
          by_cases c192_938 : (f2 (1 : Int32) (3 : Int32) qm) = (0 : Int32)
          · refine gifY B X937 (pc' := 221) at_192 ((if0 _ _).trans (teq c192_938).1) (by decide) ?_
            refine giconst B X937 at_221 (v := (0 : Int32)) rfl (pc' := 222) rfl ?_
            have e_J : (oE (3 : Int32) qm) = (0 : Int32) := by rw [oE, if_neg c181_935, if_pos c192_938]
            rw [e_J] at J
            exact J _ X937
          · refine gifN B X937 at_192 ((if0 _ _).trans (feq c192_938).1) (pc' := 195) rfl ?_
            refine giconst B X937 at_195 (v := (2 : Int32)) rfl (pc' := 196) rfl ?_
            refine giload B X937 at_196 rfl (pc' := 198) rfl ?_
            refine giload B X937 at_198 rfl (pc' := 200) rfl ?_
            refine gcallS B X937 (hw _ (List.mem_of_getElem? (i := 5) rfl)) (hw _ (List.mem_of_getElem? (i := 6) rfl)) (hw _ (List.mem_of_getElem? (i := 3) rfl)) (hw _ (List.mem_of_getElem? (i := 7) rfl)) (by decide) (mt2 l Z a0 hw (2 : Int32) (3 : Int32) qm  h922 ) pd__III_Z rfl (argsL := [(.int (2 : Int32)), (.int (3 : Int32)), (.int qm)]) (st := []) rfl rfl (W := 0) (Nat.le_of_eq rfl) (by decide) (by decide) (by decide) (by decide) (fun x q => nomatch q) at_200 (pc' := 203) rfl (pureG rfl rfl fun T939 X940 => ?_)
            by_cases c203_941 : (f2 (2 : Int32) (3 : Int32) qm) = (0 : Int32)
            · refine gifY B X940 (pc' := 221) at_203 ((if0 _ _).trans (teq c203_941).1) (by decide) ?_
              refine giconst B X940 at_221 (v := (0 : Int32)) rfl (pc' := 222) rfl ?_
              have e_J : (oE (3 : Int32) qm) = (0 : Int32) := by rw [oE, if_neg c181_935, if_neg c192_938, if_pos c203_941]
              rw [e_J] at J
              exact J _ X940
            · refine gifN B X940 at_203 ((if0 _ _).trans (feq c203_941).1) (pc' := 206) rfl ?_
              refine giconst B X940 at_206 (v := (3 : Int32)) rfl (pc' := 207) rfl ?_
              refine giload B X940 at_207 rfl (pc' := 209) rfl ?_
              refine giload B X940 at_209 rfl (pc' := 211) rfl ?_
              refine gcallS B X940 (hw _ (List.mem_of_getElem? (i := 5) rfl)) (hw _ (List.mem_of_getElem? (i := 6) rfl)) (hw _ (List.mem_of_getElem? (i := 3) rfl)) (hw _ (List.mem_of_getElem? (i := 7) rfl)) (by decide) (mt2 l Z a0 hw (3 : Int32) (3 : Int32) qm  h922 ) pd__III_Z rfl (argsL := [(.int (3 : Int32)), (.int (3 : Int32)), (.int qm)]) (st := []) rfl rfl (W := 0) (Nat.le_of_eq rfl) (by decide) (by decide) (by decide) (by decide) (fun x q => nomatch q) at_211 (pc' := 214) rfl (pureG rfl rfl fun T942 X943 => ?_)
              by_cases c214_944 : (f2 (3 : Int32) (3 : Int32) qm) = (0 : Int32)
              · refine gifY B X943 (pc' := 221) at_214 ((if0 _ _).trans (teq c214_944).1) (by decide) ?_
                refine giconst B X943 at_221 (v := (0 : Int32)) rfl (pc' := 222) rfl ?_
                have e_J : (oE (3 : Int32) qm) = (0 : Int32) := by rw [oE, if_neg c181_935, if_neg c192_938, if_neg c203_941, if_pos c214_944]
                rw [e_J] at J
                exact J _ X943
              · refine gifN B X943 at_214 ((if0 _ _).trans (feq c214_944).1) (pc' := 217) rfl ?_
                refine giconst B X943 at_217 (v := (1 : Int32)) rfl (pc' := 218) rfl ?_
                refine ggoto B X943 (pc' := 222) at_218 (by decide) ?_
                have e_J : (oE (3 : Int32) qm) = (1 : Int32) := by rw [oE, if_neg c181_935, if_neg c192_938, if_neg c203_941, if_neg c214_944]
                rw [e_J] at J
                exact J _ X943
      intro T945 X946
      show Go p e below s _ _ _ _ _ T945 (mkF m 222 #[.val (.long p0), .second, .val (.int p1), .val (.int p2), .val (.int p3), .val (.int (3 : Int32)), .val (.int (2 : Int32)), .val (.int qm), .val (.ref a741), .val (.ref a748), .unset] [(.int (oE (3 : Int32) qm))])
      refine gistore B X946 at_222 (Ls' := #[.val (.long p0), .second, .val (.int p1), .val (.int p2), .val (.int p3), .val (.int (3 : Int32)), .val (.int (2 : Int32)), .val (.int qm), .val (.ref a741), .val (.ref a748), .val (.int (oE (3 : Int32) qm))]) rfl (pc' := 224) rfl ?_
      refine gaload B X946 at_224 rfl rfl (pc' := 226) rfl ?_
      refine giload B X946 at_226 rfl (pc' := 228) rfl ?_
      refine gaload B X946 at_228 rfl rfl (pc' := 230) rfl ?_
      refine gcallS B X946 (hw _ (List.mem_of_getElem? (i := 8) rfl)) (hw _ (List.mem_of_getElem? (i := 9) rfl)) (hw _ (List.mem_of_getElem? (i := 10) rfl)) (hw _ (List.mem_of_getElem? (i := 11) rfl)) (by decide) (mt3_3 l Z a0 hw a748 (2 : Int32) a741 [(.int b0), (.int b1), (.int (ox0 p1 p2 qm)), (.int (ox1 p1 p2 qm)), (.int (ox2 p1 p2 qm)), (.int b5), (.int b6), (.int b7)] (ox0 p1 p2 qm) (oc0 p1) (ox1 p1 p2 qm) (oc1 p1) (ox2 p1 p2 qm) (oc2 p1) h922 A929 rfl A930 (by decide) rfl (by decide) rfl (by decide) rfl) pd___BI_B_Z rfl (argsL := [(.ref a748), (.int (2 : Int32)), (.ref a741)]) (st := []) rfl rfl (W := 0) (Nat.le_of_eq rfl) (by decide) (by decide) (by decide) (by decide) (fun x q => nomatch q) at_230 (pc' := 233) rfl (pureG rfl rfl fun T947 X948 => ?_)
      refine giload B X948 at_233 rfl (pc' := 235) rfl ?_
      have c235_949 : (f3_3 (ox0 p1 p2 qm) (oc0 p1) (ox1 p1 p2 qm) (oc1 p1) (ox2 p1 p2 qm) (oc2 p1)) = (oE (3 : Int32) qm) := own_fin3 p1 p2 qm
      refine gicN B X948 at_235 (teq c235_949).2 (pc' := 238) rfl ?_
      refine giconst B X948 at_238 (v := (1 : Int32)) rfl (pc' := 239) rfl ?_
      refine ggoto B X948 (pc' := 243) at_239 (by decide) ?_
      exact gretN B X948 (z' := (1 : Int32)) (by simp) (rfl) at_243 (by decide) (by decide) (rfl)
    · skip
      refine gaload B X799 at_117 rfl rfl (pc' := 119) rfl ?_
      refine gaload B X799 at_119 rfl rfl (pc' := 121) rfl ?_
      refine giload B X799 at_121 rfl (pc' := 123) rfl ?_
      refine giconst B X799 at_123 (v := (0 : Int32)) rfl (pc' := 124) rfl ?_
      refine giloadN B X799 at_124 rfl (pc' := 125) rfl ?_
      refine giloadN B X799 at_125 rfl (pc' := 126) rfl ?_
      refine giload B X799 at_126 rfl (pc' := 128) rfl ?_
      refine gcallS B X799 (hw _ (List.mem_of_getElem? (i := 1) rfl)) (hw _ (List.mem_of_getElem? (i := 2) rfl)) (hw _ (List.mem_of_getElem? (i := 3) rfl)) (hw _ (List.mem_of_getElem? (i := 4) rfl)) (by decide) (mt1_0 l Z a0 hw a748 a741 (3 : Int32) p1 p2 qm (3 : Int32) [(.int b0), (.int b1), (.int b2), (.int b3), (.int b4), (.int b5), (.int b6), (.int b7)] [(.int (0 : Int32)), (.int (0 : Int32)), (.int (0 : Int32))] 3 3 h798 A801 F802 (Ne.symm n753) rfl rfl (by decide) (by decide) (by decide) (by decide) rfl) pd___B_BIIIII_V rfl (argsL := [(.ref a748), (.ref a741), (.int (3 : Int32)), (.int (0 : Int32)), (.int p1), (.int p2), (.int qm)]) (st := []) rfl rfl (W := 0) (Nat.le_of_eq rfl) (by decide) (by decide) (by decide) (by decide) (allS (Or.inr z_a748) (allS (Or.inr z_a741) all0)) at_128 (pc' := 131) rfl fun T950 h951 v952 X953 K954 Q955 => ?_
      obtain ⟨rfl, A956, A957⟩ := Q955
      have A958 : VA Z h951 a748 .byte [(.int b0), (.int b1), (.int b2), (.int (ox0 p1 p2 qm)), (.int b4), (.int b5), (.int b6), (.int b7)] := A956
      have A959 : VA Z h951 a741 .byte [(.int (oc0 p1)), (.int (0 : Int32)), (.int (0 : Int32))] := A957
      show Go p e below s _ _ _ _ _ T950 (mkF m 131 #[.val (.long p0), .second, .val (.int p1), .val (.int p2), .val (.int p3), .val (.int (3 : Int32)), .val (.int (3 : Int32)), .val (.int qm), .val (.ref a741), .val (.ref a748), .unset] [])
      refine gaload B X953 at_131 rfl rfl (pc' := 133) rfl ?_
      refine gaload B X953 at_133 rfl rfl (pc' := 135) rfl ?_
      refine giload B X953 at_135 rfl (pc' := 137) rfl ?_
      refine giconst B X953 at_137 (v := (1 : Int32)) rfl (pc' := 138) rfl ?_
      refine giloadN B X953 at_138 rfl (pc' := 139) rfl ?_
      refine giloadN B X953 at_139 rfl (pc' := 140) rfl ?_
      refine giload B X953 at_140 rfl (pc' := 142) rfl ?_
      refine gcallS B X953 (hw _ (List.mem_of_getElem? (i := 1) rfl)) (hw _ (List.mem_of_getElem? (i := 2) rfl)) (hw _ (List.mem_of_getElem? (i := 3) rfl)) (hw _ (List.mem_of_getElem? (i := 4) rfl)) (by decide) (mt1_1 l Z a0 hw a748 a741 (3 : Int32) p1 p2 qm (3 : Int32) [(.int b0), (.int b1), (.int b2), (.int (ox0 p1 p2 qm)), (.int b4), (.int b5), (.int b6), (.int b7)] [(.int (oc0 p1)), (.int (0 : Int32)), (.int (0 : Int32))] 4 3 h951 A958 A959 (Ne.symm n753) rfl rfl (by decide) (by decide) (by decide) (by decide) rfl) pd___B_BIIIII_V rfl (argsL := [(.ref a748), (.ref a741), (.int (3 : Int32)), (.int (1 : Int32)), (.int p1), (.int p2), (.int qm)]) (st := []) rfl rfl (W := 0) (Nat.le_of_eq rfl) (by decide) (by decide) (by decide) (by decide) (allS (Or.inr z_a748) (allS (Or.inr z_a741) all0)) at_142 (pc' := 145) rfl fun T960 h961 v962 X963 K964 Q965 => ?_
      obtain ⟨rfl, A966, A967⟩ := Q965
      have A968 : VA Z h961 a748 .byte [(.int b0), (.int b1), (.int b2), (.int (ox0 p1 p2 qm)), (.int (ox1 p1 p2 qm)), (.int b5), (.int b6), (.int b7)] := A966
      have A969 : VA Z h961 a741 .byte [(.int (oc0 p1)), (.int (oc1 p1)), (.int (0 : Int32))] := A967
      show Go p e below s _ _ _ _ _ T960 (mkF m 145 #[.val (.long p0), .second, .val (.int p1), .val (.int p2), .val (.int p3), .val (.int (3 : Int32)), .val (.int (3 : Int32)), .val (.int qm), .val (.ref a741), .val (.ref a748), .unset] [])
      refine gaload B X963 at_145 rfl rfl (pc' := 147) rfl ?_
      refine gaload B X963 at_147 rfl rfl (pc' := 149) rfl ?_
      refine giload B X963 at_149 rfl (pc' := 151) rfl ?_
      refine giconst B X963 at_151 (v := (2 : Int32)) rfl (pc' := 152) rfl ?_
      refine giloadN B X963 at_152 rfl (pc' := 153) rfl ?_
      refine giloadN B X963 at_153 rfl (pc' := 154) rfl ?_
      refine giload B X963 at_154 rfl (pc' := 156) rfl ?_
      refine gcallS B X963 (hw _ (List.mem_of_getElem? (i := 1) rfl)) (hw _ (List.mem_of_getElem? (i := 2) rfl)) (hw _ (List.mem_of_getElem? (i := 3) rfl)) (hw _ (List.mem_of_getElem? (i := 4) rfl)) (by decide) (mt1_2 l Z a0 hw a748 a741 (3 : Int32) p1 p2 qm (3 : Int32) [(.int b0), (.int b1), (.int b2), (.int (ox0 p1 p2 qm)), (.int (ox1 p1 p2 qm)), (.int b5), (.int b6), (.int b7)] [(.int (oc0 p1)), (.int (oc1 p1)), (.int (0 : Int32))] 5 3 h961 A968 A969 (Ne.symm n753) rfl rfl (by decide) (by decide) (by decide) (by decide) rfl) pd___B_BIIIII_V rfl (argsL := [(.ref a748), (.ref a741), (.int (3 : Int32)), (.int (2 : Int32)), (.int p1), (.int p2), (.int qm)]) (st := []) rfl rfl (W := 0) (Nat.le_of_eq rfl) (by decide) (by decide) (by decide) (by decide) (allS (Or.inr z_a748) (allS (Or.inr z_a741) all0)) at_156 (pc' := 159) rfl fun T970 h971 v972 X973 K974 Q975 => ?_
      obtain ⟨rfl, A976, A977⟩ := Q975
      have A978 : VA Z h971 a748 .byte [(.int b0), (.int b1), (.int b2), (.int (ox0 p1 p2 qm)), (.int (ox1 p1 p2 qm)), (.int (ox2 p1 p2 qm)), (.int b6), (.int b7)] := A976
      have A979 : VA Z h971 a741 .byte [(.int (oc0 p1)), (.int (oc1 p1)), (.int (oc2 p1))] := A977
      show Go p e below s _ _ _ _ _ T970 (mkF m 159 #[.val (.long p0), .second, .val (.int p1), .val (.int p2), .val (.int p3), .val (.int (3 : Int32)), .val (.int (3 : Int32)), .val (.int qm), .val (.ref a741), .val (.ref a748), .unset] [])
      refine gaload B X973 at_159 rfl rfl (pc' := 161) rfl ?_
      refine gaload B X973 at_161 rfl rfl (pc' := 163) rfl ?_
      refine giload B X973 at_163 rfl (pc' := 165) rfl ?_
      refine giconst B X973 at_165 (v := (3 : Int32)) rfl (pc' := 166) rfl ?_
      refine giloadN B X973 at_166 rfl (pc' := 167) rfl ?_
      refine giloadN B X973 at_167 rfl (pc' := 168) rfl ?_
      refine giload B X973 at_168 rfl (pc' := 170) rfl ?_
      refine gcallS B X973 (hw _ (List.mem_of_getElem? (i := 1) rfl)) (hw _ (List.mem_of_getElem? (i := 2) rfl)) (hw _ (List.mem_of_getElem? (i := 3) rfl)) (hw _ (List.mem_of_getElem? (i := 4) rfl)) (by decide) (mt1_no l Z a0 hw a748 a741 (3 : Int32) (3 : Int32) p1 p2 qm (3 : Int32) [(.int (oc0 p1)), (.int (oc1 p1)), (.int (oc2 p1))] 3 h971 A979 rfl (by decide) (by decide)) pd___B_BIIIII_V rfl (argsL := [(.ref a748), (.ref a741), (.int (3 : Int32)), (.int (3 : Int32)), (.int p1), (.int p2), (.int qm)]) (st := []) rfl rfl (W := 0) (Nat.le_of_eq rfl) (by decide) (by decide) (by decide) (by decide) (fun x q => nomatch q) at_170 (pc' := 173) rfl (pureV rfl rfl fun T980 X981 => ?_)
      refine joinG B X981 (F := fun z => (mkF m 222 #[.val (.long p0), .second, .val (.int p1), .val (.int p2), .val (.int p3), .val (.int (3 : Int32)), .val (.int (3 : Int32)), .val (.int qm), .val (.ref a741), .val (.ref a748), .unset] [(.int z)])) (r := (oE (3 : Int32) qm)) (fun J => ?_) ?_
      · refine giconst B X981 at_173 (v := (0 : Int32)) rfl (pc' := 174) rfl ?_
        refine giload B X981 at_174 rfl (pc' := 176) rfl ?_
        refine giload B X981 at_176 rfl (pc' := 178) rfl ?_
        refine gcallS B X981 (hw _ (List.mem_of_getElem? (i := 5) rfl)) (hw _ (List.mem_of_getElem? (i := 6) rfl)) (hw _ (List.mem_of_getElem? (i := 3) rfl)) (hw _ (List.mem_of_getElem? (i := 7) rfl)) (by decide) (mt2 l Z a0 hw (0 : Int32) (3 : Int32) qm  h971 ) pd__III_Z rfl (argsL := [(.int (0 : Int32)), (.int (3 : Int32)), (.int qm)]) (st := []) rfl rfl (W := 0) (Nat.le_of_eq rfl) (by decide) (by decide) (by decide) (by decide) (fun x q => nomatch q) at_178 (pc' := 181) rfl (pureG rfl rfl fun T982 X983 => ?_)
        by_cases c181_984 : (f2 (0 : Int32) (3 : Int32) qm) = (0 : Int32)
        · refine gifY B X983 (pc' := 221) at_181 ((if0 _ _).trans (teq c181_984).1) (by decide) ?_
          refine giconst B X983 at_221 (v := (0 : Int32)) rfl (pc' := 222) rfl ?_
          have e_J : (oE (3 : Int32) qm) = (0 : Int32) := by rw [oE, if_pos c181_984]
          rw [e_J] at J
          exact J _ X983
        · refine gifN B X983 at_181 ((if0 _ _).trans (feq c181_984).1) (pc' := 184) rfl ?_
          refine giconst B X983 at_184 (v := (1 : Int32)) rfl (pc' := 185) rfl ?_
          refine giload B X983 at_185 rfl (pc' := 187) rfl ?_
          refine giload B X983 at_187 rfl (pc' := 189) rfl ?_
          refine gcallS B X983 (hw _ (List.mem_of_getElem? (i := 5) rfl)) (hw _ (List.mem_of_getElem? (i := 6) rfl)) (hw _ (List.mem_of_getElem? (i := 3) rfl)) (hw _ (List.mem_of_getElem? (i := 7) rfl)) (by decide) (mt2 l Z a0 hw (1 : Int32) (3 : Int32) qm  h971 ) pd__III_Z rfl (argsL := [(.int (1 : Int32)), (.int (3 : Int32)), (.int qm)]) (st := []) rfl rfl (W := 0) (Nat.le_of_eq rfl) (by decide) (by decide) (by decide) (by decide) (fun x q => nomatch q) at_189 (pc' := 192) rfl (pureG rfl rfl fun T985 X986 => ?_)
          by_cases c192_987 : (f2 (1 : Int32) (3 : Int32) qm) = (0 : Int32)
          · refine gifY B X986 (pc' := 221) at_192 ((if0 _ _).trans (teq c192_987).1) (by decide) ?_
            refine giconst B X986 at_221 (v := (0 : Int32)) rfl (pc' := 222) rfl ?_
            have e_J : (oE (3 : Int32) qm) = (0 : Int32) := by rw [oE, if_neg c181_984, if_pos c192_987]
            rw [e_J] at J
            exact J _ X986
          · refine gifN B X986 at_192 ((if0 _ _).trans (feq c192_987).1) (pc' := 195) rfl ?_
            refine giconst B X986 at_195 (v := (2 : Int32)) rfl (pc' := 196) rfl ?_
            refine giload B X986 at_196 rfl (pc' := 198) rfl ?_
            refine giload B X986 at_198 rfl (pc' := 200) rfl ?_
            refine gcallS B X986 (hw _ (List.mem_of_getElem? (i := 5) rfl)) (hw _ (List.mem_of_getElem? (i := 6) rfl)) (hw _ (List.mem_of_getElem? (i := 3) rfl)) (hw _ (List.mem_of_getElem? (i := 7) rfl)) (by decide) (mt2 l Z a0 hw (2 : Int32) (3 : Int32) qm  h971 ) pd__III_Z rfl (argsL := [(.int (2 : Int32)), (.int (3 : Int32)), (.int qm)]) (st := []) rfl rfl (W := 0) (Nat.le_of_eq rfl) (by decide) (by decide) (by decide) (by decide) (fun x q => nomatch q) at_200 (pc' := 203) rfl (pureG rfl rfl fun T988 X989 => ?_)
            by_cases c203_990 : (f2 (2 : Int32) (3 : Int32) qm) = (0 : Int32)
            · refine gifY B X989 (pc' := 221) at_203 ((if0 _ _).trans (teq c203_990).1) (by decide) ?_
              refine giconst B X989 at_221 (v := (0 : Int32)) rfl (pc' := 222) rfl ?_
              have e_J : (oE (3 : Int32) qm) = (0 : Int32) := by rw [oE, if_neg c181_984, if_neg c192_987, if_pos c203_990]
              rw [e_J] at J
              exact J _ X989
            · refine gifN B X989 at_203 ((if0 _ _).trans (feq c203_990).1) (pc' := 206) rfl ?_
              refine giconst B X989 at_206 (v := (3 : Int32)) rfl (pc' := 207) rfl ?_
              refine giload B X989 at_207 rfl (pc' := 209) rfl ?_
              refine giload B X989 at_209 rfl (pc' := 211) rfl ?_
              refine gcallS B X989 (hw _ (List.mem_of_getElem? (i := 5) rfl)) (hw _ (List.mem_of_getElem? (i := 6) rfl)) (hw _ (List.mem_of_getElem? (i := 3) rfl)) (hw _ (List.mem_of_getElem? (i := 7) rfl)) (by decide) (mt2 l Z a0 hw (3 : Int32) (3 : Int32) qm  h971 ) pd__III_Z rfl (argsL := [(.int (3 : Int32)), (.int (3 : Int32)), (.int qm)]) (st := []) rfl rfl (W := 0) (Nat.le_of_eq rfl) (by decide) (by decide) (by decide) (by decide) (fun x q => nomatch q) at_211 (pc' := 214) rfl (pureG rfl rfl fun T991 X992 => ?_)
              by_cases c214_993 : (f2 (3 : Int32) (3 : Int32) qm) = (0 : Int32)
              · refine gifY B X992 (pc' := 221) at_214 ((if0 _ _).trans (teq c214_993).1) (by decide) ?_
                refine giconst B X992 at_221 (v := (0 : Int32)) rfl (pc' := 222) rfl ?_
                have e_J : (oE (3 : Int32) qm) = (0 : Int32) := by rw [oE, if_neg c181_984, if_neg c192_987, if_neg c203_990, if_pos c214_993]
                rw [e_J] at J
                exact J _ X992
              · refine gifN B X992 at_214 ((if0 _ _).trans (feq c214_993).1) (pc' := 217) rfl ?_
                refine giconst B X992 at_217 (v := (1 : Int32)) rfl (pc' := 218) rfl ?_
                refine ggoto B X992 (pc' := 222) at_218 (by decide) ?_
                have e_J : (oE (3 : Int32) qm) = (1 : Int32) := by rw [oE, if_neg c181_984, if_neg c192_987, if_neg c203_990, if_neg c214_993]
                rw [e_J] at J
                exact J _ X992
      intro T994 X995
      show Go p e below s _ _ _ _ _ T994 (mkF m 222 #[.val (.long p0), .second, .val (.int p1), .val (.int p2), .val (.int p3), .val (.int (3 : Int32)), .val (.int (3 : Int32)), .val (.int qm), .val (.ref a741), .val (.ref a748), .unset] [(.int (oE (3 : Int32) qm))])
      refine gistore B X995 at_222 (Ls' := #[.val (.long p0), .second, .val (.int p1), .val (.int p2), .val (.int p3), .val (.int (3 : Int32)), .val (.int (3 : Int32)), .val (.int qm), .val (.ref a741), .val (.ref a748), .val (.int (oE (3 : Int32) qm))]) rfl (pc' := 224) rfl ?_
      refine gaload B X995 at_224 rfl rfl (pc' := 226) rfl ?_
      refine giload B X995 at_226 rfl (pc' := 228) rfl ?_
      refine gaload B X995 at_228 rfl rfl (pc' := 230) rfl ?_
      refine gcallS B X995 (hw _ (List.mem_of_getElem? (i := 8) rfl)) (hw _ (List.mem_of_getElem? (i := 9) rfl)) (hw _ (List.mem_of_getElem? (i := 10) rfl)) (hw _ (List.mem_of_getElem? (i := 11) rfl)) (by decide) (mt3_3 l Z a0 hw a748 (3 : Int32) a741 [(.int b0), (.int b1), (.int b2), (.int (ox0 p1 p2 qm)), (.int (ox1 p1 p2 qm)), (.int (ox2 p1 p2 qm)), (.int b6), (.int b7)] (ox0 p1 p2 qm) (oc0 p1) (ox1 p1 p2 qm) (oc1 p1) (ox2 p1 p2 qm) (oc2 p1) h971 A978 rfl A979 (by decide) rfl (by decide) rfl (by decide) rfl) pd___BI_B_Z rfl (argsL := [(.ref a748), (.int (3 : Int32)), (.ref a741)]) (st := []) rfl rfl (W := 0) (Nat.le_of_eq rfl) (by decide) (by decide) (by decide) (by decide) (fun x q => nomatch q) at_230 (pc' := 233) rfl (pureG rfl rfl fun T996 X997 => ?_)
      refine giload B X997 at_233 rfl (pc' := 235) rfl ?_
      have c235_998 : (f3_3 (ox0 p1 p2 qm) (oc0 p1) (ox1 p1 p2 qm) (oc1 p1) (ox2 p1 p2 qm) (oc2 p1)) = (oE (3 : Int32) qm) := own_fin3 p1 p2 qm
      refine gicN B X997 at_235 (teq c235_998).2 (pc' := 238) rfl ?_
      refine giconst B X997 at_238 (v := (1 : Int32)) rfl (pc' := 239) rfl ?_
      refine ggoto B X997 (pc' := 243) at_239 (by decide) ?_
      exact gretN B X997 (z' := (1 : Int32)) (by simp) (rfl) at_243 (by decide) (by decide) (rfl)
  · rw [e_w]
    refine gistore B X at_7 (Ls' := #[.val (.long p0), .second, .val (.int p1), .val (.int p2), .val (.int p3), .val (.int (4 : Int32)), .unset, .unset, .unset, .unset, .unset]) rfl (pc' := 9) rfl ?_
    refine giload B X at_9 rfl (pc' := 11) rfl ?_
    refine giconst B X at_11 (v := (3 : Int32)) rfl (pc' := 12) rfl ?_
    refine giushr B X at_12 rfl (pc' := 13) rfl ?_
    refine giconst B X at_13 (v := (3 : Int32)) rfl (pc' := 14) rfl ?_
    refine giand B X at_14 rfl (pc' := 15) rfl ?_
    generalize e_qfr : (((p3.toUInt32 >>> ((3 : Int32) &&& 31).toUInt32).toInt32) &&& (3 : Int32)) = qfr
    refine gistore B X at_15 (Ls' := #[.val (.long p0), .second, .val (.int p1), .val (.int p2), .val (.int p3), .val (.int (4 : Int32)), .val (.int qfr), .unset, .unset, .unset, .unset]) rfl (pc' := 17) rfl ?_
    have hfr := own_and3 ((p3.toUInt32 >>> ((3 : Int32) &&& 31).toUInt32).toInt32); rw [e_qfr] at hfr; clear e_qfr
    refine giload B X at_17 rfl (pc' := 19) rfl ?_
    refine giconst B X at_19 (v := (5 : Int32)) rfl (pc' := 20) rfl ?_
    refine giushr B X at_20 rfl (pc' := 21) rfl ?_
    refine gbipush B X at_21 (v := (15 : Int32)) rfl (pc' := 23) rfl ?_
    refine giand B X at_23 rfl (pc' := 24) rfl ?_
    generalize e_qm : (((p3.toUInt32 >>> ((5 : Int32) &&& 31).toUInt32).toInt32) &&& (15 : Int32)) = qm
    refine gistore B X at_24 (Ls' := #[.val (.long p0), .second, .val (.int p1), .val (.int p2), .val (.int p3), .val (.int (4 : Int32)), .val (.int qfr), .val (.int qm), .unset, .unset, .unset]) rfl (pc' := 26) rfl ?_
    clear e_qm
    refine giload B X at_26 rfl (pc' := 28) rfl ?_
    refine gnewarray B X (cap := 4) (vs := [(.int (0 : Int32)), (.int (0 : Int32)), (.int (0 : Int32)), (.int (0 : Int32))]) (ty := .byte) rfl rfl (hw _ (List.mem_of_getElem? (i := 0) rfl)) (by decide) (by decide) (by decide) (by decide) (by decide) at_28 (pc' := 30) rfl fun T999 h1000 a1001 X1002 q1003 E1004 z_a1001 A1005 => ?_
    refine gastore B X1002 at_30 rfl (Ls' := #[.val (.long p0), .second, .val (.int p1), .val (.int p2), .val (.int p3), .val (.int (4 : Int32)), .val (.int qfr), .val (.int qm), .val (.ref a1001), .unset, .unset]) rfl (pc' := 32) rfl ?_
    refine gbipush B X1002 at_32 (v := (8 : Int32)) rfl (pc' := 34) rfl ?_
    refine gnewarray B X1002 (cap := 8) (vs := [(.int (0 : Int32)), (.int (0 : Int32)), (.int (0 : Int32)), (.int (0 : Int32)), (.int (0 : Int32)), (.int (0 : Int32)), (.int (0 : Int32)), (.int (0 : Int32))]) (ty := .byte) rfl rfl (hw _ (List.mem_of_getElem? (i := 0) rfl)) (by decide) (by decide) (by decide) (by decide) (by decide) at_34 (pc' := 36) rfl fun T1006 h1007 a1008 X1009 q1010 E1011 z_a1008 A1012 => ?_
    have n1013 : a1001 ≠ a1008 := by rw [q1010]; exact Nat.ne_of_lt A1005.lt
    have F1014 := A1005.ext E1011
    refine gastore B X1009 at_36 rfl (Ls' := #[.val (.long p0), .second, .val (.int p1), .val (.int p2), .val (.int p3), .val (.int (4 : Int32)), .val (.int qfr), .val (.int qm), .val (.ref a1001), .val (.ref a1008), .unset]) rfl (pc' := 38) rfl ?_
    refine gaload B X1009 at_38 rfl rfl (pc' := 40) rfl ?_
    refine giconst B X1009 at_40 (v := (0 : Int32)) rfl (pc' := 41) rfl ?_
    refine glloadN B X1009 at_41 rfl (pc' := 42) rfl ?_
    refine gl2i B X1009 at_42 rfl (pc' := 43) rfl ?_
    refine gi2b B X1009 at_43 rfl (pc' := 44) rfl ?_
    refine gbastore B X1009 (i := 0) (n := 8) A1012 rfl (by decide) rfl (vs' := [(.int p0.toInt32.toInt8.toInt32), (.int (0 : Int32)), (.int (0 : Int32)), (.int (0 : Int32)), (.int (0 : Int32)), (.int (0 : Int32)), (.int (0 : Int32)), (.int (0 : Int32))]) (by rw [Jvm.OwnKit.nbb]; rfl) (Or.inr z_a1008) at_44 (pc' := 45) rfl fun T1015 h1016 X1017 W1018 A1019 => ?_
    have F1020 := F1014.other W1018 n1013
    refine gaload B X1017 at_45 rfl rfl (pc' := 47) rfl ?_
    refine giconst B X1017 at_47 (v := (1 : Int32)) rfl (pc' := 48) rfl ?_
    refine glloadN B X1017 at_48 rfl (pc' := 49) rfl ?_
    refine gbipush B X1017 at_49 (v := (8 : Int32)) rfl (pc' := 51) rfl ?_
    refine glushr B X1017 at_51 rfl (pc' := 52) rfl ?_
    refine gl2i B X1017 at_52 rfl (pc' := 53) rfl ?_
    refine gi2b B X1017 at_53 rfl (pc' := 54) rfl ?_
    refine gbastore B X1017 (i := 1) (n := 8) A1019 rfl (by decide) rfl (vs' := [(.int p0.toInt32.toInt8.toInt32), (.int ((p0.toUInt64 >>> ((8 : Int32) &&& 0x3f).toInt64.toUInt64).toInt64).toInt32.toInt8.toInt32), (.int (0 : Int32)), (.int (0 : Int32)), (.int (0 : Int32)), (.int (0 : Int32)), (.int (0 : Int32)), (.int (0 : Int32))]) (by rw [Jvm.OwnKit.nbb]; rfl) (Or.inr z_a1008) at_54 (pc' := 55) rfl fun T1021 h1022 X1023 W1024 A1025 => ?_
    have F1026 := F1020.other W1024 n1013
    refine gaload B X1023 at_55 rfl rfl (pc' := 57) rfl ?_
    refine giconst B X1023 at_57 (v := (2 : Int32)) rfl (pc' := 58) rfl ?_
    refine glloadN B X1023 at_58 rfl (pc' := 59) rfl ?_
    refine gbipush B X1023 at_59 (v := (16 : Int32)) rfl (pc' := 61) rfl ?_
    refine glushr B X1023 at_61 rfl (pc' := 62) rfl ?_
    refine gl2i B X1023 at_62 rfl (pc' := 63) rfl ?_
    refine gi2b B X1023 at_63 rfl (pc' := 64) rfl ?_
    refine gbastore B X1023 (i := 2) (n := 8) A1025 rfl (by decide) rfl (vs' := [(.int p0.toInt32.toInt8.toInt32), (.int ((p0.toUInt64 >>> ((8 : Int32) &&& 0x3f).toInt64.toUInt64).toInt64).toInt32.toInt8.toInt32), (.int ((p0.toUInt64 >>> ((16 : Int32) &&& 0x3f).toInt64.toUInt64).toInt64).toInt32.toInt8.toInt32), (.int (0 : Int32)), (.int (0 : Int32)), (.int (0 : Int32)), (.int (0 : Int32)), (.int (0 : Int32))]) (by rw [Jvm.OwnKit.nbb]; rfl) (Or.inr z_a1008) at_64 (pc' := 65) rfl fun T1027 h1028 X1029 W1030 A1031 => ?_
    have F1032 := F1026.other W1030 n1013
    refine gaload B X1029 at_65 rfl rfl (pc' := 67) rfl ?_
    refine giconst B X1029 at_67 (v := (3 : Int32)) rfl (pc' := 68) rfl ?_
    refine glloadN B X1029 at_68 rfl (pc' := 69) rfl ?_
    refine gbipush B X1029 at_69 (v := (24 : Int32)) rfl (pc' := 71) rfl ?_
    refine glushr B X1029 at_71 rfl (pc' := 72) rfl ?_
    refine gl2i B X1029 at_72 rfl (pc' := 73) rfl ?_
    refine gi2b B X1029 at_73 rfl (pc' := 74) rfl ?_
    refine gbastore B X1029 (i := 3) (n := 8) A1031 rfl (by decide) rfl (vs' := [(.int p0.toInt32.toInt8.toInt32), (.int ((p0.toUInt64 >>> ((8 : Int32) &&& 0x3f).toInt64.toUInt64).toInt64).toInt32.toInt8.toInt32), (.int ((p0.toUInt64 >>> ((16 : Int32) &&& 0x3f).toInt64.toUInt64).toInt64).toInt32.toInt8.toInt32), (.int ((p0.toUInt64 >>> ((24 : Int32) &&& 0x3f).toInt64.toUInt64).toInt64).toInt32.toInt8.toInt32), (.int (0 : Int32)), (.int (0 : Int32)), (.int (0 : Int32)), (.int (0 : Int32))]) (by rw [Jvm.OwnKit.nbb]; rfl) (Or.inr z_a1008) at_74 (pc' := 75) rfl fun T1033 h1034 X1035 W1036 A1037 => ?_
    have F1038 := F1032.other W1036 n1013
    refine gaload B X1035 at_75 rfl rfl (pc' := 77) rfl ?_
    refine giconst B X1035 at_77 (v := (4 : Int32)) rfl (pc' := 78) rfl ?_
    refine glloadN B X1035 at_78 rfl (pc' := 79) rfl ?_
    refine gbipush B X1035 at_79 (v := (32 : Int32)) rfl (pc' := 81) rfl ?_
    refine glushr B X1035 at_81 rfl (pc' := 82) rfl ?_
    refine gl2i B X1035 at_82 rfl (pc' := 83) rfl ?_
    refine gi2b B X1035 at_83 rfl (pc' := 84) rfl ?_
    refine gbastore B X1035 (i := 4) (n := 8) A1037 rfl (by decide) rfl (vs' := [(.int p0.toInt32.toInt8.toInt32), (.int ((p0.toUInt64 >>> ((8 : Int32) &&& 0x3f).toInt64.toUInt64).toInt64).toInt32.toInt8.toInt32), (.int ((p0.toUInt64 >>> ((16 : Int32) &&& 0x3f).toInt64.toUInt64).toInt64).toInt32.toInt8.toInt32), (.int ((p0.toUInt64 >>> ((24 : Int32) &&& 0x3f).toInt64.toUInt64).toInt64).toInt32.toInt8.toInt32), (.int ((p0.toUInt64 >>> ((32 : Int32) &&& 0x3f).toInt64.toUInt64).toInt64).toInt32.toInt8.toInt32), (.int (0 : Int32)), (.int (0 : Int32)), (.int (0 : Int32))]) (by rw [Jvm.OwnKit.nbb]; rfl) (Or.inr z_a1008) at_84 (pc' := 85) rfl fun T1039 h1040 X1041 W1042 A1043 => ?_
    have F1044 := F1038.other W1042 n1013
    refine gaload B X1041 at_85 rfl rfl (pc' := 87) rfl ?_
    refine giconst B X1041 at_87 (v := (5 : Int32)) rfl (pc' := 88) rfl ?_
    refine glloadN B X1041 at_88 rfl (pc' := 89) rfl ?_
    refine gbipush B X1041 at_89 (v := (40 : Int32)) rfl (pc' := 91) rfl ?_
    refine glushr B X1041 at_91 rfl (pc' := 92) rfl ?_
    refine gl2i B X1041 at_92 rfl (pc' := 93) rfl ?_
    refine gi2b B X1041 at_93 rfl (pc' := 94) rfl ?_
    refine gbastore B X1041 (i := 5) (n := 8) A1043 rfl (by decide) rfl (vs' := [(.int p0.toInt32.toInt8.toInt32), (.int ((p0.toUInt64 >>> ((8 : Int32) &&& 0x3f).toInt64.toUInt64).toInt64).toInt32.toInt8.toInt32), (.int ((p0.toUInt64 >>> ((16 : Int32) &&& 0x3f).toInt64.toUInt64).toInt64).toInt32.toInt8.toInt32), (.int ((p0.toUInt64 >>> ((24 : Int32) &&& 0x3f).toInt64.toUInt64).toInt64).toInt32.toInt8.toInt32), (.int ((p0.toUInt64 >>> ((32 : Int32) &&& 0x3f).toInt64.toUInt64).toInt64).toInt32.toInt8.toInt32), (.int ((p0.toUInt64 >>> ((40 : Int32) &&& 0x3f).toInt64.toUInt64).toInt64).toInt32.toInt8.toInt32), (.int (0 : Int32)), (.int (0 : Int32))]) (by rw [Jvm.OwnKit.nbb]; rfl) (Or.inr z_a1008) at_94 (pc' := 95) rfl fun T1045 h1046 X1047 W1048 A1049 => ?_
    have F1050 := F1044.other W1048 n1013
    refine gaload B X1047 at_95 rfl rfl (pc' := 97) rfl ?_
    refine gbipush B X1047 at_97 (v := (6 : Int32)) rfl (pc' := 99) rfl ?_
    refine glloadN B X1047 at_99 rfl (pc' := 100) rfl ?_
    refine gbipush B X1047 at_100 (v := (48 : Int32)) rfl (pc' := 102) rfl ?_
    refine glushr B X1047 at_102 rfl (pc' := 103) rfl ?_
    refine gl2i B X1047 at_103 rfl (pc' := 104) rfl ?_
    refine gi2b B X1047 at_104 rfl (pc' := 105) rfl ?_
    refine gbastore B X1047 (i := 6) (n := 8) A1049 rfl (by decide) rfl (vs' := [(.int p0.toInt32.toInt8.toInt32), (.int ((p0.toUInt64 >>> ((8 : Int32) &&& 0x3f).toInt64.toUInt64).toInt64).toInt32.toInt8.toInt32), (.int ((p0.toUInt64 >>> ((16 : Int32) &&& 0x3f).toInt64.toUInt64).toInt64).toInt32.toInt8.toInt32), (.int ((p0.toUInt64 >>> ((24 : Int32) &&& 0x3f).toInt64.toUInt64).toInt64).toInt32.toInt8.toInt32), (.int ((p0.toUInt64 >>> ((32 : Int32) &&& 0x3f).toInt64.toUInt64).toInt64).toInt32.toInt8.toInt32), (.int ((p0.toUInt64 >>> ((40 : Int32) &&& 0x3f).toInt64.toUInt64).toInt64).toInt32.toInt8.toInt32), (.int ((p0.toUInt64 >>> ((48 : Int32) &&& 0x3f).toInt64.toUInt64).toInt64).toInt32.toInt8.toInt32), (.int (0 : Int32))]) (by rw [Jvm.OwnKit.nbb]; rfl) (Or.inr z_a1008) at_105 (pc' := 106) rfl fun T1051 h1052 X1053 W1054 A1055 => ?_
    have F1056 := F1050.other W1054 n1013
    refine gaload B X1053 at_106 rfl rfl (pc' := 108) rfl ?_
    refine gbipush B X1053 at_108 (v := (7 : Int32)) rfl (pc' := 110) rfl ?_
    refine glloadN B X1053 at_110 rfl (pc' := 111) rfl ?_
    refine gbipush B X1053 at_111 (v := (56 : Int32)) rfl (pc' := 113) rfl ?_
    refine glushr B X1053 at_113 rfl (pc' := 114) rfl ?_
    refine gl2i B X1053 at_114 rfl (pc' := 115) rfl ?_
    refine gi2b B X1053 at_115 rfl (pc' := 116) rfl ?_
    refine gbastore B X1053 (i := 7) (n := 8) A1055 rfl (by decide) rfl (vs' := [(.int p0.toInt32.toInt8.toInt32), (.int ((p0.toUInt64 >>> ((8 : Int32) &&& 0x3f).toInt64.toUInt64).toInt64).toInt32.toInt8.toInt32), (.int ((p0.toUInt64 >>> ((16 : Int32) &&& 0x3f).toInt64.toUInt64).toInt64).toInt32.toInt8.toInt32), (.int ((p0.toUInt64 >>> ((24 : Int32) &&& 0x3f).toInt64.toUInt64).toInt64).toInt32.toInt8.toInt32), (.int ((p0.toUInt64 >>> ((32 : Int32) &&& 0x3f).toInt64.toUInt64).toInt64).toInt32.toInt8.toInt32), (.int ((p0.toUInt64 >>> ((40 : Int32) &&& 0x3f).toInt64.toUInt64).toInt64).toInt32.toInt8.toInt32), (.int ((p0.toUInt64 >>> ((48 : Int32) &&& 0x3f).toInt64.toUInt64).toInt64).toInt32.toInt8.toInt32), (.int ((p0.toUInt64 >>> ((56 : Int32) &&& 0x3f).toInt64.toUInt64).toInt64).toInt32.toInt8.toInt32)]) (by rw [Jvm.OwnKit.nbb]; rfl) (Or.inr z_a1008) at_116 (pc' := 117) rfl fun T1057 h1058 X1059 W1060 A1061 => ?_
    have F1062 := F1056.other W1060 n1013
    generalize p0.toInt32.toInt8.toInt32 = b0 at A1061 ⊢
    generalize ((p0.toUInt64 >>> ((8 : Int32) &&& 0x3f).toInt64.toUInt64).toInt64).toInt32.toInt8.toInt32 = b1 at A1061 ⊢
    generalize ((p0.toUInt64 >>> ((16 : Int32) &&& 0x3f).toInt64.toUInt64).toInt64).toInt32.toInt8.toInt32 = b2 at A1061 ⊢
    generalize ((p0.toUInt64 >>> ((24 : Int32) &&& 0x3f).toInt64.toUInt64).toInt64).toInt32.toInt8.toInt32 = b3 at A1061 ⊢
    generalize ((p0.toUInt64 >>> ((32 : Int32) &&& 0x3f).toInt64.toUInt64).toInt64).toInt32.toInt8.toInt32 = b4 at A1061 ⊢
    generalize ((p0.toUInt64 >>> ((40 : Int32) &&& 0x3f).toInt64.toUInt64).toInt64).toInt32.toInt8.toInt32 = b5 at A1061 ⊢
    generalize ((p0.toUInt64 >>> ((48 : Int32) &&& 0x3f).toInt64.toUInt64).toInt64).toInt32.toInt8.toInt32 = b6 at A1061 ⊢
    generalize ((p0.toUInt64 >>> ((56 : Int32) &&& 0x3f).toInt64.toUInt64).toInt64).toInt32.toInt8.toInt32 = b7 at A1061 ⊢
    rcases hfr with rfl | rfl | rfl | rfl
    · skip
      refine gaload B X1059 at_117 rfl rfl (pc' := 119) rfl ?_
      refine gaload B X1059 at_119 rfl rfl (pc' := 121) rfl ?_
      refine giload B X1059 at_121 rfl (pc' := 123) rfl ?_
      refine giconst B X1059 at_123 (v := (0 : Int32)) rfl (pc' := 124) rfl ?_
      refine giloadN B X1059 at_124 rfl (pc' := 125) rfl ?_
      refine giloadN B X1059 at_125 rfl (pc' := 126) rfl ?_
      refine giload B X1059 at_126 rfl (pc' := 128) rfl ?_
      refine gcallS B X1059 (hw _ (List.mem_of_getElem? (i := 1) rfl)) (hw _ (List.mem_of_getElem? (i := 2) rfl)) (hw _ (List.mem_of_getElem? (i := 3) rfl)) (hw _ (List.mem_of_getElem? (i := 4) rfl)) (by decide) (mt1_0 l Z a0 hw a1008 a1001 (0 : Int32) p1 p2 qm (4 : Int32) [(.int b0), (.int b1), (.int b2), (.int b3), (.int b4), (.int b5), (.int b6), (.int b7)] [(.int (0 : Int32)), (.int (0 : Int32)), (.int (0 : Int32)), (.int (0 : Int32))] 0 4 h1058 A1061 F1062 (Ne.symm n1013) rfl rfl (by decide) (by decide) (by decide) (by decide) rfl) pd___B_BIIIII_V rfl (argsL := [(.ref a1008), (.ref a1001), (.int (0 : Int32)), (.int (0 : Int32)), (.int p1), (.int p2), (.int qm)]) (st := []) rfl rfl (W := 0) (Nat.le_of_eq rfl) (by decide) (by decide) (by decide) (by decide) (allS (Or.inr z_a1008) (allS (Or.inr z_a1001) all0)) at_128 (pc' := 131) rfl fun T1063 h1064 v1065 X1066 K1067 Q1068 => ?_
      obtain ⟨rfl, A1069, A1070⟩ := Q1068
      have A1071 : VA Z h1064 a1008 .byte [(.int (ox0 p1 p2 qm)), (.int b1), (.int b2), (.int b3), (.int b4), (.int b5), (.int b6), (.int b7)] := A1069
      have A1072 : VA Z h1064 a1001 .byte [(.int (oc0 p1)), (.int (0 : Int32)), (.int (0 : Int32)), (.int (0 : Int32))] := A1070
      show Go p e below s _ _ _ _ _ T1063 (mkF m 131 #[.val (.long p0), .second, .val (.int p1), .val (.int p2), .val (.int p3), .val (.int (4 : Int32)), .val (.int (0 : Int32)), .val (.int qm), .val (.ref a1001), .val (.ref a1008), .unset] [])
      refine gaload B X1066 at_131 rfl rfl (pc' := 133) rfl ?_
      refine gaload B X1066 at_133 rfl rfl (pc' := 135) rfl ?_
      refine giload B X1066 at_135 rfl (pc' := 137) rfl ?_
      refine giconst B X1066 at_137 (v := (1 : Int32)) rfl (pc' := 138) rfl ?_
      refine giloadN B X1066 at_138 rfl (pc' := 139) rfl ?_
      refine giloadN B X1066 at_139 rfl (pc' := 140) rfl ?_
      refine giload B X1066 at_140 rfl (pc' := 142) rfl ?_
      refine gcallS B X1066 (hw _ (List.mem_of_getElem? (i := 1) rfl)) (hw _ (List.mem_of_getElem? (i := 2) rfl)) (hw _ (List.mem_of_getElem? (i := 3) rfl)) (hw _ (List.mem_of_getElem? (i := 4) rfl)) (by decide) (mt1_1 l Z a0 hw a1008 a1001 (0 : Int32) p1 p2 qm (4 : Int32) [(.int (ox0 p1 p2 qm)), (.int b1), (.int b2), (.int b3), (.int b4), (.int b5), (.int b6), (.int b7)] [(.int (oc0 p1)), (.int (0 : Int32)), (.int (0 : Int32)), (.int (0 : Int32))] 1 4 h1064 A1071 A1072 (Ne.symm n1013) rfl rfl (by decide) (by decide) (by decide) (by decide) rfl) pd___B_BIIIII_V rfl (argsL := [(.ref a1008), (.ref a1001), (.int (0 : Int32)), (.int (1 : Int32)), (.int p1), (.int p2), (.int qm)]) (st := []) rfl rfl (W := 0) (Nat.le_of_eq rfl) (by decide) (by decide) (by decide) (by decide) (allS (Or.inr z_a1008) (allS (Or.inr z_a1001) all0)) at_142 (pc' := 145) rfl fun T1073 h1074 v1075 X1076 K1077 Q1078 => ?_
      obtain ⟨rfl, A1079, A1080⟩ := Q1078
      have A1081 : VA Z h1074 a1008 .byte [(.int (ox0 p1 p2 qm)), (.int (ox1 p1 p2 qm)), (.int b2), (.int b3), (.int b4), (.int b5), (.int b6), (.int b7)] := A1079
      have A1082 : VA Z h1074 a1001 .byte [(.int (oc0 p1)), (.int (oc1 p1)), (.int (0 : Int32)), (.int (0 : Int32))] := A1080
      show Go p e below s _ _ _ _ _ T1073 (mkF m 145 #[.val (.long p0), .second, .val (.int p1), .val (.int p2), .val (.int p3), .val (.int (4 : Int32)), .val (.int (0 : Int32)), .val (.int qm), .val (.ref a1001), .val (.ref a1008), .unset] [])
      refine gaload B X1076 at_145 rfl rfl (pc' := 147) rfl ?_
      refine gaload B X1076 at_147 rfl rfl (pc' := 149) rfl ?_
      refine giload B X1076 at_149 rfl (pc' := 151) rfl ?_
      refine giconst B X1076 at_151 (v := (2 : Int32)) rfl (pc' := 152) rfl ?_
      refine giloadN B X1076 at_152 rfl (pc' := 153) rfl ?_
      refine giloadN B X1076 at_153 rfl (pc' := 154) rfl ?_
      refine giload B X1076 at_154 rfl (pc' := 156) rfl ?_
      refine gcallS B X1076 (hw _ (List.mem_of_getElem? (i := 1) rfl)) (hw _ (List.mem_of_getElem? (i := 2) rfl)) (hw _ (List.mem_of_getElem? (i := 3) rfl)) (hw _ (List.mem_of_getElem? (i := 4) rfl)) (by decide) (mt1_2 l Z a0 hw a1008 a1001 (0 : Int32) p1 p2 qm (4 : Int32) [(.int (ox0 p1 p2 qm)), (.int (ox1 p1 p2 qm)), (.int b2), (.int b3), (.int b4), (.int b5), (.int b6), (.int b7)] [(.int (oc0 p1)), (.int (oc1 p1)), (.int (0 : Int32)), (.int (0 : Int32))] 2 4 h1074 A1081 A1082 (Ne.symm n1013) rfl rfl (by decide) (by decide) (by decide) (by decide) rfl) pd___B_BIIIII_V rfl (argsL := [(.ref a1008), (.ref a1001), (.int (0 : Int32)), (.int (2 : Int32)), (.int p1), (.int p2), (.int qm)]) (st := []) rfl rfl (W := 0) (Nat.le_of_eq rfl) (by decide) (by decide) (by decide) (by decide) (allS (Or.inr z_a1008) (allS (Or.inr z_a1001) all0)) at_156 (pc' := 159) rfl fun T1083 h1084 v1085 X1086 K1087 Q1088 => ?_
      obtain ⟨rfl, A1089, A1090⟩ := Q1088
      have A1091 : VA Z h1084 a1008 .byte [(.int (ox0 p1 p2 qm)), (.int (ox1 p1 p2 qm)), (.int (ox2 p1 p2 qm)), (.int b3), (.int b4), (.int b5), (.int b6), (.int b7)] := A1089
      have A1092 : VA Z h1084 a1001 .byte [(.int (oc0 p1)), (.int (oc1 p1)), (.int (oc2 p1)), (.int (0 : Int32))] := A1090
      show Go p e below s _ _ _ _ _ T1083 (mkF m 159 #[.val (.long p0), .second, .val (.int p1), .val (.int p2), .val (.int p3), .val (.int (4 : Int32)), .val (.int (0 : Int32)), .val (.int qm), .val (.ref a1001), .val (.ref a1008), .unset] [])
      refine gaload B X1086 at_159 rfl rfl (pc' := 161) rfl ?_
      refine gaload B X1086 at_161 rfl rfl (pc' := 163) rfl ?_
      refine giload B X1086 at_163 rfl (pc' := 165) rfl ?_
      refine giconst B X1086 at_165 (v := (3 : Int32)) rfl (pc' := 166) rfl ?_
      refine giloadN B X1086 at_166 rfl (pc' := 167) rfl ?_
      refine giloadN B X1086 at_167 rfl (pc' := 168) rfl ?_
      refine giload B X1086 at_168 rfl (pc' := 170) rfl ?_
      refine gcallS B X1086 (hw _ (List.mem_of_getElem? (i := 1) rfl)) (hw _ (List.mem_of_getElem? (i := 2) rfl)) (hw _ (List.mem_of_getElem? (i := 3) rfl)) (hw _ (List.mem_of_getElem? (i := 4) rfl)) (by decide) (mt1_3 l Z a0 hw a1008 a1001 (0 : Int32) p1 p2 qm (4 : Int32) [(.int (ox0 p1 p2 qm)), (.int (ox1 p1 p2 qm)), (.int (ox2 p1 p2 qm)), (.int b3), (.int b4), (.int b5), (.int b6), (.int b7)] [(.int (oc0 p1)), (.int (oc1 p1)), (.int (oc2 p1)), (.int (0 : Int32))] 3 4 h1084 A1091 A1092 (Ne.symm n1013) rfl rfl (by decide) (by decide) (by decide) (by decide) rfl) pd___B_BIIIII_V rfl (argsL := [(.ref a1008), (.ref a1001), (.int (0 : Int32)), (.int (3 : Int32)), (.int p1), (.int p2), (.int qm)]) (st := []) rfl rfl (W := 0) (Nat.le_of_eq rfl) (by decide) (by decide) (by decide) (by decide) (allS (Or.inr z_a1008) (allS (Or.inr z_a1001) all0)) at_170 (pc' := 173) rfl fun T1093 h1094 v1095 X1096 K1097 Q1098 => ?_
      obtain ⟨rfl, A1099, A1100⟩ := Q1098
      have A1101 : VA Z h1094 a1008 .byte [(.int (ox0 p1 p2 qm)), (.int (ox1 p1 p2 qm)), (.int (ox2 p1 p2 qm)), (.int (ox3 p1 p2 qm)), (.int b4), (.int b5), (.int b6), (.int b7)] := A1099
      have A1102 : VA Z h1094 a1001 .byte [(.int (oc0 p1)), (.int (oc1 p1)), (.int (oc2 p1)), (.int (oc3 p1))] := A1100
      show Go p e below s _ _ _ _ _ T1093 (mkF m 173 #[.val (.long p0), .second, .val (.int p1), .val (.int p2), .val (.int p3), .val (.int (4 : Int32)), .val (.int (0 : Int32)), .val (.int qm), .val (.ref a1001), .val (.ref a1008), .unset] [])
      refine joinG B X1096 (F := fun z => (mkF m 222 #[.val (.long p0), .second, .val (.int p1), .val (.int p2), .val (.int p3), .val (.int (4 : Int32)), .val (.int (0 : Int32)), .val (.int qm), .val (.ref a1001), .val (.ref a1008), .unset] [(.int z)])) (r := (oE (4 : Int32) qm)) (fun J => ?_) ?_
      · refine giconst B X1096 at_173 (v := (0 : Int32)) rfl (pc' := 174) rfl ?_
        refine giload B X1096 at_174 rfl (pc' := 176) rfl ?_
        refine giload B X1096 at_176 rfl (pc' := 178) rfl ?_
        refine gcallS B X1096 (hw _ (List.mem_of_getElem? (i := 5) rfl)) (hw _ (List.mem_of_getElem? (i := 6) rfl)) (hw _ (List.mem_of_getElem? (i := 3) rfl)) (hw _ (List.mem_of_getElem? (i := 7) rfl)) (by decide) (mt2 l Z a0 hw (0 : Int32) (4 : Int32) qm  h1094 ) pd__III_Z rfl (argsL := [(.int (0 : Int32)), (.int (4 : Int32)), (.int qm)]) (st := []) rfl rfl (W := 0) (Nat.le_of_eq rfl) (by decide) (by decide) (by decide) (by decide) (fun x q => nomatch q) at_178 (pc' := 181) rfl (pureG rfl rfl fun T1103 X1104 => ?_)
        by_cases c181_1105 : (f2 (0 : Int32) (4 : Int32) qm) = (0 : Int32)
        · refine gifY B X1104 (pc' := 221) at_181 ((if0 _ _).trans (teq c181_1105).1) (by decide) ?_
          refine giconst B X1104 at_221 (v := (0 : Int32)) rfl (pc' := 222) rfl ?_
          have e_J : (oE (4 : Int32) qm) = (0 : Int32) := by rw [oE, if_pos c181_1105]
          rw [e_J] at J
          exact J _ X1104
        · refine gifN B X1104 at_181 ((if0 _ _).trans (feq c181_1105).1) (pc' := 184) rfl ?_
          refine giconst B X1104 at_184 (v := (1 : Int32)) rfl (pc' := 185) rfl ?_
          refine giload B X1104 at_185 rfl (pc' := 187) rfl ?_
          refine giload B X1104 at_187 rfl (pc' := 189) rfl ?_
          refine gcallS B X1104 (hw _ (List.mem_of_getElem? (i := 5) rfl)) (hw _ (List.mem_of_getElem? (i := 6) rfl)) (hw _ (List.mem_of_getElem? (i := 3) rfl)) (hw _ (List.mem_of_getElem? (i := 7) rfl)) (by decide) (mt2 l Z a0 hw (1 : Int32) (4 : Int32) qm  h1094 ) pd__III_Z rfl (argsL := [(.int (1 : Int32)), (.int (4 : Int32)), (.int qm)]) (st := []) rfl rfl (W := 0) (Nat.le_of_eq rfl) (by decide) (by decide) (by decide) (by decide) (fun x q => nomatch q) at_189 (pc' := 192) rfl (pureG rfl rfl fun T1106 X1107 => ?_)
          by_cases c192_1108 : (f2 (1 : Int32) (4 : Int32) qm) = (0 : Int32)
          · refine gifY B X1107 (pc' := 221) at_192 ((if0 _ _).trans (teq c192_1108).1) (by decide) ?_
            refine giconst B X1107 at_221 (v := (0 : Int32)) rfl (pc' := 222) rfl ?_
            have e_J : (oE (4 : Int32) qm) = (0 : Int32) := by rw [oE, if_neg c181_1105, if_pos c192_1108]
            rw [e_J] at J
            exact J _ X1107
          · refine gifN B X1107 at_192 ((if0 _ _).trans (feq c192_1108).1) (pc' := 195) rfl ?_
            refine giconst B X1107 at_195 (v := (2 : Int32)) rfl (pc' := 196) rfl ?_
            refine giload B X1107 at_196 rfl (pc' := 198) rfl ?_
            refine giload B X1107 at_198 rfl (pc' := 200) rfl ?_
            refine gcallS B X1107 (hw _ (List.mem_of_getElem? (i := 5) rfl)) (hw _ (List.mem_of_getElem? (i := 6) rfl)) (hw _ (List.mem_of_getElem? (i := 3) rfl)) (hw _ (List.mem_of_getElem? (i := 7) rfl)) (by decide) (mt2 l Z a0 hw (2 : Int32) (4 : Int32) qm  h1094 ) pd__III_Z rfl (argsL := [(.int (2 : Int32)), (.int (4 : Int32)), (.int qm)]) (st := []) rfl rfl (W := 0) (Nat.le_of_eq rfl) (by decide) (by decide) (by decide) (by decide) (fun x q => nomatch q) at_200 (pc' := 203) rfl (pureG rfl rfl fun T1109 X1110 => ?_)
            by_cases c203_1111 : (f2 (2 : Int32) (4 : Int32) qm) = (0 : Int32)
            · refine gifY B X1110 (pc' := 221) at_203 ((if0 _ _).trans (teq c203_1111).1) (by decide) ?_
              refine giconst B X1110 at_221 (v := (0 : Int32)) rfl (pc' := 222) rfl ?_
              have e_J : (oE (4 : Int32) qm) = (0 : Int32) := by rw [oE, if_neg c181_1105, if_neg c192_1108, if_pos c203_1111]
              rw [e_J] at J
              exact J _ X1110
            · refine gifN B X1110 at_203 ((if0 _ _).trans (feq c203_1111).1) (pc' := 206) rfl ?_
              refine giconst B X1110 at_206 (v := (3 : Int32)) rfl (pc' := 207) rfl ?_
              refine giload B X1110 at_207 rfl (pc' := 209) rfl ?_
              refine giload B X1110 at_209 rfl (pc' := 211) rfl ?_
              refine gcallS B X1110 (hw _ (List.mem_of_getElem? (i := 5) rfl)) (hw _ (List.mem_of_getElem? (i := 6) rfl)) (hw _ (List.mem_of_getElem? (i := 3) rfl)) (hw _ (List.mem_of_getElem? (i := 7) rfl)) (by decide) (mt2 l Z a0 hw (3 : Int32) (4 : Int32) qm  h1094 ) pd__III_Z rfl (argsL := [(.int (3 : Int32)), (.int (4 : Int32)), (.int qm)]) (st := []) rfl rfl (W := 0) (Nat.le_of_eq rfl) (by decide) (by decide) (by decide) (by decide) (fun x q => nomatch q) at_211 (pc' := 214) rfl (pureG rfl rfl fun T1112 X1113 => ?_)
              by_cases c214_1114 : (f2 (3 : Int32) (4 : Int32) qm) = (0 : Int32)
              · refine gifY B X1113 (pc' := 221) at_214 ((if0 _ _).trans (teq c214_1114).1) (by decide) ?_
                refine giconst B X1113 at_221 (v := (0 : Int32)) rfl (pc' := 222) rfl ?_
                have e_J : (oE (4 : Int32) qm) = (0 : Int32) := by rw [oE, if_neg c181_1105, if_neg c192_1108, if_neg c203_1111, if_pos c214_1114]
                rw [e_J] at J
                exact J _ X1113
              · refine gifN B X1113 at_214 ((if0 _ _).trans (feq c214_1114).1) (pc' := 217) rfl ?_
                refine giconst B X1113 at_217 (v := (1 : Int32)) rfl (pc' := 218) rfl ?_
                refine ggoto B X1113 (pc' := 222) at_218 (by decide) ?_
                have e_J : (oE (4 : Int32) qm) = (1 : Int32) := by rw [oE, if_neg c181_1105, if_neg c192_1108, if_neg c203_1111, if_neg c214_1114]
                rw [e_J] at J
                exact J _ X1113
      intro T1115 X1116
      show Go p e below s _ _ _ _ _ T1115 (mkF m 222 #[.val (.long p0), .second, .val (.int p1), .val (.int p2), .val (.int p3), .val (.int (4 : Int32)), .val (.int (0 : Int32)), .val (.int qm), .val (.ref a1001), .val (.ref a1008), .unset] [(.int (oE (4 : Int32) qm))])
      refine gistore B X1116 at_222 (Ls' := #[.val (.long p0), .second, .val (.int p1), .val (.int p2), .val (.int p3), .val (.int (4 : Int32)), .val (.int (0 : Int32)), .val (.int qm), .val (.ref a1001), .val (.ref a1008), .val (.int (oE (4 : Int32) qm))]) rfl (pc' := 224) rfl ?_
      refine gaload B X1116 at_224 rfl rfl (pc' := 226) rfl ?_
      refine giload B X1116 at_226 rfl (pc' := 228) rfl ?_
      refine gaload B X1116 at_228 rfl rfl (pc' := 230) rfl ?_
      refine gcallS B X1116 (hw _ (List.mem_of_getElem? (i := 8) rfl)) (hw _ (List.mem_of_getElem? (i := 9) rfl)) (hw _ (List.mem_of_getElem? (i := 10) rfl)) (hw _ (List.mem_of_getElem? (i := 11) rfl)) (by decide) (mt3_4 l Z a0 hw a1008 (0 : Int32) a1001 [(.int (ox0 p1 p2 qm)), (.int (ox1 p1 p2 qm)), (.int (ox2 p1 p2 qm)), (.int (ox3 p1 p2 qm)), (.int b4), (.int b5), (.int b6), (.int b7)] (ox0 p1 p2 qm) (oc0 p1) (ox1 p1 p2 qm) (oc1 p1) (ox2 p1 p2 qm) (oc2 p1) (ox3 p1 p2 qm) (oc3 p1) h1094 A1101 rfl A1102 (by decide) rfl (by decide) rfl (by decide) rfl (by decide) rfl) pd___BI_B_Z rfl (argsL := [(.ref a1008), (.int (0 : Int32)), (.ref a1001)]) (st := []) rfl rfl (W := 0) (Nat.le_of_eq rfl) (by decide) (by decide) (by decide) (by decide) (fun x q => nomatch q) at_230 (pc' := 233) rfl (pureG rfl rfl fun T1117 X1118 => ?_)
      refine giload B X1118 at_233 rfl (pc' := 235) rfl ?_
      have c235_1119 : (f3_4 (ox0 p1 p2 qm) (oc0 p1) (ox1 p1 p2 qm) (oc1 p1) (ox2 p1 p2 qm) (oc2 p1) (ox3 p1 p2 qm) (oc3 p1)) = (oE (4 : Int32) qm) := own_fin4 p1 p2 qm
      refine gicN B X1118 at_235 (teq c235_1119).2 (pc' := 238) rfl ?_
      refine giconst B X1118 at_238 (v := (1 : Int32)) rfl (pc' := 239) rfl ?_
      refine ggoto B X1118 (pc' := 243) at_239 (by decide) ?_
      exact gretN B X1118 (z' := (1 : Int32)) (by simp) (rfl) at_243 (by decide) (by decide) (rfl)
    · skip
      refine gaload B X1059 at_117 rfl rfl (pc' := 119) rfl ?_
      refine gaload B X1059 at_119 rfl rfl (pc' := 121) rfl ?_
      refine giload B X1059 at_121 rfl (pc' := 123) rfl ?_
      refine giconst B X1059 at_123 (v := (0 : Int32)) rfl (pc' := 124) rfl ?_
      refine giloadN B X1059 at_124 rfl (pc' := 125) rfl ?_
      refine giloadN B X1059 at_125 rfl (pc' := 126) rfl ?_
      refine giload B X1059 at_126 rfl (pc' := 128) rfl ?_
      refine gcallS B X1059 (hw _ (List.mem_of_getElem? (i := 1) rfl)) (hw _ (List.mem_of_getElem? (i := 2) rfl)) (hw _ (List.mem_of_getElem? (i := 3) rfl)) (hw _ (List.mem_of_getElem? (i := 4) rfl)) (by decide) (mt1_0 l Z a0 hw a1008 a1001 (1 : Int32) p1 p2 qm (4 : Int32) [(.int b0), (.int b1), (.int b2), (.int b3), (.int b4), (.int b5), (.int b6), (.int b7)] [(.int (0 : Int32)), (.int (0 : Int32)), (.int (0 : Int32)), (.int (0 : Int32))] 1 4 h1058 A1061 F1062 (Ne.symm n1013) rfl rfl (by decide) (by decide) (by decide) (by decide) rfl) pd___B_BIIIII_V rfl (argsL := [(.ref a1008), (.ref a1001), (.int (1 : Int32)), (.int (0 : Int32)), (.int p1), (.int p2), (.int qm)]) (st := []) rfl rfl (W := 0) (Nat.le_of_eq rfl) (by decide) (by decide) (by decide) (by decide) (allS (Or.inr z_a1008) (allS (Or.inr z_a1001) all0)) at_128 (pc' := 131) rfl fun T1120 h1121 v1122 X1123 K1124 Q1125 => ?_
      obtain ⟨rfl, A1126, A1127⟩ := Q1125
      have A1128 : VA Z h1121 a1008 .byte [(.int b0), (.int (ox0 p1 p2 qm)), (.int b2), (.int b3), (.int b4), (.int b5), (.int b6), (.int b7)] := A1126
      have A1129 : VA Z h1121 a1001 .byte [(.int (oc0 p1)), (.int (0 : Int32)), (.int (0 : Int32)), (.int (0 : Int32))] := A1127
      show Go p e below s _ _ _ _ _ T1120 (mkF m 131 #[.val (.long p0), .second, .val (.int p1), .val (.int p2), .val (.int p3), .val (.int (4 : Int32)), .val (.int (1 : Int32)), .val (.int qm), .val (.ref a1001), .val (.ref a1008), .unset] [])
      refine gaload B X1123 at_131 rfl rfl (pc' := 133) rfl ?_
      refine gaload B X1123 at_133 rfl rfl (pc' := 135) rfl ?_
      refine giload B X1123 at_135 rfl (pc' := 137) rfl ?_
      refine giconst B X1123 at_137 (v := (1 : Int32)) rfl (pc' := 138) rfl ?_
      refine giloadN B X1123 at_138 rfl (pc' := 139) rfl ?_
      refine giloadN B X1123 at_139 rfl (pc' := 140) rfl ?_
      refine giload B X1123 at_140 rfl (pc' := 142) rfl ?_
      refine gcallS B X1123 (hw _ (List.mem_of_getElem? (i := 1) rfl)) (hw _ (List.mem_of_getElem? (i := 2) rfl)) (hw _ (List.mem_of_getElem? (i := 3) rfl)) (hw _ (List.mem_of_getElem? (i := 4) rfl)) (by decide) (mt1_1 l Z a0 hw a1008 a1001 (1 : Int32) p1 p2 qm (4 : Int32) [(.int b0), (.int (ox0 p1 p2 qm)), (.int b2), (.int b3), (.int b4), (.int b5), (.int b6), (.int b7)] [(.int (oc0 p1)), (.int (0 : Int32)), (.int (0 : Int32)), (.int (0 : Int32))] 2 4 h1121 A1128 A1129 (Ne.symm n1013) rfl rfl (by decide) (by decide) (by decide) (by decide) rfl) pd___B_BIIIII_V rfl (argsL := [(.ref a1008), (.ref a1001), (.int (1 : Int32)), (.int (1 : Int32)), (.int p1), (.int p2), (.int qm)]) (st := []) rfl rfl (W := 0) (Nat.le_of_eq rfl) (by decide) (by decide) (by decide) (by decide) (allS (Or.inr z_a1008) (allS (Or.inr z_a1001) all0)) at_142 (pc' := 145) rfl fun T1130 h1131 v1132 X1133 K1134 Q1135 => ?_
      obtain ⟨rfl, A1136, A1137⟩ := Q1135
      have A1138 : VA Z h1131 a1008 .byte [(.int b0), (.int (ox0 p1 p2 qm)), (.int (ox1 p1 p2 qm)), (.int b3), (.int b4), (.int b5), (.int b6), (.int b7)] := A1136
      have A1139 : VA Z h1131 a1001 .byte [(.int (oc0 p1)), (.int (oc1 p1)), (.int (0 : Int32)), (.int (0 : Int32))] := A1137
      show Go p e below s _ _ _ _ _ T1130 (mkF m 145 #[.val (.long p0), .second, .val (.int p1), .val (.int p2), .val (.int p3), .val (.int (4 : Int32)), .val (.int (1 : Int32)), .val (.int qm), .val (.ref a1001), .val (.ref a1008), .unset] [])
      refine gaload B X1133 at_145 rfl rfl (pc' := 147) rfl ?_
      refine gaload B X1133 at_147 rfl rfl (pc' := 149) rfl ?_
      refine giload B X1133 at_149 rfl (pc' := 151) rfl ?_
      refine giconst B X1133 at_151 (v := (2 : Int32)) rfl (pc' := 152) rfl ?_
      refine giloadN B X1133 at_152 rfl (pc' := 153) rfl ?_
      refine giloadN B X1133 at_153 rfl (pc' := 154) rfl ?_
      refine giload B X1133 at_154 rfl (pc' := 156) rfl ?_
      refine gcallS B X1133 (hw _ (List.mem_of_getElem? (i := 1) rfl)) (hw _ (List.mem_of_getElem? (i := 2) rfl)) (hw _ (List.mem_of_getElem? (i := 3) rfl)) (hw _ (List.mem_of_getElem? (i := 4) rfl)) (by decide) (mt1_2 l Z a0 hw a1008 a1001 (1 : Int32) p1 p2 qm (4 : Int32) [(.int b0), (.int (ox0 p1 p2 qm)), (.int (ox1 p1 p2 qm)), (.int b3), (.int b4), (.int b5), (.int b6), (.int b7)] [(.int (oc0 p1)), (.int (oc1 p1)), (.int (0 : Int32)), (.int (0 : Int32))] 3 4 h1131 A1138 A1139 (Ne.symm n1013) rfl rfl (by decide) (by decide) (by decide) (by decide) rfl) pd___B_BIIIII_V rfl (argsL := [(.ref a1008), (.ref a1001), (.int (1 : Int32)), (.int (2 : Int32)), (.int p1), (.int p2), (.int qm)]) (st := []) rfl rfl (W := 0) (Nat.le_of_eq rfl) (by decide) (by decide) (by decide) (by decide) (allS (Or.inr z_a1008) (allS (Or.inr z_a1001) all0)) at_156 (pc' := 159) rfl fun T1140 h1141 v1142 X1143 K1144 Q1145 => ?_
      obtain ⟨rfl, A1146, A1147⟩ := Q1145
      have A1148 : VA Z h1141 a1008 .byte [(.int b0), (.int (ox0 p1 p2 qm)), (.int (ox1 p1 p2 qm)), (.int (ox2 p1 p2 qm)), (.int b4), (.int b5), (.int b6), (.int b7)] := A1146
      have A1149 : VA Z h1141 a1001 .byte [(.int (oc0 p1)), (.int (oc1 p1)), (.int (oc2 p1)), (.int (0 : Int32))] := A1147
      show Go p e below s _ _ _ _ _ T1140 (mkF m 159 #[.val (.long p0), .second, .val (.int p1), .val (.int p2), .val (.int p3), .val (.int (4 : Int32)), .val (.int (1 : Int32)), .val (.int qm), .val (.ref a1001), .val (.ref a1008), .unset] [])
      refine gaload B X1143 at_159 rfl rfl (pc' := 161) rfl ?_
      refine gaload B X1143 at_161 rfl rfl (pc' := 163) rfl ?_
      refine giload B X1143 at_163 rfl (pc' := 165) rfl ?_
      refine giconst B X1143 at_165 (v := (3 : Int32)) rfl (pc' := 166) rfl ?_
      refine giloadN B X1143 at_166 rfl (pc' := 167) rfl ?_
      refine giloadN B X1143 at_167 rfl (pc' := 168) rfl ?_
      refine giload B X1143 at_168 rfl (pc' := 170) rfl ?_
      refine gcallS B X1143 (hw _ (List.mem_of_getElem? (i := 1) rfl)) (hw _ (List.mem_of_getElem? (i := 2) rfl)) (hw _ (List.mem_of_getElem? (i := 3) rfl)) (hw _ (List.mem_of_getElem? (i := 4) rfl)) (by decide) (mt1_3 l Z a0 hw a1008 a1001 (1 : Int32) p1 p2 qm (4 : Int32) [(.int b0), (.int (ox0 p1 p2 qm)), (.int (ox1 p1 p2 qm)), (.int (ox2 p1 p2 qm)), (.int b4), (.int b5), (.int b6), (.int b7)] [(.int (oc0 p1)), (.int (oc1 p1)), (.int (oc2 p1)), (.int (0 : Int32))] 4 4 h1141 A1148 A1149 (Ne.symm n1013) rfl rfl (by decide) (by decide) (by decide) (by decide) rfl) pd___B_BIIIII_V rfl (argsL := [(.ref a1008), (.ref a1001), (.int (1 : Int32)), (.int (3 : Int32)), (.int p1), (.int p2), (.int qm)]) (st := []) rfl rfl (W := 0) (Nat.le_of_eq rfl) (by decide) (by decide) (by decide) (by decide) (allS (Or.inr z_a1008) (allS (Or.inr z_a1001) all0)) at_170 (pc' := 173) rfl fun T1150 h1151 v1152 X1153 K1154 Q1155 => ?_
      obtain ⟨rfl, A1156, A1157⟩ := Q1155
      have A1158 : VA Z h1151 a1008 .byte [(.int b0), (.int (ox0 p1 p2 qm)), (.int (ox1 p1 p2 qm)), (.int (ox2 p1 p2 qm)), (.int (ox3 p1 p2 qm)), (.int b5), (.int b6), (.int b7)] := A1156
      have A1159 : VA Z h1151 a1001 .byte [(.int (oc0 p1)), (.int (oc1 p1)), (.int (oc2 p1)), (.int (oc3 p1))] := A1157
      show Go p e below s _ _ _ _ _ T1150 (mkF m 173 #[.val (.long p0), .second, .val (.int p1), .val (.int p2), .val (.int p3), .val (.int (4 : Int32)), .val (.int (1 : Int32)), .val (.int qm), .val (.ref a1001), .val (.ref a1008), .unset] [])
      refine joinG B X1153 (F := fun z => (mkF m 222 #[.val (.long p0), .second, .val (.int p1), .val (.int p2), .val (.int p3), .val (.int (4 : Int32)), .val (.int (1 : Int32)), .val (.int qm), .val (.ref a1001), .val (.ref a1008), .unset] [(.int z)])) (r := (oE (4 : Int32) qm)) (fun J => ?_) ?_
      · refine giconst B X1153 at_173 (v := (0 : Int32)) rfl (pc' := 174) rfl ?_
        refine giload B X1153 at_174 rfl (pc' := 176) rfl ?_
        refine giload B X1153 at_176 rfl (pc' := 178) rfl ?_
        refine gcallS B X1153 (hw _ (List.mem_of_getElem? (i := 5) rfl)) (hw _ (List.mem_of_getElem? (i := 6) rfl)) (hw _ (List.mem_of_getElem? (i := 3) rfl)) (hw _ (List.mem_of_getElem? (i := 7) rfl)) (by decide) (mt2 l Z a0 hw (0 : Int32) (4 : Int32) qm  h1151 ) pd__III_Z rfl (argsL := [(.int (0 : Int32)), (.int (4 : Int32)), (.int qm)]) (st := []) rfl rfl (W := 0) (Nat.le_of_eq rfl) (by decide) (by decide) (by decide) (by decide) (fun x q => nomatch q) at_178 (pc' := 181) rfl (pureG rfl rfl fun T1160 X1161 => ?_)
        by_cases c181_1162 : (f2 (0 : Int32) (4 : Int32) qm) = (0 : Int32)
        · refine gifY B X1161 (pc' := 221) at_181 ((if0 _ _).trans (teq c181_1162).1) (by decide) ?_
          refine giconst B X1161 at_221 (v := (0 : Int32)) rfl (pc' := 222) rfl ?_
          have e_J : (oE (4 : Int32) qm) = (0 : Int32) := by rw [oE, if_pos c181_1162]
          rw [e_J] at J
          exact J _ X1161
        · refine gifN B X1161 at_181 ((if0 _ _).trans (feq c181_1162).1) (pc' := 184) rfl ?_
          refine giconst B X1161 at_184 (v := (1 : Int32)) rfl (pc' := 185) rfl ?_
          refine giload B X1161 at_185 rfl (pc' := 187) rfl ?_
          refine giload B X1161 at_187 rfl (pc' := 189) rfl ?_
          refine gcallS B X1161 (hw _ (List.mem_of_getElem? (i := 5) rfl)) (hw _ (List.mem_of_getElem? (i := 6) rfl)) (hw _ (List.mem_of_getElem? (i := 3) rfl)) (hw _ (List.mem_of_getElem? (i := 7) rfl)) (by decide) (mt2 l Z a0 hw (1 : Int32) (4 : Int32) qm  h1151 ) pd__III_Z rfl (argsL := [(.int (1 : Int32)), (.int (4 : Int32)), (.int qm)]) (st := []) rfl rfl (W := 0) (Nat.le_of_eq rfl) (by decide) (by decide) (by decide) (by decide) (fun x q => nomatch q) at_189 (pc' := 192) rfl (pureG rfl rfl fun T1163 X1164 => ?_)
          by_cases c192_1165 : (f2 (1 : Int32) (4 : Int32) qm) = (0 : Int32)
          · refine gifY B X1164 (pc' := 221) at_192 ((if0 _ _).trans (teq c192_1165).1) (by decide) ?_
            refine giconst B X1164 at_221 (v := (0 : Int32)) rfl (pc' := 222) rfl ?_
            have e_J : (oE (4 : Int32) qm) = (0 : Int32) := by rw [oE, if_neg c181_1162, if_pos c192_1165]
            rw [e_J] at J
            exact J _ X1164
          · refine gifN B X1164 at_192 ((if0 _ _).trans (feq c192_1165).1) (pc' := 195) rfl ?_
            refine giconst B X1164 at_195 (v := (2 : Int32)) rfl (pc' := 196) rfl ?_
            refine giload B X1164 at_196 rfl (pc' := 198) rfl ?_
            refine giload B X1164 at_198 rfl (pc' := 200) rfl ?_
            refine gcallS B X1164 (hw _ (List.mem_of_getElem? (i := 5) rfl)) (hw _ (List.mem_of_getElem? (i := 6) rfl)) (hw _ (List.mem_of_getElem? (i := 3) rfl)) (hw _ (List.mem_of_getElem? (i := 7) rfl)) (by decide) (mt2 l Z a0 hw (2 : Int32) (4 : Int32) qm  h1151 ) pd__III_Z rfl (argsL := [(.int (2 : Int32)), (.int (4 : Int32)), (.int qm)]) (st := []) rfl rfl (W := 0) (Nat.le_of_eq rfl) (by decide) (by decide) (by decide) (by decide) (fun x q => nomatch q) at_200 (pc' := 203) rfl (pureG rfl rfl fun T1166 X1167 => ?_)
            by_cases c203_1168 : (f2 (2 : Int32) (4 : Int32) qm) = (0 : Int32)
            · refine gifY B X1167 (pc' := 221) at_203 ((if0 _ _).trans (teq c203_1168).1) (by decide) ?_
              refine giconst B X1167 at_221 (v := (0 : Int32)) rfl (pc' := 222) rfl ?_
              have e_J : (oE (4 : Int32) qm) = (0 : Int32) := by rw [oE, if_neg c181_1162, if_neg c192_1165, if_pos c203_1168]
              rw [e_J] at J
              exact J _ X1167
            · refine gifN B X1167 at_203 ((if0 _ _).trans (feq c203_1168).1) (pc' := 206) rfl ?_
              refine giconst B X1167 at_206 (v := (3 : Int32)) rfl (pc' := 207) rfl ?_
              refine giload B X1167 at_207 rfl (pc' := 209) rfl ?_
              refine giload B X1167 at_209 rfl (pc' := 211) rfl ?_
              refine gcallS B X1167 (hw _ (List.mem_of_getElem? (i := 5) rfl)) (hw _ (List.mem_of_getElem? (i := 6) rfl)) (hw _ (List.mem_of_getElem? (i := 3) rfl)) (hw _ (List.mem_of_getElem? (i := 7) rfl)) (by decide) (mt2 l Z a0 hw (3 : Int32) (4 : Int32) qm  h1151 ) pd__III_Z rfl (argsL := [(.int (3 : Int32)), (.int (4 : Int32)), (.int qm)]) (st := []) rfl rfl (W := 0) (Nat.le_of_eq rfl) (by decide) (by decide) (by decide) (by decide) (fun x q => nomatch q) at_211 (pc' := 214) rfl (pureG rfl rfl fun T1169 X1170 => ?_)
              by_cases c214_1171 : (f2 (3 : Int32) (4 : Int32) qm) = (0 : Int32)
              · refine gifY B X1170 (pc' := 221) at_214 ((if0 _ _).trans (teq c214_1171).1) (by decide) ?_
                refine giconst B X1170 at_221 (v := (0 : Int32)) rfl (pc' := 222) rfl ?_
                have e_J : (oE (4 : Int32) qm) = (0 : Int32) := by rw [oE, if_neg c181_1162, if_neg c192_1165, if_neg c203_1168, if_pos c214_1171]
                rw [e_J] at J
                exact J _ X1170
              · refine gifN B X1170 at_214 ((if0 _ _).trans (feq c214_1171).1) (pc' := 217) rfl ?_
                refine giconst B X1170 at_217 (v := (1 : Int32)) rfl (pc' := 218) rfl ?_
                refine ggoto B X1170 (pc' := 222) at_218 (by decide) ?_
                have e_J : (oE (4 : Int32) qm) = (1 : Int32) := by rw [oE, if_neg c181_1162, if_neg c192_1165, if_neg c203_1168, if_neg c214_1171]
                rw [e_J] at J
                exact J _ X1170
      intro T1172 X1173
      show Go p e below s _ _ _ _ _ T1172 (mkF m 222 #[.val (.long p0), .second, .val (.int p1), .val (.int p2), .val (.int p3), .val (.int (4 : Int32)), .val (.int (1 : Int32)), .val (.int qm), .val (.ref a1001), .val (.ref a1008), .unset] [(.int (oE (4 : Int32) qm))])
      refine gistore B X1173 at_222 (Ls' := #[.val (.long p0), .second, .val (.int p1), .val (.int p2), .val (.int p3), .val (.int (4 : Int32)), .val (.int (1 : Int32)), .val (.int qm), .val (.ref a1001), .val (.ref a1008), .val (.int (oE (4 : Int32) qm))]) rfl (pc' := 224) rfl ?_
      refine gaload B X1173 at_224 rfl rfl (pc' := 226) rfl ?_
      refine giload B X1173 at_226 rfl (pc' := 228) rfl ?_
      refine gaload B X1173 at_228 rfl rfl (pc' := 230) rfl ?_
      refine gcallS B X1173 (hw _ (List.mem_of_getElem? (i := 8) rfl)) (hw _ (List.mem_of_getElem? (i := 9) rfl)) (hw _ (List.mem_of_getElem? (i := 10) rfl)) (hw _ (List.mem_of_getElem? (i := 11) rfl)) (by decide) (mt3_4 l Z a0 hw a1008 (1 : Int32) a1001 [(.int b0), (.int (ox0 p1 p2 qm)), (.int (ox1 p1 p2 qm)), (.int (ox2 p1 p2 qm)), (.int (ox3 p1 p2 qm)), (.int b5), (.int b6), (.int b7)] (ox0 p1 p2 qm) (oc0 p1) (ox1 p1 p2 qm) (oc1 p1) (ox2 p1 p2 qm) (oc2 p1) (ox3 p1 p2 qm) (oc3 p1) h1151 A1158 rfl A1159 (by decide) rfl (by decide) rfl (by decide) rfl (by decide) rfl) pd___BI_B_Z rfl (argsL := [(.ref a1008), (.int (1 : Int32)), (.ref a1001)]) (st := []) rfl rfl (W := 0) (Nat.le_of_eq rfl) (by decide) (by decide) (by decide) (by decide) (fun x q => nomatch q) at_230 (pc' := 233) rfl (pureG rfl rfl fun T1174 X1175 => ?_)
      refine giload B X1175 at_233 rfl (pc' := 235) rfl ?_
      have c235_1176 : (f3_4 (ox0 p1 p2 qm) (oc0 p1) (ox1 p1 p2 qm) (oc1 p1) (ox2 p1 p2 qm) (oc2 p1) (ox3 p1 p2 qm) (oc3 p1)) = (oE (4 : Int32) qm) := own_fin4 p1 p2 qm
      refine gicN B X1175 at_235 (teq c235_1176).2 (pc' := 238) rfl ?_
      refine giconst B X1175 at_238 (v := (1 : Int32)) rfl (pc' := 239) rfl ?_
      refine ggoto B X1175 (pc' := 243) at_239 (by decide) ?_
      exact gretN B X1175 (z' := (1 : Int32)) (by simp) (rfl) at_243 (by decide) (by decide) (rfl)
    · skip
      refine gaload B X1059 at_117 rfl rfl (pc' := 119) rfl ?_
      refine gaload B X1059 at_119 rfl rfl (pc' := 121) rfl ?_
      refine giload B X1059 at_121 rfl (pc' := 123) rfl ?_
      refine giconst B X1059 at_123 (v := (0 : Int32)) rfl (pc' := 124) rfl ?_
      refine giloadN B X1059 at_124 rfl (pc' := 125) rfl ?_
      refine giloadN B X1059 at_125 rfl (pc' := 126) rfl ?_
      refine giload B X1059 at_126 rfl (pc' := 128) rfl ?_
      refine gcallS B X1059 (hw _ (List.mem_of_getElem? (i := 1) rfl)) (hw _ (List.mem_of_getElem? (i := 2) rfl)) (hw _ (List.mem_of_getElem? (i := 3) rfl)) (hw _ (List.mem_of_getElem? (i := 4) rfl)) (by decide) (mt1_0 l Z a0 hw a1008 a1001 (2 : Int32) p1 p2 qm (4 : Int32) [(.int b0), (.int b1), (.int b2), (.int b3), (.int b4), (.int b5), (.int b6), (.int b7)] [(.int (0 : Int32)), (.int (0 : Int32)), (.int (0 : Int32)), (.int (0 : Int32))] 2 4 h1058 A1061 F1062 (Ne.symm n1013) rfl rfl (by decide) (by decide) (by decide) (by decide) rfl) pd___B_BIIIII_V rfl (argsL := [(.ref a1008), (.ref a1001), (.int (2 : Int32)), (.int (0 : Int32)), (.int p1), (.int p2), (.int qm)]) (st := []) rfl rfl (W := 0) (Nat.le_of_eq rfl) (by decide) (by decide) (by decide) (by decide) (allS (Or.inr z_a1008) (allS (Or.inr z_a1001) all0)) at_128 (pc' := 131) rfl fun T1177 h1178 v1179 X1180 K1181 Q1182 => ?_
      obtain ⟨rfl, A1183, A1184⟩ := Q1182
      have A1185 : VA Z h1178 a1008 .byte [(.int b0), (.int b1), (.int (ox0 p1 p2 qm)), (.int b3), (.int b4), (.int b5), (.int b6), (.int b7)] := A1183
      have A1186 : VA Z h1178 a1001 .byte [(.int (oc0 p1)), (.int (0 : Int32)), (.int (0 : Int32)), (.int (0 : Int32))] := A1184
      show Go p e below s _ _ _ _ _ T1177 (mkF m 131 #[.val (.long p0), .second, .val (.int p1), .val (.int p2), .val (.int p3), .val (.int (4 : Int32)), .val (.int (2 : Int32)), .val (.int qm), .val (.ref a1001), .val (.ref a1008), .unset] [])
      refine gaload B X1180 at_131 rfl rfl (pc' := 133) rfl ?_
      refine gaload B X1180 at_133 rfl rfl (pc' := 135) rfl ?_
      refine giload B X1180 at_135 rfl (pc' := 137) rfl ?_
      refine giconst B X1180 at_137 (v := (1 : Int32)) rfl (pc' := 138) rfl ?_
      refine giloadN B X1180 at_138 rfl (pc' := 139) rfl ?_
      refine giloadN B X1180 at_139 rfl (pc' := 140) rfl ?_
      refine giload B X1180 at_140 rfl (pc' := 142) rfl ?_
      refine gcallS B X1180 (hw _ (List.mem_of_getElem? (i := 1) rfl)) (hw _ (List.mem_of_getElem? (i := 2) rfl)) (hw _ (List.mem_of_getElem? (i := 3) rfl)) (hw _ (List.mem_of_getElem? (i := 4) rfl)) (by decide) (mt1_1 l Z a0 hw a1008 a1001 (2 : Int32) p1 p2 qm (4 : Int32) [(.int b0), (.int b1), (.int (ox0 p1 p2 qm)), (.int b3), (.int b4), (.int b5), (.int b6), (.int b7)] [(.int (oc0 p1)), (.int (0 : Int32)), (.int (0 : Int32)), (.int (0 : Int32))] 3 4 h1178 A1185 A1186 (Ne.symm n1013) rfl rfl (by decide) (by decide) (by decide) (by decide) rfl) pd___B_BIIIII_V rfl (argsL := [(.ref a1008), (.ref a1001), (.int (2 : Int32)), (.int (1 : Int32)), (.int p1), (.int p2), (.int qm)]) (st := []) rfl rfl (W := 0) (Nat.le_of_eq rfl) (by decide) (by decide) (by decide) (by decide) (allS (Or.inr z_a1008) (allS (Or.inr z_a1001) all0)) at_142 (pc' := 145) rfl fun T1187 h1188 v1189 X1190 K1191 Q1192 => ?_
      obtain ⟨rfl, A1193, A1194⟩ := Q1192
      have A1195 : VA Z h1188 a1008 .byte [(.int b0), (.int b1), (.int (ox0 p1 p2 qm)), (.int (ox1 p1 p2 qm)), (.int b4), (.int b5), (.int b6), (.int b7)] := A1193
      have A1196 : VA Z h1188 a1001 .byte [(.int (oc0 p1)), (.int (oc1 p1)), (.int (0 : Int32)), (.int (0 : Int32))] := A1194
      show Go p e below s _ _ _ _ _ T1187 (mkF m 145 #[.val (.long p0), .second, .val (.int p1), .val (.int p2), .val (.int p3), .val (.int (4 : Int32)), .val (.int (2 : Int32)), .val (.int qm), .val (.ref a1001), .val (.ref a1008), .unset] [])
      refine gaload B X1190 at_145 rfl rfl (pc' := 147) rfl ?_
      refine gaload B X1190 at_147 rfl rfl (pc' := 149) rfl ?_
      refine giload B X1190 at_149 rfl (pc' := 151) rfl ?_
      refine giconst B X1190 at_151 (v := (2 : Int32)) rfl (pc' := 152) rfl ?_
      refine giloadN B X1190 at_152 rfl (pc' := 153) rfl ?_
      refine giloadN B X1190 at_153 rfl (pc' := 154) rfl ?_
      refine giload B X1190 at_154 rfl (pc' := 156) rfl ?_
      refine gcallS B X1190 (hw _ (List.mem_of_getElem? (i := 1) rfl)) (hw _ (List.mem_of_getElem? (i := 2) rfl)) (hw _ (List.mem_of_getElem? (i := 3) rfl)) (hw _ (List.mem_of_getElem? (i := 4) rfl)) (by decide) (mt1_2 l Z a0 hw a1008 a1001 (2 : Int32) p1 p2 qm (4 : Int32) [(.int b0), (.int b1), (.int (ox0 p1 p2 qm)), (.int (ox1 p1 p2 qm)), (.int b4), (.int b5), (.int b6), (.int b7)] [(.int (oc0 p1)), (.int (oc1 p1)), (.int (0 : Int32)), (.int (0 : Int32))] 4 4 h1188 A1195 A1196 (Ne.symm n1013) rfl rfl (by decide) (by decide) (by decide) (by decide) rfl) pd___B_BIIIII_V rfl (argsL := [(.ref a1008), (.ref a1001), (.int (2 : Int32)), (.int (2 : Int32)), (.int p1), (.int p2), (.int qm)]) (st := []) rfl rfl (W := 0) (Nat.le_of_eq rfl) (by decide) (by decide) (by decide) (by decide) (allS (Or.inr z_a1008) (allS (Or.inr z_a1001) all0)) at_156 (pc' := 159) rfl fun T1197 h1198 v1199 X1200 K1201 Q1202 => ?_
      obtain ⟨rfl, A1203, A1204⟩ := Q1202
      have A1205 : VA Z h1198 a1008 .byte [(.int b0), (.int b1), (.int (ox0 p1 p2 qm)), (.int (ox1 p1 p2 qm)), (.int (ox2 p1 p2 qm)), (.int b5), (.int b6), (.int b7)] := A1203
      have A1206 : VA Z h1198 a1001 .byte [(.int (oc0 p1)), (.int (oc1 p1)), (.int (oc2 p1)), (.int (0 : Int32))] := A1204
      show Go p e below s _ _ _ _ _ T1197 (mkF m 159 #[.val (.long p0), .second, .val (.int p1), .val (.int p2), .val (.int p3), .val (.int (4 : Int32)), .val (.int (2 : Int32)), .val (.int qm), .val (.ref a1001), .val (.ref a1008), .unset] [])
      refine gaload B X1200 at_159 rfl rfl (pc' := 161) rfl ?_
      refine gaload B X1200 at_161 rfl rfl (pc' := 163) rfl ?_
      refine giload B X1200 at_163 rfl (pc' := 165) rfl ?_
      refine giconst B X1200 at_165 (v := (3 : Int32)) rfl (pc' := 166) rfl ?_
      refine giloadN B X1200 at_166 rfl (pc' := 167) rfl ?_
      refine giloadN B X1200 at_167 rfl (pc' := 168) rfl ?_
      refine giload B X1200 at_168 rfl (pc' := 170) rfl ?_
      refine gcallS B X1200 (hw _ (List.mem_of_getElem? (i := 1) rfl)) (hw _ (List.mem_of_getElem? (i := 2) rfl)) (hw _ (List.mem_of_getElem? (i := 3) rfl)) (hw _ (List.mem_of_getElem? (i := 4) rfl)) (by decide) (mt1_3 l Z a0 hw a1008 a1001 (2 : Int32) p1 p2 qm (4 : Int32) [(.int b0), (.int b1), (.int (ox0 p1 p2 qm)), (.int (ox1 p1 p2 qm)), (.int (ox2 p1 p2 qm)), (.int b5), (.int b6), (.int b7)] [(.int (oc0 p1)), (.int (oc1 p1)), (.int (oc2 p1)), (.int (0 : Int32))] 5 4 h1198 A1205 A1206 (Ne.symm n1013) rfl rfl (by decide) (by decide) (by decide) (by decide) rfl) pd___B_BIIIII_V rfl (argsL := [(.ref a1008), (.ref a1001), (.int (2 : Int32)), (.int (3 : Int32)), (.int p1), (.int p2), (.int qm)]) (st := []) rfl rfl (W := 0) (Nat.le_of_eq rfl) (by decide) (by decide) (by decide) (by decide) (allS (Or.inr z_a1008) (allS (Or.inr z_a1001) all0)) at_170 (pc' := 173) rfl fun T1207 h1208 v1209 X1210 K1211 Q1212 => ?_
      obtain ⟨rfl, A1213, A1214⟩ := Q1212
      have A1215 : VA Z h1208 a1008 .byte [(.int b0), (.int b1), (.int (ox0 p1 p2 qm)), (.int (ox1 p1 p2 qm)), (.int (ox2 p1 p2 qm)), (.int (ox3 p1 p2 qm)), (.int b6), (.int b7)] := A1213
      have A1216 : VA Z h1208 a1001 .byte [(.int (oc0 p1)), (.int (oc1 p1)), (.int (oc2 p1)), (.int (oc3 p1))] := A1214
      show Go p e below s _ _ _ _ _ T1207 (mkF m 173 #[.val (.long p0), .second, .val (.int p1), .val (.int p2), .val (.int p3), .val (.int (4 : Int32)), .val (.int (2 : Int32)), .val (.int qm), .val (.ref a1001), .val (.ref a1008), .unset] [])
      refine joinG B X1210 (F := fun z => (mkF m 222 #[.val (.long p0), .second, .val (.int p1), .val (.int p2), .val (.int p3), .val (.int (4 : Int32)), .val (.int (2 : Int32)), .val (.int qm), .val (.ref a1001), .val (.ref a1008), .unset] [(.int z)])) (r := (oE (4 : Int32) qm)) (fun J => ?_) ?_
      · refine giconst B X1210 at_173 (v := (0 : Int32)) rfl (pc' := 174) rfl ?_
        refine giload B X1210 at_174 rfl (pc' := 176) rfl ?_
        refine giload B X1210 at_176 rfl (pc' := 178) rfl ?_
        refine gcallS B X1210 (hw _ (List.mem_of_getElem? (i := 5) rfl)) (hw _ (List.mem_of_getElem? (i := 6) rfl)) (hw _ (List.mem_of_getElem? (i := 3) rfl)) (hw _ (List.mem_of_getElem? (i := 7) rfl)) (by decide) (mt2 l Z a0 hw (0 : Int32) (4 : Int32) qm  h1208 ) pd__III_Z rfl (argsL := [(.int (0 : Int32)), (.int (4 : Int32)), (.int qm)]) (st := []) rfl rfl (W := 0) (Nat.le_of_eq rfl) (by decide) (by decide) (by decide) (by decide) (fun x q => nomatch q) at_178 (pc' := 181) rfl (pureG rfl rfl fun T1217 X1218 => ?_)
        by_cases c181_1219 : (f2 (0 : Int32) (4 : Int32) qm) = (0 : Int32)
        · refine gifY B X1218 (pc' := 221) at_181 ((if0 _ _).trans (teq c181_1219).1) (by decide) ?_
          refine giconst B X1218 at_221 (v := (0 : Int32)) rfl (pc' := 222) rfl ?_
          have e_J : (oE (4 : Int32) qm) = (0 : Int32) := by rw [oE, if_pos c181_1219]
          rw [e_J] at J
          exact J _ X1218
        · refine gifN B X1218 at_181 ((if0 _ _).trans (feq c181_1219).1) (pc' := 184) rfl ?_
          refine giconst B X1218 at_184 (v := (1 : Int32)) rfl (pc' := 185) rfl ?_
          refine giload B X1218 at_185 rfl (pc' := 187) rfl ?_
          refine giload B X1218 at_187 rfl (pc' := 189) rfl ?_
          refine gcallS B X1218 (hw _ (List.mem_of_getElem? (i := 5) rfl)) (hw _ (List.mem_of_getElem? (i := 6) rfl)) (hw _ (List.mem_of_getElem? (i := 3) rfl)) (hw _ (List.mem_of_getElem? (i := 7) rfl)) (by decide) (mt2 l Z a0 hw (1 : Int32) (4 : Int32) qm  h1208 ) pd__III_Z rfl (argsL := [(.int (1 : Int32)), (.int (4 : Int32)), (.int qm)]) (st := []) rfl rfl (W := 0) (Nat.le_of_eq rfl) (by decide) (by decide) (by decide) (by decide) (fun x q => nomatch q) at_189 (pc' := 192) rfl (pureG rfl rfl fun T1220 X1221 => ?_)
          by_cases c192_1222 : (f2 (1 : Int32) (4 : Int32) qm) = (0 : Int32)
          · refine gifY B X1221 (pc' := 221) at_192 ((if0 _ _).trans (teq c192_1222).1) (by decide) ?_
            refine giconst B X1221 at_221 (v := (0 : Int32)) rfl (pc' := 222) rfl ?_
            have e_J : (oE (4 : Int32) qm) = (0 : Int32) := by rw [oE, if_neg c181_1219, if_pos c192_1222]
            rw [e_J] at J
            exact J _ X1221
          · refine gifN B X1221 at_192 ((if0 _ _).trans (feq c192_1222).1) (pc' := 195) rfl ?_
            refine giconst B X1221 at_195 (v := (2 : Int32)) rfl (pc' := 196) rfl ?_
            refine giload B X1221 at_196 rfl (pc' := 198) rfl ?_
            refine giload B X1221 at_198 rfl (pc' := 200) rfl ?_
            refine gcallS B X1221 (hw _ (List.mem_of_getElem? (i := 5) rfl)) (hw _ (List.mem_of_getElem? (i := 6) rfl)) (hw _ (List.mem_of_getElem? (i := 3) rfl)) (hw _ (List.mem_of_getElem? (i := 7) rfl)) (by decide) (mt2 l Z a0 hw (2 : Int32) (4 : Int32) qm  h1208 ) pd__III_Z rfl (argsL := [(.int (2 : Int32)), (.int (4 : Int32)), (.int qm)]) (st := []) rfl rfl (W := 0) (Nat.le_of_eq rfl) (by decide) (by decide) (by decide) (by decide) (fun x q => nomatch q) at_200 (pc' := 203) rfl (pureG rfl rfl fun T1223 X1224 => ?_)
            by_cases c203_1225 : (f2 (2 : Int32) (4 : Int32) qm) = (0 : Int32)
            · refine gifY B X1224 (pc' := 221) at_203 ((if0 _ _).trans (teq c203_1225).1) (by decide) ?_
              refine giconst B X1224 at_221 (v := (0 : Int32)) rfl (pc' := 222) rfl ?_
              have e_J : (oE (4 : Int32) qm) = (0 : Int32) := by rw [oE, if_neg c181_1219, if_neg c192_1222, if_pos c203_1225]
              rw [e_J] at J
              exact J _ X1224
            · refine gifN B X1224 at_203 ((if0 _ _).trans (feq c203_1225).1) (pc' := 206) rfl ?_
              refine giconst B X1224 at_206 (v := (3 : Int32)) rfl (pc' := 207) rfl ?_
              refine giload B X1224 at_207 rfl (pc' := 209) rfl ?_
              refine giload B X1224 at_209 rfl (pc' := 211) rfl ?_
              refine gcallS B X1224 (hw _ (List.mem_of_getElem? (i := 5) rfl)) (hw _ (List.mem_of_getElem? (i := 6) rfl)) (hw _ (List.mem_of_getElem? (i := 3) rfl)) (hw _ (List.mem_of_getElem? (i := 7) rfl)) (by decide) (mt2 l Z a0 hw (3 : Int32) (4 : Int32) qm  h1208 ) pd__III_Z rfl (argsL := [(.int (3 : Int32)), (.int (4 : Int32)), (.int qm)]) (st := []) rfl rfl (W := 0) (Nat.le_of_eq rfl) (by decide) (by decide) (by decide) (by decide) (fun x q => nomatch q) at_211 (pc' := 214) rfl (pureG rfl rfl fun T1226 X1227 => ?_)
              by_cases c214_1228 : (f2 (3 : Int32) (4 : Int32) qm) = (0 : Int32)
              · refine gifY B X1227 (pc' := 221) at_214 ((if0 _ _).trans (teq c214_1228).1) (by decide) ?_
                refine giconst B X1227 at_221 (v := (0 : Int32)) rfl (pc' := 222) rfl ?_
                have e_J : (oE (4 : Int32) qm) = (0 : Int32) := by rw [oE, if_neg c181_1219, if_neg c192_1222, if_neg c203_1225, if_pos c214_1228]
                rw [e_J] at J
                exact J _ X1227
              · refine gifN B X1227 at_214 ((if0 _ _).trans (feq c214_1228).1) (pc' := 217) rfl ?_
                refine giconst B X1227 at_217 (v := (1 : Int32)) rfl (pc' := 218) rfl ?_
                refine ggoto B X1227 (pc' := 222) at_218 (by decide) ?_
                have e_J : (oE (4 : Int32) qm) = (1 : Int32) := by rw [oE, if_neg c181_1219, if_neg c192_1222, if_neg c203_1225, if_neg c214_1228]
                rw [e_J] at J
                exact J _ X1227
      intro T1229 X1230
      show Go p e below s _ _ _ _ _ T1229 (mkF m 222 #[.val (.long p0), .second, .val (.int p1), .val (.int p2), .val (.int p3), .val (.int (4 : Int32)), .val (.int (2 : Int32)), .val (.int qm), .val (.ref a1001), .val (.ref a1008), .unset] [(.int (oE (4 : Int32) qm))])
      refine gistore B X1230 at_222 (Ls' := #[.val (.long p0), .second, .val (.int p1), .val (.int p2), .val (.int p3), .val (.int (4 : Int32)), .val (.int (2 : Int32)), .val (.int qm), .val (.ref a1001), .val (.ref a1008), .val (.int (oE (4 : Int32) qm))]) rfl (pc' := 224) rfl ?_
      refine gaload B X1230 at_224 rfl rfl (pc' := 226) rfl ?_
      refine giload B X1230 at_226 rfl (pc' := 228) rfl ?_
      refine gaload B X1230 at_228 rfl rfl (pc' := 230) rfl ?_
      refine gcallS B X1230 (hw _ (List.mem_of_getElem? (i := 8) rfl)) (hw _ (List.mem_of_getElem? (i := 9) rfl)) (hw _ (List.mem_of_getElem? (i := 10) rfl)) (hw _ (List.mem_of_getElem? (i := 11) rfl)) (by decide) (mt3_4 l Z a0 hw a1008 (2 : Int32) a1001 [(.int b0), (.int b1), (.int (ox0 p1 p2 qm)), (.int (ox1 p1 p2 qm)), (.int (ox2 p1 p2 qm)), (.int (ox3 p1 p2 qm)), (.int b6), (.int b7)] (ox0 p1 p2 qm) (oc0 p1) (ox1 p1 p2 qm) (oc1 p1) (ox2 p1 p2 qm) (oc2 p1) (ox3 p1 p2 qm) (oc3 p1) h1208 A1215 rfl A1216 (by decide) rfl (by decide) rfl (by decide) rfl (by decide) rfl) pd___BI_B_Z rfl (argsL := [(.ref a1008), (.int (2 : Int32)), (.ref a1001)]) (st := []) rfl rfl (W := 0) (Nat.le_of_eq rfl) (by decide) (by decide) (by decide) (by decide) (fun x q => nomatch q) at_230 (pc' := 233) rfl (pureG rfl rfl fun T1231 X1232 => ?_)
      refine giload B X1232 at_233 rfl (pc' := 235) rfl ?_
      have c235_1233 : (f3_4 (ox0 p1 p2 qm) (oc0 p1) (ox1 p1 p2 qm) (oc1 p1) (ox2 p1 p2 qm) (oc2 p1) (ox3 p1 p2 qm) (oc3 p1)) = (oE (4 : Int32) qm) := own_fin4 p1 p2 qm
      refine gicN B X1232 at_235 (teq c235_1233).2 (pc' := 238) rfl ?_
      refine giconst B X1232 at_238 (v := (1 : Int32)) rfl (pc' := 239) rfl ?_
      refine ggoto B X1232 (pc' := 243) at_239 (by decide) ?_
      exact gretN B X1232 (z' := (1 : Int32)) (by simp) (rfl) at_243 (by decide) (by decide) (rfl)
    · skip
      refine gaload B X1059 at_117 rfl rfl (pc' := 119) rfl ?_
      refine gaload B X1059 at_119 rfl rfl (pc' := 121) rfl ?_
      refine giload B X1059 at_121 rfl (pc' := 123) rfl ?_
      refine giconst B X1059 at_123 (v := (0 : Int32)) rfl (pc' := 124) rfl ?_
      refine giloadN B X1059 at_124 rfl (pc' := 125) rfl ?_
      refine giloadN B X1059 at_125 rfl (pc' := 126) rfl ?_
      refine giload B X1059 at_126 rfl (pc' := 128) rfl ?_
      refine gcallS B X1059 (hw _ (List.mem_of_getElem? (i := 1) rfl)) (hw _ (List.mem_of_getElem? (i := 2) rfl)) (hw _ (List.mem_of_getElem? (i := 3) rfl)) (hw _ (List.mem_of_getElem? (i := 4) rfl)) (by decide) (mt1_0 l Z a0 hw a1008 a1001 (3 : Int32) p1 p2 qm (4 : Int32) [(.int b0), (.int b1), (.int b2), (.int b3), (.int b4), (.int b5), (.int b6), (.int b7)] [(.int (0 : Int32)), (.int (0 : Int32)), (.int (0 : Int32)), (.int (0 : Int32))] 3 4 h1058 A1061 F1062 (Ne.symm n1013) rfl rfl (by decide) (by decide) (by decide) (by decide) rfl) pd___B_BIIIII_V rfl (argsL := [(.ref a1008), (.ref a1001), (.int (3 : Int32)), (.int (0 : Int32)), (.int p1), (.int p2), (.int qm)]) (st := []) rfl rfl (W := 0) (Nat.le_of_eq rfl) (by decide) (by decide) (by decide) (by decide) (allS (Or.inr z_a1008) (allS (Or.inr z_a1001) all0)) at_128 (pc' := 131) rfl fun T1234 h1235 v1236 X1237 K1238 Q1239 => ?_
      obtain ⟨rfl, A1240, A1241⟩ := Q1239
      have A1242 : VA Z h1235 a1008 .byte [(.int b0), (.int b1), (.int b2), (.int (ox0 p1 p2 qm)), (.int b4), (.int b5), (.int b6), (.int b7)] := A1240
      have A1243 : VA Z h1235 a1001 .byte [(.int (oc0 p1)), (.int (0 : Int32)), (.int (0 : Int32)), (.int (0 : Int32))] := A1241
      show Go p e below s _ _ _ _ _ T1234 (mkF m 131 #[.val (.long p0), .second, .val (.int p1), .val (.int p2), .val (.int p3), .val (.int (4 : Int32)), .val (.int (3 : Int32)), .val (.int qm), .val (.ref a1001), .val (.ref a1008), .unset] [])
      refine gaload B X1237 at_131 rfl rfl (pc' := 133) rfl ?_
      refine gaload B X1237 at_133 rfl rfl (pc' := 135) rfl ?_
      refine giload B X1237 at_135 rfl (pc' := 137) rfl ?_
      refine giconst B X1237 at_137 (v := (1 : Int32)) rfl (pc' := 138) rfl ?_
      refine giloadN B X1237 at_138 rfl (pc' := 139) rfl ?_
      refine giloadN B X1237 at_139 rfl (pc' := 140) rfl ?_
      refine giload B X1237 at_140 rfl (pc' := 142) rfl ?_
      refine gcallS B X1237 (hw _ (List.mem_of_getElem? (i := 1) rfl)) (hw _ (List.mem_of_getElem? (i := 2) rfl)) (hw _ (List.mem_of_getElem? (i := 3) rfl)) (hw _ (List.mem_of_getElem? (i := 4) rfl)) (by decide) (mt1_1 l Z a0 hw a1008 a1001 (3 : Int32) p1 p2 qm (4 : Int32) [(.int b0), (.int b1), (.int b2), (.int (ox0 p1 p2 qm)), (.int b4), (.int b5), (.int b6), (.int b7)] [(.int (oc0 p1)), (.int (0 : Int32)), (.int (0 : Int32)), (.int (0 : Int32))] 4 4 h1235 A1242 A1243 (Ne.symm n1013) rfl rfl (by decide) (by decide) (by decide) (by decide) rfl) pd___B_BIIIII_V rfl (argsL := [(.ref a1008), (.ref a1001), (.int (3 : Int32)), (.int (1 : Int32)), (.int p1), (.int p2), (.int qm)]) (st := []) rfl rfl (W := 0) (Nat.le_of_eq rfl) (by decide) (by decide) (by decide) (by decide) (allS (Or.inr z_a1008) (allS (Or.inr z_a1001) all0)) at_142 (pc' := 145) rfl fun T1244 h1245 v1246 X1247 K1248 Q1249 => ?_
      obtain ⟨rfl, A1250, A1251⟩ := Q1249
      have A1252 : VA Z h1245 a1008 .byte [(.int b0), (.int b1), (.int b2), (.int (ox0 p1 p2 qm)), (.int (ox1 p1 p2 qm)), (.int b5), (.int b6), (.int b7)] := A1250
      have A1253 : VA Z h1245 a1001 .byte [(.int (oc0 p1)), (.int (oc1 p1)), (.int (0 : Int32)), (.int (0 : Int32))] := A1251
      show Go p e below s _ _ _ _ _ T1244 (mkF m 145 #[.val (.long p0), .second, .val (.int p1), .val (.int p2), .val (.int p3), .val (.int (4 : Int32)), .val (.int (3 : Int32)), .val (.int qm), .val (.ref a1001), .val (.ref a1008), .unset] [])
      refine gaload B X1247 at_145 rfl rfl (pc' := 147) rfl ?_
      refine gaload B X1247 at_147 rfl rfl (pc' := 149) rfl ?_
      refine giload B X1247 at_149 rfl (pc' := 151) rfl ?_
      refine giconst B X1247 at_151 (v := (2 : Int32)) rfl (pc' := 152) rfl ?_
      refine giloadN B X1247 at_152 rfl (pc' := 153) rfl ?_
      refine giloadN B X1247 at_153 rfl (pc' := 154) rfl ?_
      refine giload B X1247 at_154 rfl (pc' := 156) rfl ?_
      refine gcallS B X1247 (hw _ (List.mem_of_getElem? (i := 1) rfl)) (hw _ (List.mem_of_getElem? (i := 2) rfl)) (hw _ (List.mem_of_getElem? (i := 3) rfl)) (hw _ (List.mem_of_getElem? (i := 4) rfl)) (by decide) (mt1_2 l Z a0 hw a1008 a1001 (3 : Int32) p1 p2 qm (4 : Int32) [(.int b0), (.int b1), (.int b2), (.int (ox0 p1 p2 qm)), (.int (ox1 p1 p2 qm)), (.int b5), (.int b6), (.int b7)] [(.int (oc0 p1)), (.int (oc1 p1)), (.int (0 : Int32)), (.int (0 : Int32))] 5 4 h1245 A1252 A1253 (Ne.symm n1013) rfl rfl (by decide) (by decide) (by decide) (by decide) rfl) pd___B_BIIIII_V rfl (argsL := [(.ref a1008), (.ref a1001), (.int (3 : Int32)), (.int (2 : Int32)), (.int p1), (.int p2), (.int qm)]) (st := []) rfl rfl (W := 0) (Nat.le_of_eq rfl) (by decide) (by decide) (by decide) (by decide) (allS (Or.inr z_a1008) (allS (Or.inr z_a1001) all0)) at_156 (pc' := 159) rfl fun T1254 h1255 v1256 X1257 K1258 Q1259 => ?_
      obtain ⟨rfl, A1260, A1261⟩ := Q1259
      have A1262 : VA Z h1255 a1008 .byte [(.int b0), (.int b1), (.int b2), (.int (ox0 p1 p2 qm)), (.int (ox1 p1 p2 qm)), (.int (ox2 p1 p2 qm)), (.int b6), (.int b7)] := A1260
      have A1263 : VA Z h1255 a1001 .byte [(.int (oc0 p1)), (.int (oc1 p1)), (.int (oc2 p1)), (.int (0 : Int32))] := A1261
      show Go p e below s _ _ _ _ _ T1254 (mkF m 159 #[.val (.long p0), .second, .val (.int p1), .val (.int p2), .val (.int p3), .val (.int (4 : Int32)), .val (.int (3 : Int32)), .val (.int qm), .val (.ref a1001), .val (.ref a1008), .unset] [])
      refine gaload B X1257 at_159 rfl rfl (pc' := 161) rfl ?_
      refine gaload B X1257 at_161 rfl rfl (pc' := 163) rfl ?_
      refine giload B X1257 at_163 rfl (pc' := 165) rfl ?_
      refine giconst B X1257 at_165 (v := (3 : Int32)) rfl (pc' := 166) rfl ?_
      refine giloadN B X1257 at_166 rfl (pc' := 167) rfl ?_
      refine giloadN B X1257 at_167 rfl (pc' := 168) rfl ?_
      refine giload B X1257 at_168 rfl (pc' := 170) rfl ?_
      refine gcallS B X1257 (hw _ (List.mem_of_getElem? (i := 1) rfl)) (hw _ (List.mem_of_getElem? (i := 2) rfl)) (hw _ (List.mem_of_getElem? (i := 3) rfl)) (hw _ (List.mem_of_getElem? (i := 4) rfl)) (by decide) (mt1_3 l Z a0 hw a1008 a1001 (3 : Int32) p1 p2 qm (4 : Int32) [(.int b0), (.int b1), (.int b2), (.int (ox0 p1 p2 qm)), (.int (ox1 p1 p2 qm)), (.int (ox2 p1 p2 qm)), (.int b6), (.int b7)] [(.int (oc0 p1)), (.int (oc1 p1)), (.int (oc2 p1)), (.int (0 : Int32))] 6 4 h1255 A1262 A1263 (Ne.symm n1013) rfl rfl (by decide) (by decide) (by decide) (by decide) rfl) pd___B_BIIIII_V rfl (argsL := [(.ref a1008), (.ref a1001), (.int (3 : Int32)), (.int (3 : Int32)), (.int p1), (.int p2), (.int qm)]) (st := []) rfl rfl (W := 0) (Nat.le_of_eq rfl) (by decide) (by decide) (by decide) (by decide) (allS (Or.inr z_a1008) (allS (Or.inr z_a1001) all0)) at_170 (pc' := 173) rfl fun T1264 h1265 v1266 X1267 K1268 Q1269 => ?_
      obtain ⟨rfl, A1270, A1271⟩ := Q1269
      have A1272 : VA Z h1265 a1008 .byte [(.int b0), (.int b1), (.int b2), (.int (ox0 p1 p2 qm)), (.int (ox1 p1 p2 qm)), (.int (ox2 p1 p2 qm)), (.int (ox3 p1 p2 qm)), (.int b7)] := A1270
      have A1273 : VA Z h1265 a1001 .byte [(.int (oc0 p1)), (.int (oc1 p1)), (.int (oc2 p1)), (.int (oc3 p1))] := A1271
      show Go p e below s _ _ _ _ _ T1264 (mkF m 173 #[.val (.long p0), .second, .val (.int p1), .val (.int p2), .val (.int p3), .val (.int (4 : Int32)), .val (.int (3 : Int32)), .val (.int qm), .val (.ref a1001), .val (.ref a1008), .unset] [])
      refine joinG B X1267 (F := fun z => (mkF m 222 #[.val (.long p0), .second, .val (.int p1), .val (.int p2), .val (.int p3), .val (.int (4 : Int32)), .val (.int (3 : Int32)), .val (.int qm), .val (.ref a1001), .val (.ref a1008), .unset] [(.int z)])) (r := (oE (4 : Int32) qm)) (fun J => ?_) ?_
      · refine giconst B X1267 at_173 (v := (0 : Int32)) rfl (pc' := 174) rfl ?_
        refine giload B X1267 at_174 rfl (pc' := 176) rfl ?_
        refine giload B X1267 at_176 rfl (pc' := 178) rfl ?_
        refine gcallS B X1267 (hw _ (List.mem_of_getElem? (i := 5) rfl)) (hw _ (List.mem_of_getElem? (i := 6) rfl)) (hw _ (List.mem_of_getElem? (i := 3) rfl)) (hw _ (List.mem_of_getElem? (i := 7) rfl)) (by decide) (mt2 l Z a0 hw (0 : Int32) (4 : Int32) qm  h1265 ) pd__III_Z rfl (argsL := [(.int (0 : Int32)), (.int (4 : Int32)), (.int qm)]) (st := []) rfl rfl (W := 0) (Nat.le_of_eq rfl) (by decide) (by decide) (by decide) (by decide) (fun x q => nomatch q) at_178 (pc' := 181) rfl (pureG rfl rfl fun T1274 X1275 => ?_)
        by_cases c181_1276 : (f2 (0 : Int32) (4 : Int32) qm) = (0 : Int32)
        · refine gifY B X1275 (pc' := 221) at_181 ((if0 _ _).trans (teq c181_1276).1) (by decide) ?_
          refine giconst B X1275 at_221 (v := (0 : Int32)) rfl (pc' := 222) rfl ?_
          have e_J : (oE (4 : Int32) qm) = (0 : Int32) := by rw [oE, if_pos c181_1276]
          rw [e_J] at J
          exact J _ X1275
        · refine gifN B X1275 at_181 ((if0 _ _).trans (feq c181_1276).1) (pc' := 184) rfl ?_
          refine giconst B X1275 at_184 (v := (1 : Int32)) rfl (pc' := 185) rfl ?_
          refine giload B X1275 at_185 rfl (pc' := 187) rfl ?_
          refine giload B X1275 at_187 rfl (pc' := 189) rfl ?_
          refine gcallS B X1275 (hw _ (List.mem_of_getElem? (i := 5) rfl)) (hw _ (List.mem_of_getElem? (i := 6) rfl)) (hw _ (List.mem_of_getElem? (i := 3) rfl)) (hw _ (List.mem_of_getElem? (i := 7) rfl)) (by decide) (mt2 l Z a0 hw (1 : Int32) (4 : Int32) qm  h1265 ) pd__III_Z rfl (argsL := [(.int (1 : Int32)), (.int (4 : Int32)), (.int qm)]) (st := []) rfl rfl (W := 0) (Nat.le_of_eq rfl) (by decide) (by decide) (by decide) (by decide) (fun x q => nomatch q) at_189 (pc' := 192) rfl (pureG rfl rfl fun T1277 X1278 => ?_)
          by_cases c192_1279 : (f2 (1 : Int32) (4 : Int32) qm) = (0 : Int32)
          · refine gifY B X1278 (pc' := 221) at_192 ((if0 _ _).trans (teq c192_1279).1) (by decide) ?_
            refine giconst B X1278 at_221 (v := (0 : Int32)) rfl (pc' := 222) rfl ?_
            have e_J : (oE (4 : Int32) qm) = (0 : Int32) := by rw [oE, if_neg c181_1276, if_pos c192_1279]
            rw [e_J] at J
            exact J _ X1278
          · refine gifN B X1278 at_192 ((if0 _ _).trans (feq c192_1279).1) (pc' := 195) rfl ?_
            refine giconst B X1278 at_195 (v := (2 : Int32)) rfl (pc' := 196) rfl ?_
            refine giload B X1278 at_196 rfl (pc' := 198) rfl ?_
            refine giload B X1278 at_198 rfl (pc' := 200) rfl ?_
            refine gcallS B X1278 (hw _ (List.mem_of_getElem? (i := 5) rfl)) (hw _ (List.mem_of_getElem? (i := 6) rfl)) (hw _ (List.mem_of_getElem? (i := 3) rfl)) (hw _ (List.mem_of_getElem? (i := 7) rfl)) (by decide) (mt2 l Z a0 hw (2 : Int32) (4 : Int32) qm  h1265 ) pd__III_Z rfl (argsL := [(.int (2 : Int32)), (.int (4 : Int32)), (.int qm)]) (st := []) rfl rfl (W := 0) (Nat.le_of_eq rfl) (by decide) (by decide) (by decide) (by decide) (fun x q => nomatch q) at_200 (pc' := 203) rfl (pureG rfl rfl fun T1280 X1281 => ?_)
            by_cases c203_1282 : (f2 (2 : Int32) (4 : Int32) qm) = (0 : Int32)
            · refine gifY B X1281 (pc' := 221) at_203 ((if0 _ _).trans (teq c203_1282).1) (by decide) ?_
              refine giconst B X1281 at_221 (v := (0 : Int32)) rfl (pc' := 222) rfl ?_
              have e_J : (oE (4 : Int32) qm) = (0 : Int32) := by rw [oE, if_neg c181_1276, if_neg c192_1279, if_pos c203_1282]
              rw [e_J] at J
              exact J _ X1281
            · refine gifN B X1281 at_203 ((if0 _ _).trans (feq c203_1282).1) (pc' := 206) rfl ?_
              refine giconst B X1281 at_206 (v := (3 : Int32)) rfl (pc' := 207) rfl ?_
              refine giload B X1281 at_207 rfl (pc' := 209) rfl ?_
              refine giload B X1281 at_209 rfl (pc' := 211) rfl ?_
              refine gcallS B X1281 (hw _ (List.mem_of_getElem? (i := 5) rfl)) (hw _ (List.mem_of_getElem? (i := 6) rfl)) (hw _ (List.mem_of_getElem? (i := 3) rfl)) (hw _ (List.mem_of_getElem? (i := 7) rfl)) (by decide) (mt2 l Z a0 hw (3 : Int32) (4 : Int32) qm  h1265 ) pd__III_Z rfl (argsL := [(.int (3 : Int32)), (.int (4 : Int32)), (.int qm)]) (st := []) rfl rfl (W := 0) (Nat.le_of_eq rfl) (by decide) (by decide) (by decide) (by decide) (fun x q => nomatch q) at_211 (pc' := 214) rfl (pureG rfl rfl fun T1283 X1284 => ?_)
              by_cases c214_1285 : (f2 (3 : Int32) (4 : Int32) qm) = (0 : Int32)
              · refine gifY B X1284 (pc' := 221) at_214 ((if0 _ _).trans (teq c214_1285).1) (by decide) ?_
                refine giconst B X1284 at_221 (v := (0 : Int32)) rfl (pc' := 222) rfl ?_
                have e_J : (oE (4 : Int32) qm) = (0 : Int32) := by rw [oE, if_neg c181_1276, if_neg c192_1279, if_neg c203_1282, if_pos c214_1285]
                rw [e_J] at J
                exact J _ X1284
              · refine gifN B X1284 at_214 ((if0 _ _).trans (feq c214_1285).1) (pc' := 217) rfl ?_
                refine giconst B X1284 at_217 (v := (1 : Int32)) rfl (pc' := 218) rfl ?_
                refine ggoto B X1284 (pc' := 222) at_218 (by decide) ?_
                have e_J : (oE (4 : Int32) qm) = (1 : Int32) := by rw [oE, if_neg c181_1276, if_neg c192_1279, if_neg c203_1282, if_neg c214_1285]
                rw [e_J] at J
                exact J _ X1284
      intro T1286 X1287
      show Go p e below s _ _ _ _ _ T1286 (mkF m 222 #[.val (.long p0), .second, .val (.int p1), .val (.int p2), .val (.int p3), .val (.int (4 : Int32)), .val (.int (3 : Int32)), .val (.int qm), .val (.ref a1001), .val (.ref a1008), .unset] [(.int (oE (4 : Int32) qm))])
      refine gistore B X1287 at_222 (Ls' := #[.val (.long p0), .second, .val (.int p1), .val (.int p2), .val (.int p3), .val (.int (4 : Int32)), .val (.int (3 : Int32)), .val (.int qm), .val (.ref a1001), .val (.ref a1008), .val (.int (oE (4 : Int32) qm))]) rfl (pc' := 224) rfl ?_
      refine gaload B X1287 at_224 rfl rfl (pc' := 226) rfl ?_
      refine giload B X1287 at_226 rfl (pc' := 228) rfl ?_
      refine gaload B X1287 at_228 rfl rfl (pc' := 230) rfl ?_
      refine gcallS B X1287 (hw _ (List.mem_of_getElem? (i := 8) rfl)) (hw _ (List.mem_of_getElem? (i := 9) rfl)) (hw _ (List.mem_of_getElem? (i := 10) rfl)) (hw _ (List.mem_of_getElem? (i := 11) rfl)) (by decide) (mt3_4 l Z a0 hw a1008 (3 : Int32) a1001 [(.int b0), (.int b1), (.int b2), (.int (ox0 p1 p2 qm)), (.int (ox1 p1 p2 qm)), (.int (ox2 p1 p2 qm)), (.int (ox3 p1 p2 qm)), (.int b7)] (ox0 p1 p2 qm) (oc0 p1) (ox1 p1 p2 qm) (oc1 p1) (ox2 p1 p2 qm) (oc2 p1) (ox3 p1 p2 qm) (oc3 p1) h1265 A1272 rfl A1273 (by decide) rfl (by decide) rfl (by decide) rfl (by decide) rfl) pd___BI_B_Z rfl (argsL := [(.ref a1008), (.int (3 : Int32)), (.ref a1001)]) (st := []) rfl rfl (W := 0) (Nat.le_of_eq rfl) (by decide) (by decide) (by decide) (by decide) (fun x q => nomatch q) at_230 (pc' := 233) rfl (pureG rfl rfl fun T1288 X1289 => ?_)
      refine giload B X1289 at_233 rfl (pc' := 235) rfl ?_
      have c235_1290 : (f3_4 (ox0 p1 p2 qm) (oc0 p1) (ox1 p1 p2 qm) (oc1 p1) (ox2 p1 p2 qm) (oc2 p1) (ox3 p1 p2 qm) (oc3 p1)) = (oE (4 : Int32) qm) := own_fin4 p1 p2 qm
      refine gicN B X1289 at_235 (teq c235_1290).2 (pc' := 238) rfl ?_
      refine giconst B X1289 at_238 (v := (1 : Int32)) rfl (pc' := 239) rfl ?_
      refine ggoto B X1289 (pc' := 243) at_239 (by decide) ?_
      exact gretN B X1289 (z' := (1 : Int32)) (by simp) (rfl) at_243 (by decide) (by decide) (rfl)
set_option maxRecDepth 65536 in
set_option maxHeartbeats 4000000 in
theorem comes_1 {Post : Tables → Env → Array Value → State → Outcome → State → Prop} (hpost : ∀ tb e args s v u, (limb_1_1.after args s (.returned v) u = true ∧ limb_1_2.after args s (.returned v) u = true ∧ True) → FrameEnd s (.returned v) u (Jvm.fieldLocs frame_1_writes args s ++ Jvm.arrayLocs frame_1_arrays args s ++ Jvm.staticLocs frame_1_statics s) 16 128 → Post tb e args s (.returned v) u) :
    ArmFor flags0 classFile x code maxLocals ret World_1 tables_1 room_1 Calls_1 rest_1 Pre_1 Post := by
  intro l hfl _ _ p e ha hc hk s m args below hf hA hF happ hP
  obtain ⟨hcalls, hrest, hpre⟩ := hP
  obtain ⟨-, -, -, hnamed, -, -, -, hat⟩ := (Spec.applies_iff hf).mp happ
  obtain ⟨hg, hn⟩ := and_e (Cond.before_iff.mp (show (Jvm.Cond.and given_1 narrow_1).before args s = true from hpre))
  obtain ⟨g2, g3⟩ := and_e hg
  obtain ⟨g4, g5⟩ := and_e g3
  obtain ⟨g6, g7⟩ := and_e g5
  obtain ⟨g8, g9⟩ := and_e g7
  obtain ⟨w0, w1, w2, w3, rfl⟩ : ∃ w0 w1 w2 w3 : Value, args = #[w0, w1, w2, w3] := by
    have hs : args.size = 4 := by simpa [Cond.value, given_1] using g2
    obtain ⟨L⟩ := args
    match L, hs with
    | [w0, w1, w2, w3], _ => exact ⟨w0, w1, w2, w3, rfl⟩
  have hw := fun d (hd : d ∈ tables_1) => atoms_spec (ws := Jvm.Cond.code x code maxLocals ret :: tables_1) hat d (List.mem_cons_of_mem _ hd)
  obtain ⟨i0, ei0⟩ := isL_v g4
  obtain rfl : w0 = (.long i0) := Option.some.inj ei0
  obtain ⟨i1, ei1⟩ := is_v g6
  obtain rfl : w1 = (.int i1) := Option.some.inj ei1
  obtain ⟨i2, ei2⟩ := is_v g8
  obtain rfl : w2 = (.int i2) := Option.some.inj ei2
  obtain ⟨i3, ei3⟩ := is_v g9
  obtain rfl : w3 = (.int i3) := Option.some.inj ei3
  obtain ⟨n, o, h1, h2, h3, _, L, rfl, ⟨rfl, N, N2⟩, hq⟩ := mt0 l s _ hw i0 i1 i2 i3 s.heap tables_1 p e ha hc hk s m _ below hf ((Spec.applies_iff_loose hf).mp happ).1 ⟨rfl, State.Warmed39.refl s, rfl⟩ trivial
  refine ⟨n, _, h1, h2, h3, hpost _ _ _ _ _ _ ⟨Cond.after_iff.mpr rfl, Cond.after_iff.mpr (eq_i res_at (Term.int_eval (1)) rfl), trivial⟩ ⟨hq.1, hq.2.1, (hq.2.2.sift fun y hy => Or.inr ((N2 y hy).elim (fun z => nomatch z) id)).mono (by decide) (by decide)⟩⟩
theorem main_1_1 : Claimed_1_1 := comes_1 fun _ _ _ _ _ _ h hF => ⟨h.1, hF⟩
theorem main_1_2 : Claimed_1_2 := comes_1 fun _ _ _ _ _ _ h hF => ⟨h.2.1, hF⟩
end Jvm.Pilot.@@N@@
namespace Jvm.Pilot.@@N@@
open Jvm Jvm.ClassFile Sem Op Lib Jvm.Free Jvm.Stand Jvm.Pilot.@@N@@.Jvm.D
/-! MADE BY PROGRAM (witnessworld.py) out of the Statement's table words and the real class files: 9 classes; the members and pool entries that the words name. The judged class is class 1, her method 3. -/
namespace start1
open Jvm.ClassFile
def u (s : String) : CpInfo := .utf8 (stringToUtf16 s)
/-- a pool by its gaps: so many unusable entries, then the entry; so many at the end -/
def gap : Nat → List CpInfo → List CpInfo
  | 0, r => r
  | n + 1, r => .unusable :: gap n r
def poolList (es : List (Nat × CpInfo)) (last : Nat) : List CpInfo := es.foldr (fun e r => gap e.1 (e.2 :: r)) (gap last [])
def pool (es : List (Nat × CpInfo)) (last : Nat) : Array CpInfo := ⟨poolList es last⟩
def fileOf (pool : Array CpInfo) (this : Nat) (attrs : Array Attribute := #[]) (ms : Array MethodInfo := #[]) (fl : Nat := 33) (sup : Nat := 0) (ifs : Array Nat := #[]) (fds : Array FieldInfo := #[]) : ClassFile where
  minorVersion := 0
  majorVersion := 65
  constantPool := pool
  accessFlags := fl
  thisClass := this
  superClass := sup
  interfaces := ifs
  fields := fds
  methods := ms
  attributes := attrs
def plain (name : String) (sup : Option ClassId) : Class where
  name := name
  kind := .ordinary
  loader := none
  accessFlags := 33
  super := sup
  interfaces := #[]
  cf := none
  fields := #[]
  methods := #[]
  instanceTypes := #[]
  staticTypes := #[]
  resolved := #[]
  callSites := []
  init := .initialized
  statics := none
  mirror := none

def pool0 : Array CpInfo := pool [(5, u "<init>"), (0, u "()V"), (1, .class_ 10), (1, u "java/lang/Object")] 113

def k0m0 : Method := { name := "<init>", desc := "()V", sig := { parameters := [], returnType := none }, accessFlags := 1, code := none }
/-- java/lang/Object -/
def k0 : Class := { plain "java/lang/Object" none with
  accessFlags := 33
  interfaces := #[]
  cf := some (fileOf pool0 8 #[] #[{ accessFlags := 1, nameIndex := 5, descriptorIndex := 6, attributes := #[] }] 33 0 #[] #[])
  fields := #[]
  methods := #[k0m0]
  instanceTypes := #[]
  staticTypes := #[]
  resolved := Array.replicate 124 none
  statics := none }

def pool1 : Array CpInfo := pool [(2, .class_ 4), (1, u "java/lang/Object"), (0, u "<init>"), (0, u "()V"), (0, .methodref 8 9), (0, .class_ 10), (0, .nameAndType 11 12), (0, u "com/example/nabu/nabu/protocol/PlainFieldsStartsWithPinLaw"), (0, u "put"), (0, u "([B[BIIIII)V"), (0, .methodref 8 14), (0, .nameAndType 15 16), (0, u "ok"), (0, u "(III)Z"), (0, .methodref 18 19), (0, .class_ 20), (0, .nameAndType 21 22), (0, u "com/example/nabu/nabu/protocol/PlainFields"), (0, u "startsWith"), (0, u "([BI[B)Z"), (3, u "law"), (0, u "(JIII)Z")] 4

def k1m0 : Method := { name := "<init>", desc := "()V", sig := { parameters := [], returnType := none }, accessFlags := 2, code := none }
def k1c1 : Code := { maxStack := 4, maxLocals := 9, code := method_2_code, exceptionTable := #[], attributes := #[] }
def k1m1 : Method := { name := "put", desc := "([B[BIIIII)V", sig := { parameters := [(.array .byte), (.array .byte), .int, .int, .int, .int, .int], returnType := none }, accessFlags := 10, code := some k1c1 }
def k1c2 : Code := { maxStack := 2, maxLocals := 3, code := method_3_code, exceptionTable := #[], attributes := #[] }
def k1m2 : Method := { name := "ok", desc := "(III)Z", sig := { parameters := [.int, .int, .int], returnType := some .boolean }, accessFlags := 10, code := some k1c2 }
def k1c3 : Code := { maxStack := 7, maxLocals := 11, code := code, exceptionTable := #[], attributes := #[] }
def k1m3 : Method := { name := "law", desc := "(JIII)Z", sig := { parameters := [.long, .int, .int, .int], returnType := some .boolean }, accessFlags := 9, code := some k1c3 }
/-- com/example/nabu/nabu/protocol/PlainFieldsStartsWithPinLaw -/
def k1 : Class := { plain "com/example/nabu/nabu/protocol/PlainFieldsStartsWithPinLaw" (some 0) with
  accessFlags := 49
  interfaces := #[]
  cf := some (fileOf pool1 8 #[] #[{ accessFlags := 2, nameIndex := 5, descriptorIndex := 6, attributes := #[] }, { accessFlags := 10, nameIndex := 11, descriptorIndex := 12, attributes := #[] }, { accessFlags := 10, nameIndex := 15, descriptorIndex := 16, attributes := #[] }, { accessFlags := 9, nameIndex := 26, descriptorIndex := 27, attributes := #[] }] 49 2 #[] #[])
  fields := #[]
  methods := #[k1m0, k1m1, k1m2, k1m3]
  instanceTypes := #[]
  staticTypes := #[]
  resolved := Array.replicate 32 none
  statics := none }

def pool2 : Array CpInfo := pool [(2, .class_ 4), (1, u "java/lang/Object"), (0, u "<init>"), (0, u "()V"), (0, .class_ 8), (0, u "com/example/nabu/nabu/protocol/PlainFields"), (4, u "NONE"), (0, u "J"), (1, u "MAX_DIGITS"), (0, u "I"), (3, u "startsWith"), (0, u "([BI[B)Z")] 12

def k2m0 : Method := { name := "<init>", desc := "()V", sig := { parameters := [], returnType := none }, accessFlags := 2, code := none }
def k2c1 : Code := { maxStack := 3, maxLocals := 5, code := prog_49_method_2_code, exceptionTable := #[], attributes := #[] }
def k2m1 : Method := { name := "startsWith", desc := "([BI[B)Z", sig := { parameters := [(.array .byte), .int, (.array .byte)], returnType := some .boolean }, accessFlags := 8, code := some k2c1 }
/-- com/example/nabu/nabu/protocol/PlainFields -/
def k2 : Class := { plain "com/example/nabu/nabu/protocol/PlainFields" (some 0) with
  accessFlags := 48
  interfaces := #[]
  cf := some (fileOf pool2 7 #[] #[{ accessFlags := 2, nameIndex := 5, descriptorIndex := 6, attributes := #[] }, { accessFlags := 8, nameIndex := 21, descriptorIndex := 22, attributes := #[] }] 48 2 #[] #[{ accessFlags := 24, nameIndex := 13, descriptorIndex := 14, attributes := #[] }, { accessFlags := 26, nameIndex := 16, descriptorIndex := 17, attributes := #[] }])
  fields := #[{ name := "NONE", type := .long, accessFlags := 24, slot := 0, constantValue := 0 }, { name := "MAX_DIGITS", type := .int, accessFlags := 26, slot := 1, constantValue := 0 }]
  methods := #[k2m0, k2m1]
  instanceTypes := #[]
  staticTypes := #[.long, .int]
  resolved := Array.replicate 35 none
  statics := none }

def pool3 : Array CpInfo := pool [(1, u "java/lang/Cloneable"), (0, .class_ 1), (0, u "java/lang/Object"), (0, .class_ 3)] 3

/-- java/lang/Cloneable -/
def k3 : Class := { plain "java/lang/Cloneable" (some 0) with
  accessFlags := 1537
  interfaces := #[]
  cf := some (fileOf pool3 2 #[] #[] 1537 4 #[] #[])
  fields := #[]
  methods := #[]
  instanceTypes := #[]
  staticTypes := #[]
  resolved := Array.replicate 8 none
  statics := none }

def pool4 : Array CpInfo := pool [(1, u "java/io/Serializable"), (0, .class_ 1), (0, u "java/lang/Object"), (0, .class_ 3)] 3

/-- java/io/Serializable -/
def k4 : Class := { plain "java/io/Serializable" (some 0) with
  accessFlags := 1537
  interfaces := #[]
  cf := some (fileOf pool4 2 #[] #[] 1537 4 #[] #[])
  fields := #[]
  methods := #[]
  instanceTypes := #[]
  staticTypes := #[]
  resolved := Array.replicate 8 none
  statics := none }

/-- the primitive byte -/
def k5 : Class := { plain "byte" none with kind := .primitive 'B', accessFlags := 0x411 }
/-- [B -/
def k6 : Class := { plain "[B" (some 0) with kind := .array 5 .byte, interfaces := #[3, 4], accessFlags := 1041 }

/-- the primitive int -/
def k7 : Class := { plain "int" none with kind := .primitive 'I', accessFlags := 0x411 }
/-- [I -/
def k8 : Class := { plain "[I" (some 0) with kind := .array 7 .int, interfaces := #[3, 4], accessFlags := 1041 }

def heap : Heap := #[]
def classes : Array Class := #[k0, k1, k2, k3, k4, k5, k6, k7, k8]
def interned : List (Array UInt16 × Addr) := []
def slotsUsed : Nat := 0
def theMethod : MethodId := ⟨1, 3⟩
def args0 : Array Value := #[.long 5, .int 300, .int 77, .int 13]
def aboutOver (below : List Frame) : State where
  vm := { classes := classes, interned := interned.toArray }
  heap := heap
  slotsUsed := slotsUsed
  threads := #[{ frames := .invoking theMethod args0 :: below }]
def below0 : List Frame := [.native { method := ⟨0, 0⟩, args := #[] }]
def about1 : State := aboutOver below0
def p0 : Program := .bare "" "" ""
def e0 : Env := launch0.env 0 0 0
theorem w_frames : about1.frames = Frame.invoking theMethod args0 :: below0 := rfl
set_option maxRecDepth 65536 in
theorem w_args : argsFit about1.vm theMethod args0 = true := by decide +kernel
set_option maxRecDepth 65536 in
theorem w_heap : heapFits about1 = true := by decide +kernel
set_option maxRecDepth 65536 in
theorem w_runnable : about1.curStatus? = some .runnable := by decide +kernel
set_option maxRecDepth 65536 in
theorem w_alone : about1.alone = true := by decide +kernel
set_option maxRecDepth 65536 in
theorem w_named : about1.methodNamed? x = some theMethod := by decide +kernel
set_option maxRecDepth 65536 in
theorem w_hears : about1.hears theMethod below0 = true := by decide +kernel
set_option maxRecDepth 65536 in
theorem w_ripe : about1.ripe theMethod args0 below0 = true := by decide +kernel
theorem w_running : about1.status = .running := rfl
set_option maxRecDepth 65536 in
theorem w_room : about1.hasRoom e0.platform room_1 = true :=
  launch0.hasRoom_least _ room_1 (by decide +kernel) (by decide +kernel) (by decide +kernel) (by decide +kernel) (by decide +kernel) (by decide +kernel)
theorem allAtoms_all (ts : List Jvm.Cond) (a : Array Jvm.Value) (st : Jvm.State) : (allAtoms ts).before a st = ts.all (fun c => c.before a st) := by
  induction ts with
  | nil => rfl
  | cons c t ih =>
    show (Jvm.Cond.and c (allAtoms t)).before a st = _
    rw [Jvm.Cond.before_and, ih, List.all_cons]
def words1 : List Jvm.Cond := Jvm.Cond.code x code maxLocals ret :: tables_1
/-- a 'code' word, met by the world's own term for the bytes: nothing is compared byte by byte -/
theorem code_word {y : MethodName} {bytes : ByteArray} {mx : Nat} {rt : Option FieldType} {a : Array Value} {s : State} {m : MethodId} {meth : Method} {c : Code} (h1 : s.methodNamed? y = some m) (h2 : s.vm.method? m = some meth) (h3 : meth.code = some c) (h4 : c.code = bytes)
    (h5 : (c.maxLocals == mx && c.exceptionTable.isEmpty && decide (c.maxStack ≤ mostOperands) && decide (meth.sig.returnType = rt) && !meth.locks && decide (parseMethodDescriptor y.desc = some meth.sig)) = true) : (Jvm.Cond.code y bytes mx rt).before a s = true := by
  simp only [Bool.and_eq_true, beq_iff_eq, Bool.not_eq_true', decide_eq_true_eq] at h5
  obtain ⟨⟨⟨⟨⟨g1, g2⟩, g3⟩, g4⟩, g5⟩, g6⟩ := h5
  simp [Cond.before, Cond.holds, Cond.value, h1, h2, h3, h4, g1, g2, g3, g4, g5, g6]
def isCode : Jvm.Cond → Bool
  | .code _ _ _ _ => true
  | _ => false
theorem all_split {L : List Jvm.Cond} {P : Jvm.Cond → Bool} (h1 : L.all (fun c => isCode c || P c) = true) (h2 : ∀ c ∈ L.filter isCode, P c = true) : L.all P = true := by
  refine List.all_eq_true.mpr fun c hc => ?_
  have h := List.all_eq_true.mp h1 c hc
  rcases Bool.eq_false_or_eq_true (isCode c) with hi | hi
  · exact h2 c (List.mem_filter.mpr ⟨hc, hi⟩)
  · simpa [hi] using h
set_option maxRecDepth 65536 in
theorem w_c0 : (Jvm.Cond.code x code maxLocals ret).before args0 about1 = true := code_word (m := ⟨1, 3⟩) (meth := k1m3) (c := k1c3) (by decide +kernel) rfl rfl rfl (by decide +kernel)
set_option maxRecDepth 65536 in
theorem w_c1 : (Jvm.Cond.code ({ cls := "com/example/nabu/nabu/protocol/PlainFieldsStartsWithPinLaw", name := "put", desc := "([B[BIIIII)V" } : Jvm.MethodName) method_2_code (9 : Nat) (Option.none : Option Jvm.ClassFile.FieldType)).before args0 about1 = true := code_word (m := ⟨1, 1⟩) (meth := k1m1) (c := k1c1) (by decide +kernel) rfl rfl rfl (by decide +kernel)
set_option maxRecDepth 65536 in
theorem w_c2 : (Jvm.Cond.code ({ cls := "com/example/nabu/nabu/protocol/PlainFieldsStartsWithPinLaw", name := "ok", desc := "(III)Z" } : Jvm.MethodName) method_3_code (3 : Nat) (Option.some Jvm.ClassFile.FieldType.boolean)).before args0 about1 = true := code_word (m := ⟨1, 2⟩) (meth := k1m2) (c := k1c2) (by decide +kernel) rfl rfl rfl (by decide +kernel)
set_option maxRecDepth 65536 in
theorem w_c3 : (Jvm.Cond.code ({ cls := "com/example/nabu/nabu/protocol/PlainFields", name := "startsWith", desc := "([BI[B)Z" } : Jvm.MethodName) prog_49_method_2_code (5 : Nat) (Option.some Jvm.ClassFile.FieldType.boolean)).before args0 about1 = true := code_word (m := ⟨2, 1⟩) (meth := k2m1) (c := k2c1) (by decide +kernel) rfl rfl rfl (by decide +kernel)
def codes1 : List Jvm.Cond := [Jvm.Cond.code x code maxLocals ret, Jvm.Cond.code ({ cls := "com/example/nabu/nabu/protocol/PlainFieldsStartsWithPinLaw", name := "put", desc := "([B[BIIIII)V" } : Jvm.MethodName) method_2_code (9 : Nat) (Option.none : Option Jvm.ClassFile.FieldType), Jvm.Cond.code ({ cls := "com/example/nabu/nabu/protocol/PlainFieldsStartsWithPinLaw", name := "ok", desc := "(III)Z" } : Jvm.MethodName) method_3_code (3 : Nat) (Option.some Jvm.ClassFile.FieldType.boolean), Jvm.Cond.code ({ cls := "com/example/nabu/nabu/protocol/PlainFields", name := "startsWith", desc := "([BI[B)Z" } : Jvm.MethodName) prog_49_method_2_code (5 : Nat) (Option.some Jvm.ClassFile.FieldType.boolean)]
set_option maxRecDepth 65536 in
theorem codes_eq : words1.filter isCode = codes1 := rfl
theorem w_codes : ∀ c ∈ words1.filter isCode, c.before args0 about1 = true := by
  rw [codes_eq]
  intro c hc
  simp only [codes1, List.mem_cons, List.not_mem_nil, or_false] at hc
  rcases hc with rfl | rfl | rfl | rfl
  · exact w_c0
  · exact w_c1
  · exact w_c2
  · exact w_c3
set_option maxRecDepth 65536 in
theorem w_t1 : words1.all (fun c => isCode c || c.before args0 about1) = true := by decide +kernel
theorem w_tables : (allAtoms (Jvm.Cond.code x code maxLocals ret :: tables_1)).before args0 about1 = true := by
  rw [allAtoms_all]
  show words1.all (fun c => c.before args0 about1) = true
  refine all_split ?_ w_codes
  rw [w_t1]
set_option maxRecDepth 65536 in
theorem w_case : (Jvm.Cond.and given_1 narrow_1).before args0 about1 = true := by decide +kernel
theorem w_applies : (headSpec (Jvm.Cond.code x code maxLocals ret :: tables_1) room_1).applies x e0.platform about1 = true :=
  (Spec.applies_iff w_frames).mpr ⟨w_running, w_runnable, w_alone, w_named, w_hears, w_ripe, w_room, w_tables⟩
theorem atStart : AtStart classFile x code maxLocals ret World_1 tables_1 room_1 Calls_1 rest_1 Pre_1 launch0 p0 e0 about1 theMethod args0 below0 :=
  ⟨lists_1, trivial, launch0.admits_env _ _ _, launch0.least_env, fairChoices_fair.cas, fairChoices_fair.clock, w_frames, w_args, w_heap, w_applies, trivial, trivial, w_case⟩
end start1
theorem witness_1 : WitnessClaimed_1 := ⟨start1.p0, start1.e0, start1.about1, start1.theMethod, start1.args0, start1.below0, start1.atStart⟩
end Jvm.Pilot.@@N@@
