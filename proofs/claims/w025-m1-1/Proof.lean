import JvmDerived
import JvmDerived.Pilot.@@N@@Statement
import JvmDerived.Pilot.@@N@@Code
set_option linter.unusedVariables false
set_option linter.unusedSimpArgs false
namespace Jvm.RoadKit
open Sem ClassFile Op Lib Jvm.Stand Jvm.Free Jvm.LawKit
section New
variable {p : Program} {l : Launch} {e : Env} {R : Room} {s : State} {m : MethodId} {args : Array Value} {below : List Frame} {meth : Method} {c : Code} {T : State} {locs : List Loc} {cells slots : Nat}
theorem retI (X : Stand p l e R s m args below meth c T locs cells slots) (hx : p.tables.exec = Jvm.exec) {pc : Nat} {Ls : Array Slot} {z : Int32} {rest : List Value} (hret : meth.sig.returnType = some .int) (hd : decode c.code pc = .ok (.ireturn, 1)) {fs : List Frame}
    (hl : ∀ (f : JFrame) (acts : List Action), f.method = m → f.locked = none → f.entered = [] → (doReturn e (T.setTop f) acts (some (.int z))).1 = T.setFrames fs) : Steps p.tables e below (T.setTop (mkF m pc Ls (.int z :: rest))) (T.setFrames fs) := by
  have hm' : T.vm.method? m = some meth := X.method'
  have hn : narrow .int (.int z) = .int z := rfl
  show Steps p.tables e below (T.setTop { method := m, pc := pc, locals := Ls, stack := _ :: rest, locked := none }) _
  jvm_step X.here [X.here.top, hx, hd, hm', hret, hn]
  first | (intro acts; rw [hl _ acts rfl rfl rfl]) | rw [hl _ _ rfl rfl rfl]
  exact Steps.refl _
end New
end Jvm.RoadKit
namespace Jvm.Pilot.@@N@@
open Jvm Jvm.ClassFile Sem Op Lib Jvm.Free Jvm.Stand Jvm.LawKit Jvm.RoadKit Bundle Jvm.Pilot.@@N@@.Jvm.D
section Own
variable {p : Program} {l : Launch} {e : Env} {R : Room} {s : State} {m : MethodId} {args : Array Value} {below : List Frame} {meth : Method} {c : Code} {T : State} {locs : List Loc} {cells slots : Nat} {Z : State} {a0 : Array Value} {h h' : Heap}
/-- an array of n places, whose j-th holds f j -/
def own_AF (Z : State) (h : Heap) (a : Addr) (ty : FieldType) (n : Nat) (f : Nat → Value) : Prop := n < 2147483648 ∧ ∃ c : Cell, Arr Z h a c ty ∧ c.slots.size = n ∧ ∀ j, j < n → c.slots[j]? = some (f j)
/-- an array of ints, bytes, chars, booleans -/
def own_AI (Z : State) (h : Heap) (a : Addr) (ty : FieldType) (n : Nat) (f : Nat → Int32) : Prop := own_AF Z h a ty n (fun j => .int (f j))
def own_AL (Z : State) (h : Heap) (a : Addr) (n : Nat) (f : Nat → Int64) : Prop := own_AF Z h a .long n (fun j => .long (f j))
def own_upd {α : Type} (f : Nat → α) (i : Nat) (x : α) : Nat → α := fun j => if j = i then x else f j
theorem own_AF.lt {a : Addr} {ty : FieldType} {n : Nat} {f : Nat → Value} (F : own_AF Z h a ty n f) : a < h.size := by obtain ⟨_, c, A, -⟩ := F; exact A.lt
theorem own_AI.lt {a : Addr} {ty : FieldType} {n : Nat} {f : Nat → Int32} (F : own_AI Z h a ty n f) : a < h.size := own_AF.lt F
theorem own_AL.lt {a : Addr} {n : Nat} {f : Nat → Int64} (F : own_AL Z h a n f) : a < h.size := own_AF.lt F
theorem own_AF.keep {a : Addr} {ty : FieldType} {n : Nat} {f : Nat → Value} {ws : List Addr} (F : own_AF Z h a ty n f) (K : Keep h h' ws) (q : a ∉ ws) : own_AF Z h' a ty n f := by
  obtain ⟨b, c, A, r⟩ := F; exact ⟨b, c, ⟨K.2.1 a c A.1 q, A.2⟩, r⟩
theorem own_AI.keep {a : Addr} {ty : FieldType} {n : Nat} {f : Nat → Int32} {ws : List Addr} (F : own_AI Z h a ty n f) (K : Keep h h' ws) (q : a ∉ ws) : own_AI Z h' a ty n f := own_AF.keep F K q
theorem own_AL.keep {a : Addr} {n : Nat} {f : Nat → Int64} {ws : List Addr} (F : own_AL Z h a n f) (K : Keep h h' ws) (q : a ∉ ws) : own_AL Z h' a n f := own_AF.keep F K q
theorem own_AF.congr {a : Addr} {ty : FieldType} {n : Nat} {f g : Nat → Value} (F : own_AF Z h a ty n f) (q : ∀ j, j < n → f j = g j) : own_AF Z h a ty n g := by
  obtain ⟨b, c, A, s, r⟩ := F; exact ⟨b, c, A, s, fun j hj => by rw [r j hj, q j hj]⟩
theorem own_AI.congr {a : Addr} {ty : FieldType} {n : Nat} {f g : Nat → Int32} (F : own_AI Z h a ty n f) (q : ∀ j, j < n → f j = g j) : own_AI Z h a ty n g := own_AF.congr F fun j hj => by show Value.int (f j) = .int (g j); rw [q j hj]
theorem own_AF.wr {a : Addr} {ty : FieldType} {n i : Nat} {f : Nat → Value} {v : Value} (F : own_AF Z h a ty n f) (hi : i < n) (W : Wr h h' a i v) : own_AF Z h' a ty n (own_upd f i v) := by
  obtain ⟨b, c, A, s, r⟩ := F
  refine ⟨b, _, A.same W, by rw [sz_set]; exact s, fun j hj => ?_⟩
  simp only [Cell.setSlot, own_upd, Array.getElem?_setIfInBounds]
  by_cases q : i = j
  · subst q; simp [s, hi]
  · have q' : ¬ j = i := fun e => q e.symm
    simp [q, q', r j hj]
theorem own_AI.wr {a : Addr} {ty : FieldType} {n i : Nat} {f : Nat → Int32} {x : Int32} (F : own_AI Z h a ty n f) (hi : i < n) (W : Wr h h' a i (.int x)) : own_AI Z h' a ty n (own_upd f i x) :=
  (own_AF.wr F hi W).congr fun j hj => by simp only [own_upd]; split <;> rfl
theorem own_AL.wr {a : Addr} {n i : Nat} {f : Nat → Int64} {x : Int64} (F : own_AL Z h a n f) (hi : i < n) (W : Wr h h' a i (.long x)) : own_AL Z h' a n (own_upd f i x) :=
  (own_AF.wr F hi W).congr fun j hj => by simp only [own_upd]; split <;> rfl
theorem own_idx {j : Int32} {i : Nat} (hj : j.toInt = i) : ¬ j < 0 ∧ j.toNatClampNeg = i := by
  refine ⟨by rw [Int32.lt_iff_toInt_lt, Int32.toInt_zero]; omega, ?_⟩
  have := nat_of (j := j) (by rw [Int32.lt_iff_toInt_lt, Int32.toInt_zero]; omega)
  omega
theorem own_inb {j : Int32} {i n : Nat} {cl : Cell} (hj : j.toInt = i) (hi : i < n) (hs : cl.slots.size = n) : ¬ (j < 0 ∨ cl.slots.size ≤ j.toNatClampNeg) := by
  obtain ⟨h1, h2⟩ := own_idx hj
  rintro (q | q)
  · exact h1 q
  · rw [h2, hs] at q; omega
theorem own_ldF {a : Addr} {n i : Nat} {ty : FieldType} {f : Nat → Value} {j : Int32} {v : Value} (A : own_AF Z h a ty n f) (hj : j.toInt = i) (hi : i < n) (hv : f i = v) : ∃ cl : Cell, Arr Z h a cl ty ∧ ¬ (j < 0 ∨ cl.slots.size ≤ j.toNatClampNeg) ∧ cl.slots[j.toNatClampNeg]? = some v := by
  obtain ⟨b, cl, Ar, hs, hf⟩ := A
  exact ⟨cl, Ar, own_inb hj hi hs, by rw [(own_idx hj).2, hf i hi, hv]⟩
theorem own_ldI (X : Stand p l e R s m args below meth c T locs cells slots) (hx : p.tables.exec = Jvm.exec) (hZ : Z.Warmed39 s.vm) (eT : T.heap = h) {a : Addr} {n i : Nat} {f : Nat → Int32} {j x : Int32} (A : own_AI Z h a .int n f) (hj : j.toInt = i) (hi : i < n) (hv : f i = x) {g : JFrame} (hg : g.method = m) {rest : List Value} (hs : g.stack = .int j :: .ref a :: rest) (hd : decode c.code g.pc = .ok (.iaload, 1)) :
    ∀ target, Steps p.tables e below (T.setTop { g with pc := g.pc + 1, stack := .int x :: rest }) target → Steps p.tables e below (T.setTop g) target := by
  obtain ⟨cl, Ar, h1, h2⟩ := own_ldF A hj hi (by rw [hv])
  exact X.iaload hx (by rw [eT]; exact Ar.1) (State.isArrayOf_alike hZ.alike Ar.2.1) Ar.2.2 h1 h2 hg hs hd
theorem own_ldC (X : Stand p l e R s m args below meth c T locs cells slots) (hx : p.tables.exec = Jvm.exec) (hZ : Z.Warmed39 s.vm) (eT : T.heap = h) {a : Addr} {n i : Nat} {f : Nat → Int32} {j x : Int32} (A : own_AI Z h a .char n f) (hj : j.toInt = i) (hi : i < n) (hv : f i = x) {g : JFrame} (hg : g.method = m) {rest : List Value} (hs : g.stack = .int j :: .ref a :: rest) (hd : decode c.code g.pc = .ok (.caload, 1)) :
    ∀ target, Steps p.tables e below (T.setTop { g with pc := g.pc + 1, stack := .int x :: rest }) target → Steps p.tables e below (T.setTop g) target := by
  obtain ⟨cl, Ar, h1, h2⟩ := own_ldF A hj hi (by rw [hv])
  exact X.caload hx (by rw [eT]; exact Ar.1) (State.isArrayOf_alike hZ.alike Ar.2.1) Ar.2.2 h1 h2 hg hs hd
theorem own_ldB (X : Stand p l e R s m args below meth c T locs cells slots) (hx : p.tables.exec = Jvm.exec) (hZ : Z.Warmed39 s.vm) (eT : T.heap = h) {a : Addr} {n i : Nat} {f : Nat → Int32} {j x : Int32} (A : own_AI Z h a .byte n f) (hj : j.toInt = i) (hi : i < n) (hv : f i = x) {g : JFrame} (hg : g.method = m) {rest : List Value} (hs : g.stack = .int j :: .ref a :: rest) (hd : decode c.code g.pc = .ok (.baload, 1)) :
    ∀ target, Steps p.tables e below (T.setTop { g with pc := g.pc + 1, stack := .int x :: rest }) target → Steps p.tables e below (T.setTop g) target := by
  obtain ⟨cl, Ar, h1, h2⟩ := own_ldF A hj hi (by rw [hv])
  exact X.baloadBytes hx (by rw [eT]; exact Ar.1) (State.isArrayOf_alike hZ.alike Ar.2.1) Ar.2.2 h1 h2 hg hs hd
theorem own_ldZ (X : Stand p l e R s m args below meth c T locs cells slots) (hx : p.tables.exec = Jvm.exec) (hZ : Z.Warmed39 s.vm) (eT : T.heap = h) {a : Addr} {n i : Nat} {f : Nat → Int32} {j x : Int32} (A : own_AI Z h a .boolean n f) (hj : j.toInt = i) (hi : i < n) (hv : f i = x) {g : JFrame} (hg : g.method = m) {rest : List Value} (hs : g.stack = .int j :: .ref a :: rest) (hd : decode c.code g.pc = .ok (.baload, 1)) :
    ∀ target, Steps p.tables e below (T.setTop { g with pc := g.pc + 1, stack := .int x :: rest }) target → Steps p.tables e below (T.setTop g) target := by
  obtain ⟨cl, Ar, h1, h2⟩ := own_ldF A hj hi (by rw [hv])
  exact X.baloadBooleans hx (by rw [eT]; exact Ar.1) (State.isArrayOf_alike hZ.alike Ar.2.1) Ar.2.2 h1 h2 hg hs hd
theorem own_ldJ (X : Stand p l e R s m args below meth c T locs cells slots) (hx : p.tables.exec = Jvm.exec) (hZ : Z.Warmed39 s.vm) (eT : T.heap = h) {a : Addr} {n i : Nat} {f : Nat → Int64} {j : Int32} {x : Int64} (A : own_AL Z h a n f) (hj : j.toInt = i) (hi : i < n) (hv : f i = x) {g : JFrame} (hg : g.method = m) {rest : List Value} (hs : g.stack = .int j :: .ref a :: rest) (hd : decode c.code g.pc = .ok (.laload, 1)) :
    ∀ target, Steps p.tables e below (T.setTop { g with pc := g.pc + 1, stack := .long x :: rest }) target → Steps p.tables e below (T.setTop g) target := by
  obtain ⟨cl, Ar, h1, h2⟩ := own_ldF A hj hi (by rw [hv])
  exact X.laload hx (by rw [eT]; exact Ar.1) (State.isArrayOf_alike hZ.alike Ar.2.1) Ar.2.2 h1 h2 hg hs hd
theorem own_ldR (X : Stand p l e R s m args below meth c T locs cells slots) (hx : p.tables.exec = Jvm.exec) (hZ : Z.Warmed39 s.vm) (eT : T.heap = h) {a : Addr} {n i : Nat} {ty : FieldType} {f : Nat → Value} {j : Int32} {v : Value} (hty : ty.isReference = true) (A : own_AF Z h a ty n f) (hj : j.toInt = i) (hi : i < n) (hv : f i = v) {g : JFrame} (hg : g.method = m) {rest : List Value} (hs : g.stack = .int j :: .ref a :: rest) (hd : decode c.code g.pc = .ok (.aaload, 1)) :
    ∀ target, Steps p.tables e below (T.setTop { g with pc := g.pc + 1, stack := v :: rest }) target → Steps p.tables e below (T.setTop g) target := by
  obtain ⟨cl, Ar, h1, h2⟩ := own_ldF A hj hi hv
  exact X.aaload hx (by rw [eT]; exact Ar.1) (State.isArrayOf_alike hZ.alike Ar.2.1) hty Ar.2.2 h1 h2 hg hs hd
theorem own_len (X : Stand p l e R s m args below meth c T locs cells slots) (hx : p.tables.exec = Jvm.exec) (hZ : Z.Warmed39 s.vm) (eT : T.heap = h) {a : Addr} {n : Nat} {ty : FieldType} {f : Nat → Value} {z : Int32} (A : own_AF Z h a ty n f) (hz : z.toInt = n) {g : JFrame} (hg : g.method = m) {rest : List Value} (hs : g.stack = .ref a :: rest) (hd : decode c.code g.pc = .ok (.arraylength, 1)) :
    ∀ target, Steps p.tables e below (T.setTop { g with pc := g.pc + 1, stack := .int z :: rest }) target → Steps p.tables e below (T.setTop g) target := by
  obtain ⟨b, cl, Ar, hs', hf⟩ := A
  intro target k
  refine X.arraylength hx (by rw [eT]; exact Ar.1) (State.isArrayOf_alike hZ.alike Ar.2.1) hg hs hd target ?_
  have q : cl.slots.size.toInt32 = z := by
    apply Int32.toInt_inj.mp
    rw [hs', len_toInt (by omega), hz]
  rw [q]; exact k
theorem own_stI (X : Stand p l e R s m args below meth c T locs cells slots) (hx : p.tables.exec = Jvm.exec) (hZ : Z.Warmed39 s.vm) (eT : T.heap = h) {a : Addr} {n i : Nat} {f : Nat → Int32} {j x : Int32} (A : own_AI Z h a .int n f) (hj : j.toInt = i) (hi : i < n) {g : JFrame} (hg : g.method = m) {rest : List Value} (hs : g.stack = .int x :: .int j :: .ref a :: rest) (hd : decode c.code g.pc = .ok (.iastore, 1)) :
    ∃ T' h', Stand p l e R s m args below meth c T' (locs ++ [⟨a, i⟩]) cells slots ∧ T'.heap = h' ∧ Wr h h' a i (.int x) ∧ own_AI Z h' a .int n (own_upd f i x) ∧ ∀ target, Steps p.tables e below (T'.setTop { g with pc := g.pc + 1, stack := rest }) target → Steps p.tables e below (T.setTop g) target := by
  obtain ⟨cl, Ar, h1, -⟩ := own_ldF A hj hi rfl
  obtain ⟨T', h', X', e', W, st⟩ := stI X hx hZ eT Ar h1 hg hs hd
  rw [(own_idx hj).2] at X' W
  exact ⟨T', h', X', e', W, A.wr hi W, st⟩
theorem own_stB (X : Stand p l e R s m args below meth c T locs cells slots) (hx : p.tables.exec = Jvm.exec) (hZ : Z.Warmed39 s.vm) (eT : T.heap = h) {a : Addr} {n i : Nat} {f : Nat → Int32} {j x : Int32} (A : own_AI Z h a .byte n f) (hj : j.toInt = i) (hi : i < n) {g : JFrame} (hg : g.method = m) {rest : List Value} (hs : g.stack = .int x :: .int j :: .ref a :: rest) (hd : decode c.code g.pc = .ok (.bastore, 1)) :
    ∃ T' h', Stand p l e R s m args below meth c T' (locs ++ [⟨a, i⟩]) cells slots ∧ T'.heap = h' ∧ Wr h h' a i (.int (x.toInt8.toInt32)) ∧ own_AI Z h' a .byte n (own_upd f i (x.toInt8.toInt32)) ∧ ∀ target, Steps p.tables e below (T'.setTop { g with pc := g.pc + 1, stack := rest }) target → Steps p.tables e below (T.setTop g) target := by
  obtain ⟨cl, Ar, h1, -⟩ := own_ldF A hj hi rfl
  obtain ⟨T', h', X', e', W, st⟩ := stB X hx hZ eT Ar h1 hg hs hd
  rw [(own_idx hj).2] at X' W
  exact ⟨T', h', X', e', W, A.wr hi W, st⟩
theorem own_stZ (X : Stand p l e R s m args below meth c T locs cells slots) (hx : p.tables.exec = Jvm.exec) (hZ : Z.Warmed39 s.vm) (eT : T.heap = h) {a : Addr} {n i : Nat} {f : Nat → Int32} {j x : Int32} (A : own_AI Z h a .boolean n f) (hj : j.toInt = i) (hi : i < n) {g : JFrame} (hg : g.method = m) {rest : List Value} (hs : g.stack = .int x :: .int j :: .ref a :: rest) (hd : decode c.code g.pc = .ok (.bastore, 1)) :
    ∃ T' h', Stand p l e R s m args below meth c T' (locs ++ [⟨a, i⟩]) cells slots ∧ T'.heap = h' ∧ Wr h h' a i (.int (x &&& 1)) ∧ own_AI Z h' a .boolean n (own_upd f i (x &&& 1)) ∧ ∀ target, Steps p.tables e below (T'.setTop { g with pc := g.pc + 1, stack := rest }) target → Steps p.tables e below (T.setTop g) target := by
  obtain ⟨cl, Ar, h1, -⟩ := own_ldF A hj hi rfl
  obtain ⟨T', h', X', e', W, st⟩ := stZ X hx hZ eT Ar h1 hg hs hd
  rw [(own_idx hj).2] at X' W
  exact ⟨T', h', X', e', W, A.wr hi W, st⟩
theorem own_stC (X : Stand p l e R s m args below meth c T locs cells slots) (hx : p.tables.exec = Jvm.exec) (hZ : Z.Warmed39 s.vm) (eT : T.heap = h) {a : Addr} {n i : Nat} {f : Nat → Int32} {j x : Int32} (A : own_AI Z h a .char n f) (hj : j.toInt = i) (hi : i < n) {g : JFrame} (hg : g.method = m) {rest : List Value} (hs : g.stack = .int x :: .int j :: .ref a :: rest) (hd : decode c.code g.pc = .ok (.castore, 1)) :
    ∃ T' h', Stand p l e R s m args below meth c T' (locs ++ [⟨a, i⟩]) cells slots ∧ T'.heap = h' ∧ Wr h h' a i (.int (x.toUInt32.toUInt16.toUInt32.toInt32)) ∧ own_AI Z h' a .char n (own_upd f i (x.toUInt32.toUInt16.toUInt32.toInt32)) ∧ ∀ target, Steps p.tables e below (T'.setTop { g with pc := g.pc + 1, stack := rest }) target → Steps p.tables e below (T.setTop g) target := by
  obtain ⟨cl, Ar, h1, -⟩ := own_ldF A hj hi rfl
  obtain ⟨T', h', X', e', W, st⟩ := stC X hx hZ eT Ar h1 hg hs hd
  rw [(own_idx hj).2] at X' W
  exact ⟨T', h', X', e', W, A.wr hi W, st⟩
theorem own_stJ (X : Stand p l e R s m args below meth c T locs cells slots) (hx : p.tables.exec = Jvm.exec) (hZ : Z.Warmed39 s.vm) (eT : T.heap = h) {a : Addr} {n i : Nat} {f : Nat → Int64} {j : Int32} {x : Int64} (A : own_AL Z h a n f) (hj : j.toInt = i) (hi : i < n) {g : JFrame} (hg : g.method = m) {rest : List Value} (hs : g.stack = .long x :: .int j :: .ref a :: rest) (hd : decode c.code g.pc = .ok (.lastore, 1)) :
    ∃ T' h', Stand p l e R s m args below meth c T' (locs ++ [⟨a, i⟩]) cells slots ∧ T'.heap = h' ∧ Wr h h' a i (.long x) ∧ own_AL Z h' a n (own_upd f i x) ∧ ∀ target, Steps p.tables e below (T'.setTop { g with pc := g.pc + 1, stack := rest }) target → Steps p.tables e below (T.setTop g) target := by
  obtain ⟨cl, Ar, h1, -⟩ := own_ldF A hj hi rfl
  obtain ⟨T', h', X', e', W, st⟩ := stJ X hx hZ eT Ar h1 hg hs hd
  rw [(own_idx hj).2] at X' W
  exact ⟨T', h', X', e', W, A.wr hi W, st⟩
theorem own_newF {a : Addr} {cA : ClassId} {ty : FieldType} {n : Int32} {i : Nat} (hn : n.toInt = i) (A : Arr Z h a (newA cA ty n) ty) : own_AF Z h a ty i (fun _ => defaultValue ty) := by
  obtain ⟨h1, h2⟩ := own_idx hn
  have := n.toInt_lt
  refine ⟨by omega, _, A, by rw [sz_new, h2], fun j hj => ?_⟩
  simp [newA, h2, hj]
theorem own_newI {a : Addr} {cA : ClassId} {ty : FieldType} {n : Int32} {i : Nat} (hn : n.toInt = i) (A : Arr Z h a (newA cA ty n) ty) (hd : defaultValue ty = .int 0) : own_AI Z h a ty i (fun _ => 0) :=
  (own_newF hn A).congr fun _ _ => hd
theorem own_newL {a : Addr} {cA : ClassId} {n : Int32} {i : Nat} (hn : n.toInt = i) (A : Arr Z h a (newA cA .long n) .long) : own_AL Z h a i (fun _ => 0) :=
  (own_newF hn A).congr fun _ _ => rfl
theorem own_Sta.keep {C n d : String} {v : Value} {ws : List Addr} (F : Sta Z h C n d v) (K : Keep h h' ws) (q : ∀ x ∈ ws, ∀ cl : Cell, h[x]? = some cl → cl.vm.isStatics = false) : Sta Z h' C n d v := by
  obtain ⟨cf, i, k, f, st, cell, h1, h2, h3, h4, h5, h6, h7⟩ := F
  refine ⟨cf, i, k, f, st, cell, h1, h2, h3, h4, K.2.1 st cell h5 (fun q' => ?_), h6, h7⟩
  have := q st q' cell h5
  rw [h6] at this; cases this
theorem own_selP {args : Array Value} {C : String} {y y' : MethodName} (hcls : y'.cls = y.cls) (hs : (Jvm.Cond.selects C y' y').before args s = true) (hi' : (Jvm.Cond.instanceMethod y').before args s = true) (hp : (Jvm.Cond.privateMethod y).before args s = true) (hi : (Jvm.Cond.instanceMethod y).before args s = true) (hy : y.cls ≠ "java/lang/invoke/MethodHandle" ∧ y.cls ≠ "java/lang/invoke/VarHandle") : (Jvm.Cond.selects y.cls y y).before args s = true := by
  obtain ⟨mk, methM, hnamed, -⟩ := Cond.instanceMethod_spec hi'
  obtain ⟨kr, hk, hni⟩ := notFace_of_selects hs mk hnamed
  have hc := findClass_of_methodNamed hnamed
  rw [hcls] at hc
  exact selects_self_of_private hc hk hni (Cond.privateMethod_at hp) hi hy
end Own
/-- an array of n arrays of the kind C = ty[] (or nulls), whose j-th place holds f j -/
def own_AR (Z : State) (h : Heap) (a : Addr) (ty : FieldType) (C : String) (n : Nat) (f : Nat → Value) : Prop := n < 2147483648 ∧ ∃ c : Cell, Arr Z h a c (.array ty) ∧ c.slots.size = n ∧ (∀ j, j < n → c.slots[j]? = some (f j)) ∧ OvrA Z c.cls ty C
section OwnAR
variable {p : Program} {l : Launch} {e : Env} {R : Room} {s : State} {m : MethodId} {args : Array Value} {below : List Frame} {meth : Method} {c : Code} {T : State} {locs : List Loc} {cells slots : Nat} {Z : State} {a0 : Array Value} {h h' : Heap}
theorem own_AR.lt {a : Addr} {ty : FieldType} {C : String} {n : Nat} {f : Nat → Value} (F : own_AR Z h a ty C n f) : a < h.size := by obtain ⟨_, c, A, -⟩ := F; exact A.lt
theorem own_AR.keep {a : Addr} {ty : FieldType} {C : String} {n : Nat} {f : Nat → Value} {ws : List Addr} (F : own_AR Z h a ty C n f) (K : Keep h h' ws) (q : a ∉ ws) : own_AR Z h' a ty C n f := by
  obtain ⟨b, c, A, r⟩ := F; exact ⟨b, c, ⟨K.2.1 a c A.1 q, A.2⟩, r⟩
theorem own_AR.AF {a : Addr} {ty : FieldType} {C : String} {n : Nat} {f : Nat → Value} (F : own_AR Z h a ty C n f) : own_AF Z h a (.array ty) n f := by
  obtain ⟨b, c, A, r1, r2, -⟩ := F; exact ⟨b, c, A, r1, r2⟩
theorem own_AR.wr {a : Addr} {ty : FieldType} {C : String} {n i : Nat} {f : Nat → Value} {v : Value} (F : own_AR Z h a ty C n f) (hi : i < n) (W : Wr h h' a i v) : own_AR Z h' a ty C n (own_upd f i v) := by
  obtain ⟨b, c, A, s, r, O⟩ := F
  refine ⟨b, _, A.same W, by rw [sz_set]; exact s, fun j hj => ?_, O⟩
  simp only [Cell.setSlot, own_upd, Array.getElem?_setIfInBounds]
  by_cases q : i = j
  · subst q; simp [s, hi]
  · have q' : ¬ j = i := fun e => q e.symm
    simp [q, q', r j hj]
theorem own_newAR {a : Addr} {cA : ClassId} {ty : FieldType} {C : String} {n : Int32} {i : Nat} (hn : n.toInt = i) (A : Arr Z h a (newA cA (.array ty) n) (.array ty)) (O : OvrA Z cA ty C) : own_AR Z h a ty C i (fun _ => .null) := by
  obtain ⟨b, c, A', r1, r2⟩ := own_newF hn A
  cases A.1.symm.trans A'.1
  exact ⟨b, _, A, r1, r2, O⟩
theorem own_ldAR (X : Stand p l e R s m args below meth c T locs cells slots) (hx : p.tables.exec = Jvm.exec) (hZ : Z.Warmed39 s.vm) (eT : T.heap = h) {a : Addr} {ty : FieldType} {C : String} {n i : Nat} {f : Nat → Value} {j : Int32} {v : Value} (A : own_AR Z h a ty C n f) (hj : j.toInt = i) (hi : i < n) (hv : f i = v) {g : JFrame} (hg : g.method = m) {rest : List Value} (hs : g.stack = .int j :: .ref a :: rest) (hd : decode c.code g.pc = .ok (.aaload, 1)) :
    ∀ target, Steps p.tables e below (T.setTop { g with pc := g.pc + 1, stack := v :: rest }) target → Steps p.tables e below (T.setTop g) target := by
  obtain ⟨cl, Ar, h1, h2⟩ := own_ldF A.AF hj hi hv
  exact X.aaload hx (by rw [eT]; exact Ar.1) (State.isArrayOf_alike hZ.alike Ar.2.1) rfl Ar.2.2 h1 h2 hg hs hd
theorem own_stAR (X : Stand p l e R s m args below meth c T locs cells slots) (hx : p.tables.exec = Jvm.exec) (hZ : Z.Warmed39 s.vm) (eT : T.heap = h) {a : Addr} {ty : FieldType} {C : String} {n i : Nat} {f : Nat → Value} {j : Int32} {v : Value} (A : own_AR Z h a ty C n f) (hj : j.toInt = i) (hi : i < n) (hv : v = .null ∨ ∃ y, v = .ref y ∧ Exa Z h y C) {g : JFrame} (hg : g.method = m) {rest : List Value} (hs : g.stack = v :: .int j :: .ref a :: rest) (hd : decode c.code g.pc = .ok (.aastore, 1)) :
    ∃ T' h', Stand p l e R s m args below meth c T' (locs ++ [⟨a, i⟩]) cells slots ∧ T'.heap = h' ∧ Wr h h' a i v ∧ own_AR Z h' a ty C n (own_upd f i v) ∧ ∀ target, Steps p.tables e below (T'.setTop { g with pc := g.pc + 1, stack := rest }) target → Steps p.tables e below (T.setTop g) target := by
  obtain ⟨cl, Ar, h1, -⟩ := own_ldF A.AF hj hi rfl
  have S : Sto Z h a v := by
    rcases hv with rfl | ⟨y, rfl, E⟩
    · exact Or.inl rfl
    · obtain ⟨b, c', A', -, -, O⟩ := A
      exact Sto.ofVA A' rfl O (Ins.self E)
  obtain ⟨T', h', X', e', W, st⟩ := stR X hx hZ eT Ar h1 rfl S hg hs hd
  rw [(own_idx hj).2] at X' W
  exact ⟨T', h', X', e', W, A.wr hi W, st⟩
end OwnAR

theorem d1_0 : decode prog_23_method_1_code 0 = .ok (.aload_n 0, 1) := by decide +kernel
theorem d1_1 : decode prog_23_method_1_code 1 = .ok (.invokespecial 1, 3) := by decide +kernel
theorem d1_4 : decode prog_23_method_1_code 4 = .ok (.aload_n 0, 1) := by decide +kernel
theorem d1_5 : decode prog_23_method_1_code 5 = .ok (.bipush 64, 2) := by decide +kernel
theorem d1_7 : decode prog_23_method_1_code 7 = .ok (.anewarray 7, 3) := by decide +kernel
theorem d1_10 : decode prog_23_method_1_code 10 = .ok (.putfield 9, 3) := by decide +kernel
theorem d1_13 : decode prog_23_method_1_code 13 = .ok (.aload_n 0, 1) := by decide +kernel
theorem d1_14 : decode prog_23_method_1_code 14 = .ok (.bipush 64, 2) := by decide +kernel
theorem d1_16 : decode prog_23_method_1_code 16 = .ok (.anewarray 15, 3) := by decide +kernel
theorem d1_19 : decode prog_23_method_1_code 19 = .ok (.putfield 17, 3) := by decide +kernel
theorem d1_22 : decode prog_23_method_1_code 22 = .ok (.aload_n 0, 1) := by decide +kernel
theorem d1_23 : decode prog_23_method_1_code 23 = .ok (.bipush 64, 2) := by decide +kernel
theorem d1_25 : decode prog_23_method_1_code 25 = .ok (.newarray .int, 2) := by decide +kernel
theorem d1_27 : decode prog_23_method_1_code 27 = .ok (.putfield 21, 3) := by decide +kernel
theorem d1_30 : decode prog_23_method_1_code 30 = .ok (.aload_n 0, 1) := by decide +kernel
theorem d1_31 : decode prog_23_method_1_code 31 = .ok (.bipush 64, 2) := by decide +kernel
theorem d1_33 : decode prog_23_method_1_code 33 = .ok (.newarray .long, 2) := by decide +kernel
theorem d1_35 : decode prog_23_method_1_code 35 = .ok (.putfield 24, 3) := by decide +kernel
theorem d1_38 : decode prog_23_method_1_code 38 = .ok (.aload_n 0, 1) := by decide +kernel
theorem d1_39 : decode prog_23_method_1_code 39 = .ok (.bipush 16, 2) := by decide +kernel
theorem d1_41 : decode prog_23_method_1_code 41 = .ok (.newarray .int, 2) := by decide +kernel
theorem d1_43 : decode prog_23_method_1_code 43 = .ok (.putfield 27, 3) := by decide +kernel
theorem d1_46 : decode prog_23_method_1_code 46 = .ok (.aload_n 0, 1) := by decide +kernel
theorem d1_47 : decode prog_23_method_1_code 47 = .ok (.bipush 16, 2) := by decide +kernel
theorem d1_49 : decode prog_23_method_1_code 49 = .ok (.newarray .long, 2) := by decide +kernel
theorem d1_51 : decode prog_23_method_1_code 51 = .ok (.putfield 30, 3) := by decide +kernel
theorem d1_54 : decode prog_23_method_1_code 54 = .ok (.return_, 1) := by decide +kernel
theorem pn_1 : plainName "com/example/tablewise/tablewise/propagation/Trail" = true := by first | (simp [plainName, overriddenIn]; done) | decide +kernel
theorem ef_1 (m : MethodId) (x0 : Addr) : entryFrame m #[(.ref x0)] 1 = mkF m 0 #[.val (.ref x0)] [] := by first | (simp [entryFrame, mkF, argsToLocals, Value.category]; done) | rfl
def Q1 (Z : State) (a : Addr) (h0 : Heap) (n0 : Nat) (rv_ : Option Value) (h : Heap) (LL_ : List Loc) : Prop := rv_ = none ∧ Fr n0 LL_ ∧ Keep h0 h [a] ∧ Fld Z h a "com/example/tablewise/tablewise/propagation/Trail" "entries" "I" (.int (0 : Int32)) ∧ Fld Z h a "com/example/tablewise/tablewise/propagation/Trail" "level" "I" (.int (0 : Int32)) ∧ Fld Z h a "com/example/tablewise/tablewise/propagation/Trail" "stamp" "J" (.long (0 : Int64)) ∧ Fld Z h a "com/example/tablewise/tablewise/propagation/Trail" "lastStamp" "J" (.long (0 : Int64)) ∧ (∃ ia la si ov ls os : Addr, Fld Z h a "com/example/tablewise/tablewise/propagation/Trail" "intArrays" "[[I" (.ref ia) ∧ Fld Z h a "com/example/tablewise/tablewise/propagation/Trail" "longArrays" "[[J" (.ref la) ∧ Fld Z h a "com/example/tablewise/tablewise/propagation/Trail" "slotIndices" "[I" (.ref si) ∧ Fld Z h a "com/example/tablewise/tablewise/propagation/Trail" "oldValues" "[J" (.ref ov) ∧ Fld Z h a "com/example/tablewise/tablewise/propagation/Trail" "levelStarts" "[I" (.ref ls) ∧ Fld Z h a "com/example/tablewise/tablewise/propagation/Trail" "outerStamps" "[J" (.ref os) ∧ own_AR Z h ia .int "[I" 64 (fun _ => .null) ∧ own_AR Z h la .long "[J" 64 (fun _ => .null) ∧ own_AI Z h si .int 64 (fun _ => 0) ∧ own_AL Z h ov 64 (fun _ => 0) ∧ own_AI Z h ls .int 16 (fun _ => 0) ∧ own_AL Z h os 16 (fun _ => 0) ∧ n0 ≤ ia ∧ n0 ≤ la ∧ n0 ≤ si ∧ n0 ≤ ov ∧ n0 ≤ ls ∧ n0 ≤ os ∧ a ≠ ia ∧ a ≠ la ∧ a ≠ si ∧ a ≠ ov ∧ a ≠ ls ∧ a ≠ os ∧ ia ≠ la ∧ ia ≠ si ∧ ia ≠ ov ∧ ia ≠ ls ∧ ia ≠ os ∧ la ≠ si ∧ la ≠ ov ∧ la ≠ ls ∧ la ≠ os ∧ si ≠ ov ∧ si ≠ ls ∧ si ≠ os ∧ ov ≠ ls ∧ ov ≠ os ∧ ls ≠ os)
set_option maxRecDepth 65536 in
set_option maxHeartbeats 40000000 in
theorem rm1 (l : Launch) (Z : State) (a0 : Array Value) (hw : ∀ d ∈ tables_1, d.before a0 Z = true) (ws : List Jvm.Cond) (a : Addr) (h0 : Heap) (n0 : Nat) (Z0 : n0 ≤ h0.size) (E_a : Exa Z h0 a "com/example/tablewise/tablewise/propagation/Trail") (F_a_intArrays : Fld Z h0 a "com/example/tablewise/tablewise/propagation/Trail" "intArrays" "[[I" .null) (F_a_longArrays : Fld Z h0 a "com/example/tablewise/tablewise/propagation/Trail" "longArrays" "[[J" .null) (F_a_slotIndices : Fld Z h0 a "com/example/tablewise/tablewise/propagation/Trail" "slotIndices" "[I" .null) (F_a_oldValues : Fld Z h0 a "com/example/tablewise/tablewise/propagation/Trail" "oldValues" "[J" .null) (F_a_entries : Fld Z h0 a "com/example/tablewise/tablewise/propagation/Trail" "entries" "I" (.int (0 : Int32))) (F_a_levelStarts : Fld Z h0 a "com/example/tablewise/tablewise/propagation/Trail" "levelStarts" "[I" .null) (F_a_outerStamps : Fld Z h0 a "com/example/tablewise/tablewise/propagation/Trail" "outerStamps" "[J" .null) (F_a_level : Fld Z h0 a "com/example/tablewise/tablewise/propagation/Trail" "level" "I" (.int (0 : Int32))) (F_a_stamp : Fld Z h0 a "com/example/tablewise/tablewise/propagation/Trail" "stamp" "J" (.long (0 : Int64))) (F_a_lastStamp : Fld Z h0 a "com/example/tablewise/tablewise/propagation/Trail" "lastStamp" "J" (.long (0 : Int64))) (g_a : n0 ≤ a) :
    MetFree l (⟨"com/example/tablewise/tablewise/propagation/Trail", "<init>", "()V"⟩ : MethodName) (head1 (Jvm.Cond.code (⟨"com/example/tablewise/tablewise/propagation/Trail", "<init>", "()V"⟩ : MethodName) prog_23_method_1_code 1 none :: ws) ({ frames := 1, cells := 6, slots := 288, locals := 12 } : Room)) (fun aa UU => aa = #[(.ref a)] ∧ Z.Warmed39 UU.vm ∧ UU.heap = h0) (fun _ _ _ _ _ => True) (fun _ UU oo UV => ∃ vv LL, oo = .returned vv ∧ Q1 Z a h0 n0 vv UV.heap LL ∧ FrameEnd UU oo UV LL ({ frames := 1, cells := 6, slots := 288, locals := 12 } : Room).cells ({ frames := 1, cells := 6, slots := 288, locals := 12 } : Room).slots) := by
  refine MetFree.of_bodySF (plainFor_of_name pn_1) hisR ?_
  intro p e s m args below meth c s₁ Bd hml0 hP hK
  obtain ⟨rfl, hZ, hh⟩ := hP
  have hx := Bd.exec
  have hby := Bd.bytes
  have hml : c.maxLocals = 1 := hml0
  have hown : s.vm.findClass "com/example/tablewise/tablewise/propagation/Trail" = some m.cls := findClass_of_methodNamed Bd.named
  have hnm := (name_of_methodNamed Bd.named Bd.method).1
  have X0 : Stand p l e ({ frames := 1, cells := 6, slots := 288, locals := 12 } : Room) s m #[(.ref a)] below meth c s₁ [] 0 0 := Stand.of_body Bd
  have e0 : s₁.heap = h0 := by rw [← hh, Bd.state]; rfl
  have N0 := Fr.nil n0
  have k0 : ∀ tg_, Steps p.tables e below (s₁.setTop (mkF m 0 #[.val (.ref a)] [])) tg_ → Steps p.tables e below (s₁.setTop (entryFrame m #[(.ref a)] 1)) tg_ := fun tg_ k => castTop (ef_1 m a) k
  obtain ⟨T1, X1, e1, st1⟩ := initO X0 hx hZ hown (hw _ (List.mem_of_getElem? (i := 6) rfl)) (hw _ (List.mem_of_getElem? (i := 7) rfl)) (hw _ (List.mem_of_getElem? (i := 8) rfl)) e0 (g := (mkF m 1 #[.val (.ref a)] [(.ref a)])) rfl (by rw [hml]; rfl) rfl (hb hby d1_1) (by decide) (W := 0) (by show 2 * 0 + _ ≤ _; exact Nat.le_of_eq rfl) (by decide)
  obtain ⟨T2, h2, kA2, X2, e2, E2, A2, -, O2, st2⟩ := newRA X1 hx hZ (ty := .int) (C := "[I") hown (by decide) (hw _ (List.mem_of_getElem? (i := 9) rfl)) (hw _ (List.mem_of_getElem? (i := 10) rfl)) e1 (g := (mkF m 7 #[.val (.ref a)] [(.int (64 : Int32)), (.ref a)])) rfl (hb hby d1_7) rfl (by decide) (cap := 64) (by decide) (by decide) (by decide) (by decide) (ad := "[[I") (by decide)
  obtain ⟨b2, g2⟩ : ∃ z, z = h0.size := ⟨_, rfl⟩
  rw [← g2] at A2 st2
  have ne_a_b2 : a ≠ b2 := Nat.ne_of_lt (Nat.lt_of_lt_of_le (E_a).lt (Nat.le_of_eq g2.symm))
  have ge_b2 : n0 ≤ b2 := Nat.le_trans Z0 (Nat.le_of_eq g2.symm)
  have sz_b2 : h0.size ≤ b2 := Nat.le_trans (Keep.refl h0 [a]).1 (Nat.le_of_eq g2.symm)
  have V2 : own_AR Z h2 b2 .int "[I" 64 (fun _ => .null) := own_newAR (by decide : (64 : Int32).toInt = ((64 : Nat) : Int)) A2 O2
  have f3 := (F_a_intArrays.keep ((Keep.refl _ []).ext E2) nin0)
  have f4 := (E_a.keep ((Keep.refl _ []).ext E2))
  obtain ⟨T5, h5, X5, e5, W5, st5⟩ := putF X2 hx hZ hown (host := "") (Or.inl (hw _ (List.mem_of_getElem? (i := 11) rfl))) Via.refl e2 f3 f4 (Or.inl (hw _ (List.mem_of_getElem? (i := 12) rfl))) (hw _ (List.mem_of_getElem? (i := 1) rfl)) (ty := (.array (.array .int))) (by decide) rfl rfl (g := (mkF m 10 #[.val (.ref a)] [(.ref b2), (.ref a)])) rfl rfl (hb hby d1_10)
  have N5 := Fr.snoc X5 N0 g_a
  have F5 := Fld.same W5 f3
  obtain ⟨T6, h6, kA6, X6, e6, E6, A6, -, O6, st6⟩ := newRA X5 hx hZ (ty := .long) (C := "[J") hown (by decide) (hw _ (List.mem_of_getElem? (i := 13) rfl)) (hw _ (List.mem_of_getElem? (i := 14) rfl)) e5 (g := (mkF m 16 #[.val (.ref a)] [(.int (64 : Int32)), (.ref a)])) rfl (hb hby d1_16) rfl (by decide) (cap := 64) (by decide) (by decide) (by decide) (by decide) (ad := "[[J") (by decide)
  obtain ⟨b6, g6⟩ : ∃ z, z = h5.size := ⟨_, rfl⟩
  rw [← g6] at A6 st6
  have f7 := (f4.keep (Keep.of_wr W5))
  have ne_a_b6 : a ≠ b6 := Nat.ne_of_lt (Nat.lt_of_lt_of_le (f7).lt (Nat.le_of_eq g6.symm))
  have f8 := (V2.keep (Keep.of_wr W5) (ninS (Ne.symm ne_a_b2) nin0))
  have ne_b2_b6 : b2 ≠ b6 := Nat.ne_of_lt (Nat.lt_of_lt_of_le (f8).lt (Nat.le_of_eq g6.symm))
  have f9 := (Nat.le_trans (Nat.le_trans Z0 ((Keep.refl _ []).ext E2).1) (Keep.of_wr W5).1)
  have ge_b6 : n0 ≤ b6 := Nat.le_trans f9 (Nat.le_of_eq g6.symm)
  have f10 := (((Keep.refl h0 [a]).trans ((Keep.refl _ []).ext E2) all0).trans (Keep.of_wr W5) (allS (Or.inl (List.mem_of_getElem? (i := 0) rfl)) all0))
  have sz_b6 : h0.size ≤ b6 := Nat.le_trans f10.1 (Nat.le_of_eq g6.symm)
  have V6 : own_AR Z h6 b6 .long "[J" 64 (fun _ => .null) := own_newAR (by decide : (64 : Int32).toInt = ((64 : Nat) : Int)) A6 O6
  have f11 := ((Fld.other W5 (F_a_longArrays.keep ((Keep.refl _ []).ext E2) nin0) (Or.inr (slot_ne (Or.inl (hw _ (List.mem_of_getElem? (i := 16) rfl))) (Or.inl (hw _ (List.mem_of_getElem? (i := 12) rfl))) (by decide) (t := (.array (.array .long))) (t' := (.array (.array .int))) (by decide) (by decide)))).keep ((Keep.refl _ []).ext E6) nin0)
  have f12 := (f7.keep ((Keep.refl _ []).ext E6))
  obtain ⟨T13, h13, X13, e13, W13, st13⟩ := putF X6 hx hZ hown (host := "") (Or.inl (hw _ (List.mem_of_getElem? (i := 15) rfl))) Via.refl e6 f11 f12 (Or.inl (hw _ (List.mem_of_getElem? (i := 16) rfl))) (hw _ (List.mem_of_getElem? (i := 1) rfl)) (ty := (.array (.array .long))) (by decide) rfl rfl (g := (mkF m 19 #[.val (.ref a)] [(.ref b6), (.ref a)])) rfl rfl (hb hby d1_19)
  have N13 := Fr.snoc X13 N5 g_a
  have F13 := Fld.same W13 f11
  obtain ⟨T14, h14, kA14, X14, e14, E14, A14, st14⟩ := newP X13 hx hZ (hw _ (List.mem_of_getElem? (i := 17) rfl)) e13 (g := (mkF m 25 #[.val (.ref a)] [(.int (64 : Int32)), (.ref a)])) rfl (hb hby d1_25) rfl (by decide) (cap := 64) (by decide) (by decide) (by decide) (by decide)
  obtain ⟨b14, g14⟩ : ∃ z, z = h13.size := ⟨_, rfl⟩
  rw [← g14] at A14 st14
  have f15 := (f12.keep (Keep.of_wr W13))
  have ne_a_b14 : a ≠ b14 := Nat.ne_of_lt (Nat.lt_of_lt_of_le (f15).lt (Nat.le_of_eq g14.symm))
  have f16 := ((f8.keep ((Keep.refl _ []).ext E6) nin0).keep (Keep.of_wr W13) (ninS (Ne.symm ne_a_b2) nin0))
  have ne_b2_b14 : b2 ≠ b14 := Nat.ne_of_lt (Nat.lt_of_lt_of_le (f16).lt (Nat.le_of_eq g14.symm))
  have f17 := (V6.keep (Keep.of_wr W13) (ninS (Ne.symm ne_a_b6) nin0))
  have ne_b6_b14 : b6 ≠ b14 := Nat.ne_of_lt (Nat.lt_of_lt_of_le (f17).lt (Nat.le_of_eq g14.symm))
  have f18 := (Nat.le_trans (Nat.le_trans f9 ((Keep.refl _ []).ext E6).1) (Keep.of_wr W13).1)
  have ge_b14 : n0 ≤ b14 := Nat.le_trans f18 (Nat.le_of_eq g14.symm)
  have f19 := ((f10.trans ((Keep.refl _ []).ext E6) all0).trans (Keep.of_wr W13) (allS (Or.inl (List.mem_of_getElem? (i := 0) rfl)) all0))
  have sz_b14 : h0.size ≤ b14 := Nat.le_trans f19.1 (Nat.le_of_eq g14.symm)
  have V14 : own_AI Z h14 b14 .int 64 (fun _ => 0) := own_newI (by decide : (64 : Int32).toInt = ((64 : Nat) : Int)) A14 rfl
  have f20 := ((Fld.other W13 ((Fld.other W5 (F_a_slotIndices.keep ((Keep.refl _ []).ext E2) nin0) (Or.inr (slot_ne (Or.inl (hw _ (List.mem_of_getElem? (i := 19) rfl))) (Or.inl (hw _ (List.mem_of_getElem? (i := 12) rfl))) (by decide) (t := (.array .int)) (t' := (.array (.array .int))) (by decide) (by decide)))).keep ((Keep.refl _ []).ext E6) nin0) (Or.inr (slot_ne (Or.inl (hw _ (List.mem_of_getElem? (i := 19) rfl))) (Or.inl (hw _ (List.mem_of_getElem? (i := 16) rfl))) (by decide) (t := (.array .int)) (t' := (.array (.array .long))) (by decide) (by decide)))).keep ((Keep.refl _ []).ext E14) nin0)
  have f21 := (f15.keep ((Keep.refl _ []).ext E14))
  obtain ⟨T22, h22, X22, e22, W22, st22⟩ := putF X14 hx hZ hown (host := "") (Or.inl (hw _ (List.mem_of_getElem? (i := 18) rfl))) Via.refl e14 f20 f21 (Or.inl (hw _ (List.mem_of_getElem? (i := 19) rfl))) (hw _ (List.mem_of_getElem? (i := 1) rfl)) (ty := (.array .int)) (by decide) rfl rfl (g := (mkF m 27 #[.val (.ref a)] [(.ref b14), (.ref a)])) rfl rfl (hb hby d1_27)
  have N22 := Fr.snoc X22 N13 g_a
  have F22 := Fld.same W22 f20
  obtain ⟨T23, h23, kA23, X23, e23, E23, A23, st23⟩ := newP X22 hx hZ (hw _ (List.mem_of_getElem? (i := 20) rfl)) e22 (g := (mkF m 33 #[.val (.ref a)] [(.int (64 : Int32)), (.ref a)])) rfl (hb hby d1_33) rfl (by decide) (cap := 64) (by decide) (by decide) (by decide) (by decide)
  obtain ⟨b23, g23⟩ : ∃ z, z = h22.size := ⟨_, rfl⟩
  rw [← g23] at A23 st23
  have f24 := (f21.keep (Keep.of_wr W22))
  have ne_a_b23 : a ≠ b23 := Nat.ne_of_lt (Nat.lt_of_lt_of_le (f24).lt (Nat.le_of_eq g23.symm))
  have f25 := ((f16.keep ((Keep.refl _ []).ext E14) nin0).keep (Keep.of_wr W22) (ninS (Ne.symm ne_a_b2) nin0))
  have ne_b2_b23 : b2 ≠ b23 := Nat.ne_of_lt (Nat.lt_of_lt_of_le (f25).lt (Nat.le_of_eq g23.symm))
  have f26 := ((f17.keep ((Keep.refl _ []).ext E14) nin0).keep (Keep.of_wr W22) (ninS (Ne.symm ne_a_b6) nin0))
  have ne_b6_b23 : b6 ≠ b23 := Nat.ne_of_lt (Nat.lt_of_lt_of_le (f26).lt (Nat.le_of_eq g23.symm))
  have f27 := (V14.keep (Keep.of_wr W22) (ninS (Ne.symm ne_a_b14) nin0))
  have ne_b14_b23 : b14 ≠ b23 := Nat.ne_of_lt (Nat.lt_of_lt_of_le (f27).lt (Nat.le_of_eq g23.symm))
  have f28 := (Nat.le_trans (Nat.le_trans f18 ((Keep.refl _ []).ext E14).1) (Keep.of_wr W22).1)
  have ge_b23 : n0 ≤ b23 := Nat.le_trans f28 (Nat.le_of_eq g23.symm)
  have f29 := ((f19.trans ((Keep.refl _ []).ext E14) all0).trans (Keep.of_wr W22) (allS (Or.inl (List.mem_of_getElem? (i := 0) rfl)) all0))
  have sz_b23 : h0.size ≤ b23 := Nat.le_trans f29.1 (Nat.le_of_eq g23.symm)
  have V23 : own_AL Z h23 b23 64 (fun _ => 0) := own_newL (by decide : (64 : Int32).toInt = ((64 : Nat) : Int)) A23
  have f30 := ((Fld.other W22 ((Fld.other W13 ((Fld.other W5 (F_a_oldValues.keep ((Keep.refl _ []).ext E2) nin0) (Or.inr (slot_ne (Or.inl (hw _ (List.mem_of_getElem? (i := 22) rfl))) (Or.inl (hw _ (List.mem_of_getElem? (i := 12) rfl))) (by decide) (t := (.array .long)) (t' := (.array (.array .int))) (by decide) (by decide)))).keep ((Keep.refl _ []).ext E6) nin0) (Or.inr (slot_ne (Or.inl (hw _ (List.mem_of_getElem? (i := 22) rfl))) (Or.inl (hw _ (List.mem_of_getElem? (i := 16) rfl))) (by decide) (t := (.array .long)) (t' := (.array (.array .long))) (by decide) (by decide)))).keep ((Keep.refl _ []).ext E14) nin0) (Or.inr (slot_ne (Or.inl (hw _ (List.mem_of_getElem? (i := 22) rfl))) (Or.inl (hw _ (List.mem_of_getElem? (i := 19) rfl))) (by decide) (t := (.array .long)) (t' := (.array .int)) (by decide) (by decide)))).keep ((Keep.refl _ []).ext E23) nin0)
  have f31 := (f24.keep ((Keep.refl _ []).ext E23))
  obtain ⟨T32, h32, X32, e32, W32, st32⟩ := putF X23 hx hZ hown (host := "") (Or.inl (hw _ (List.mem_of_getElem? (i := 21) rfl))) Via.refl e23 f30 f31 (Or.inl (hw _ (List.mem_of_getElem? (i := 22) rfl))) (hw _ (List.mem_of_getElem? (i := 1) rfl)) (ty := (.array .long)) (by decide) rfl rfl (g := (mkF m 35 #[.val (.ref a)] [(.ref b23), (.ref a)])) rfl rfl (hb hby d1_35)
  have N32 := Fr.snoc X32 N22 g_a
  have F32 := Fld.same W32 f30
  obtain ⟨T33, h33, kA33, X33, e33, E33, A33, st33⟩ := newP X32 hx hZ (hw _ (List.mem_of_getElem? (i := 17) rfl)) e32 (g := (mkF m 41 #[.val (.ref a)] [(.int (16 : Int32)), (.ref a)])) rfl (hb hby d1_41) rfl (by decide) (cap := 16) (by decide) (by decide) (by decide) (by decide)
  obtain ⟨b33, g33⟩ : ∃ z, z = h32.size := ⟨_, rfl⟩
  rw [← g33] at A33 st33
  have f34 := (f31.keep (Keep.of_wr W32))
  have ne_a_b33 : a ≠ b33 := Nat.ne_of_lt (Nat.lt_of_lt_of_le (f34).lt (Nat.le_of_eq g33.symm))
  have f35 := ((f25.keep ((Keep.refl _ []).ext E23) nin0).keep (Keep.of_wr W32) (ninS (Ne.symm ne_a_b2) nin0))
  have ne_b2_b33 : b2 ≠ b33 := Nat.ne_of_lt (Nat.lt_of_lt_of_le (f35).lt (Nat.le_of_eq g33.symm))
  have f36 := ((f26.keep ((Keep.refl _ []).ext E23) nin0).keep (Keep.of_wr W32) (ninS (Ne.symm ne_a_b6) nin0))
  have ne_b6_b33 : b6 ≠ b33 := Nat.ne_of_lt (Nat.lt_of_lt_of_le (f36).lt (Nat.le_of_eq g33.symm))
  have f37 := ((f27.keep ((Keep.refl _ []).ext E23) nin0).keep (Keep.of_wr W32) (ninS (Ne.symm ne_a_b14) nin0))
  have ne_b14_b33 : b14 ≠ b33 := Nat.ne_of_lt (Nat.lt_of_lt_of_le (f37).lt (Nat.le_of_eq g33.symm))
  have f38 := (V23.keep (Keep.of_wr W32) (ninS (Ne.symm ne_a_b23) nin0))
  have ne_b23_b33 : b23 ≠ b33 := Nat.ne_of_lt (Nat.lt_of_lt_of_le (f38).lt (Nat.le_of_eq g33.symm))
  have f39 := (Nat.le_trans (Nat.le_trans f28 ((Keep.refl _ []).ext E23).1) (Keep.of_wr W32).1)
  have ge_b33 : n0 ≤ b33 := Nat.le_trans f39 (Nat.le_of_eq g33.symm)
  have f40 := ((f29.trans ((Keep.refl _ []).ext E23) all0).trans (Keep.of_wr W32) (allS (Or.inl (List.mem_of_getElem? (i := 0) rfl)) all0))
  have sz_b33 : h0.size ≤ b33 := Nat.le_trans f40.1 (Nat.le_of_eq g33.symm)
  have V33 : own_AI Z h33 b33 .int 16 (fun _ => 0) := own_newI (by decide : (16 : Int32).toInt = ((16 : Nat) : Int)) A33 rfl
  have f41 := ((Fld.other W32 ((Fld.other W22 ((Fld.other W13 ((Fld.other W5 (F_a_levelStarts.keep ((Keep.refl _ []).ext E2) nin0) (Or.inr (slot_ne (Or.inl (hw _ (List.mem_of_getElem? (i := 24) rfl))) (Or.inl (hw _ (List.mem_of_getElem? (i := 12) rfl))) (by decide) (t := (.array .int)) (t' := (.array (.array .int))) (by decide) (by decide)))).keep ((Keep.refl _ []).ext E6) nin0) (Or.inr (slot_ne (Or.inl (hw _ (List.mem_of_getElem? (i := 24) rfl))) (Or.inl (hw _ (List.mem_of_getElem? (i := 16) rfl))) (by decide) (t := (.array .int)) (t' := (.array (.array .long))) (by decide) (by decide)))).keep ((Keep.refl _ []).ext E14) nin0) (Or.inr (slot_ne (Or.inl (hw _ (List.mem_of_getElem? (i := 24) rfl))) (Or.inl (hw _ (List.mem_of_getElem? (i := 19) rfl))) (by decide) (t := (.array .int)) (t' := (.array .int)) (by decide) (by decide)))).keep ((Keep.refl _ []).ext E23) nin0) (Or.inr (slot_ne (Or.inl (hw _ (List.mem_of_getElem? (i := 24) rfl))) (Or.inl (hw _ (List.mem_of_getElem? (i := 22) rfl))) (by decide) (t := (.array .int)) (t' := (.array .long)) (by decide) (by decide)))).keep ((Keep.refl _ []).ext E33) nin0)
  have f42 := (f34.keep ((Keep.refl _ []).ext E33))
  obtain ⟨T43, h43, X43, e43, W43, st43⟩ := putF X33 hx hZ hown (host := "") (Or.inl (hw _ (List.mem_of_getElem? (i := 23) rfl))) Via.refl e33 f41 f42 (Or.inl (hw _ (List.mem_of_getElem? (i := 24) rfl))) (hw _ (List.mem_of_getElem? (i := 1) rfl)) (ty := (.array .int)) (by decide) rfl rfl (g := (mkF m 43 #[.val (.ref a)] [(.ref b33), (.ref a)])) rfl rfl (hb hby d1_43)
  have N43 := Fr.snoc X43 N32 g_a
  have F43 := Fld.same W43 f41
  obtain ⟨T44, h44, kA44, X44, e44, E44, A44, st44⟩ := newP X43 hx hZ (hw _ (List.mem_of_getElem? (i := 20) rfl)) e43 (g := (mkF m 49 #[.val (.ref a)] [(.int (16 : Int32)), (.ref a)])) rfl (hb hby d1_49) rfl (by decide) (cap := 16) (by decide) (by decide) (by decide) (by decide)
  obtain ⟨b44, g44⟩ : ∃ z, z = h43.size := ⟨_, rfl⟩
  rw [← g44] at A44 st44
  have f45 := (f42.keep (Keep.of_wr W43))
  have ne_a_b44 : a ≠ b44 := Nat.ne_of_lt (Nat.lt_of_lt_of_le (f45).lt (Nat.le_of_eq g44.symm))
  have f46 := ((f35.keep ((Keep.refl _ []).ext E33) nin0).keep (Keep.of_wr W43) (ninS (Ne.symm ne_a_b2) nin0))
  have ne_b2_b44 : b2 ≠ b44 := Nat.ne_of_lt (Nat.lt_of_lt_of_le (f46).lt (Nat.le_of_eq g44.symm))
  have f47 := ((f36.keep ((Keep.refl _ []).ext E33) nin0).keep (Keep.of_wr W43) (ninS (Ne.symm ne_a_b6) nin0))
  have ne_b6_b44 : b6 ≠ b44 := Nat.ne_of_lt (Nat.lt_of_lt_of_le (f47).lt (Nat.le_of_eq g44.symm))
  have f48 := ((f37.keep ((Keep.refl _ []).ext E33) nin0).keep (Keep.of_wr W43) (ninS (Ne.symm ne_a_b14) nin0))
  have ne_b14_b44 : b14 ≠ b44 := Nat.ne_of_lt (Nat.lt_of_lt_of_le (f48).lt (Nat.le_of_eq g44.symm))
  have f49 := ((f38.keep ((Keep.refl _ []).ext E33) nin0).keep (Keep.of_wr W43) (ninS (Ne.symm ne_a_b23) nin0))
  have ne_b23_b44 : b23 ≠ b44 := Nat.ne_of_lt (Nat.lt_of_lt_of_le (f49).lt (Nat.le_of_eq g44.symm))
  have f50 := (V33.keep (Keep.of_wr W43) (ninS (Ne.symm ne_a_b33) nin0))
  have ne_b33_b44 : b33 ≠ b44 := Nat.ne_of_lt (Nat.lt_of_lt_of_le (f50).lt (Nat.le_of_eq g44.symm))
  have f51 := (Nat.le_trans (Nat.le_trans f39 ((Keep.refl _ []).ext E33).1) (Keep.of_wr W43).1)
  have ge_b44 : n0 ≤ b44 := Nat.le_trans f51 (Nat.le_of_eq g44.symm)
  have f52 := ((f40.trans ((Keep.refl _ []).ext E33) all0).trans (Keep.of_wr W43) (allS (Or.inl (List.mem_of_getElem? (i := 0) rfl)) all0))
  have sz_b44 : h0.size ≤ b44 := Nat.le_trans f52.1 (Nat.le_of_eq g44.symm)
  have V44 : own_AL Z h44 b44 16 (fun _ => 0) := own_newL (by decide : (16 : Int32).toInt = ((16 : Nat) : Int)) A44
  have f53 := ((Fld.other W43 ((Fld.other W32 ((Fld.other W22 ((Fld.other W13 ((Fld.other W5 (F_a_outerStamps.keep ((Keep.refl _ []).ext E2) nin0) (Or.inr (slot_ne (Or.inl (hw _ (List.mem_of_getElem? (i := 26) rfl))) (Or.inl (hw _ (List.mem_of_getElem? (i := 12) rfl))) (by decide) (t := (.array .long)) (t' := (.array (.array .int))) (by decide) (by decide)))).keep ((Keep.refl _ []).ext E6) nin0) (Or.inr (slot_ne (Or.inl (hw _ (List.mem_of_getElem? (i := 26) rfl))) (Or.inl (hw _ (List.mem_of_getElem? (i := 16) rfl))) (by decide) (t := (.array .long)) (t' := (.array (.array .long))) (by decide) (by decide)))).keep ((Keep.refl _ []).ext E14) nin0) (Or.inr (slot_ne (Or.inl (hw _ (List.mem_of_getElem? (i := 26) rfl))) (Or.inl (hw _ (List.mem_of_getElem? (i := 19) rfl))) (by decide) (t := (.array .long)) (t' := (.array .int)) (by decide) (by decide)))).keep ((Keep.refl _ []).ext E23) nin0) (Or.inr (slot_ne (Or.inl (hw _ (List.mem_of_getElem? (i := 26) rfl))) (Or.inl (hw _ (List.mem_of_getElem? (i := 22) rfl))) (by decide) (t := (.array .long)) (t' := (.array .long)) (by decide) (by decide)))).keep ((Keep.refl _ []).ext E33) nin0) (Or.inr (slot_ne (Or.inl (hw _ (List.mem_of_getElem? (i := 26) rfl))) (Or.inl (hw _ (List.mem_of_getElem? (i := 24) rfl))) (by decide) (t := (.array .long)) (t' := (.array .int)) (by decide) (by decide)))).keep ((Keep.refl _ []).ext E44) nin0)
  have f54 := (f45.keep ((Keep.refl _ []).ext E44))
  obtain ⟨T55, h55, X55, e55, W55, st55⟩ := putF X44 hx hZ hown (host := "") (Or.inl (hw _ (List.mem_of_getElem? (i := 25) rfl))) Via.refl e44 f53 f54 (Or.inl (hw _ (List.mem_of_getElem? (i := 26) rfl))) (hw _ (List.mem_of_getElem? (i := 1) rfl)) (ty := (.array .long)) (by decide) rfl rfl (g := (mkF m 51 #[.val (.ref a)] [(.ref b44), (.ref a)])) rfl rfl (hb hby d1_51)
  have N55 := Fr.snoc X55 N43 g_a
  have F55 := Fld.same W55 f53
  have k56 : ∀ tg_, Steps p.tables e below (T55.setTop (mkF m 54 #[.val (.ref a)] [])) tg_ → Steps p.tables e below (s₁.setTop (entryFrame m #[(.ref a)] 1)) tg_ := by
    intro tg_ kt
    refine k0 tg_ ?_
    refine XS.aloadN X0.here hx rfl (hb hby d1_0) rfl rfl ?_
    show Steps p.tables e below (s₁.setTop (mkF m 1 #[.val (.ref a)] [(.ref a)])) _
    refine st1 _ ?_
    show Steps p.tables e below (T1.setTop (mkF m 4 #[.val (.ref a)] [])) _
    refine XS.aloadN X1.here hx rfl (hb hby d1_4) rfl rfl ?_
    show Steps p.tables e below (T1.setTop (mkF m 5 #[.val (.ref a)] [(.ref a)])) _
    refine XS.bipush X1.here hx rfl (hb hby d1_5) ?_
    show Steps p.tables e below (T1.setTop (mkF m 7 #[.val (.ref a)] [(.int (64 : Int32)), (.ref a)])) _
    refine st2 _ ?_
    show Steps p.tables e below (T2.setTop (mkF m 10 #[.val (.ref a)] [(.ref b2), (.ref a)])) _
    refine st5 _ ?_
    show Steps p.tables e below (T5.setTop (mkF m 13 #[.val (.ref a)] [])) _
    refine XS.aloadN X5.here hx rfl (hb hby d1_13) rfl rfl ?_
    show Steps p.tables e below (T5.setTop (mkF m 14 #[.val (.ref a)] [(.ref a)])) _
    refine XS.bipush X5.here hx rfl (hb hby d1_14) ?_
    show Steps p.tables e below (T5.setTop (mkF m 16 #[.val (.ref a)] [(.int (64 : Int32)), (.ref a)])) _
    refine st6 _ ?_
    show Steps p.tables e below (T6.setTop (mkF m 19 #[.val (.ref a)] [(.ref b6), (.ref a)])) _
    refine st13 _ ?_
    show Steps p.tables e below (T13.setTop (mkF m 22 #[.val (.ref a)] [])) _
    refine XS.aloadN X13.here hx rfl (hb hby d1_22) rfl rfl ?_
    show Steps p.tables e below (T13.setTop (mkF m 23 #[.val (.ref a)] [(.ref a)])) _
    refine XS.bipush X13.here hx rfl (hb hby d1_23) ?_
    show Steps p.tables e below (T13.setTop (mkF m 25 #[.val (.ref a)] [(.int (64 : Int32)), (.ref a)])) _
    refine st14 _ ?_
    show Steps p.tables e below (T14.setTop (mkF m 27 #[.val (.ref a)] [(.ref b14), (.ref a)])) _
    refine st22 _ ?_
    show Steps p.tables e below (T22.setTop (mkF m 30 #[.val (.ref a)] [])) _
    refine XS.aloadN X22.here hx rfl (hb hby d1_30) rfl rfl ?_
    show Steps p.tables e below (T22.setTop (mkF m 31 #[.val (.ref a)] [(.ref a)])) _
    refine XS.bipush X22.here hx rfl (hb hby d1_31) ?_
    show Steps p.tables e below (T22.setTop (mkF m 33 #[.val (.ref a)] [(.int (64 : Int32)), (.ref a)])) _
    refine st23 _ ?_
    show Steps p.tables e below (T23.setTop (mkF m 35 #[.val (.ref a)] [(.ref b23), (.ref a)])) _
    refine st32 _ ?_
    show Steps p.tables e below (T32.setTop (mkF m 38 #[.val (.ref a)] [])) _
    refine XS.aloadN X32.here hx rfl (hb hby d1_38) rfl rfl ?_
    show Steps p.tables e below (T32.setTop (mkF m 39 #[.val (.ref a)] [(.ref a)])) _
    refine XS.bipush X32.here hx rfl (hb hby d1_39) ?_
    show Steps p.tables e below (T32.setTop (mkF m 41 #[.val (.ref a)] [(.int (16 : Int32)), (.ref a)])) _
    refine st33 _ ?_
    show Steps p.tables e below (T33.setTop (mkF m 43 #[.val (.ref a)] [(.ref b33), (.ref a)])) _
    refine st43 _ ?_
    show Steps p.tables e below (T43.setTop (mkF m 46 #[.val (.ref a)] [])) _
    refine XS.aloadN X43.here hx rfl (hb hby d1_46) rfl rfl ?_
    show Steps p.tables e below (T43.setTop (mkF m 47 #[.val (.ref a)] [(.ref a)])) _
    refine XS.bipush X43.here hx rfl (hb hby d1_47) ?_
    show Steps p.tables e below (T43.setTop (mkF m 49 #[.val (.ref a)] [(.int (16 : Int32)), (.ref a)])) _
    refine st44 _ ?_
    show Steps p.tables e below (T44.setTop (mkF m 51 #[.val (.ref a)] [(.ref b44), (.ref a)])) _
    refine st55 _ ?_
    show Steps p.tables e below (T55.setTop (mkF m 54 #[.val (.ref a)] [])) _
    exact kt
  have f57 := ((f52.trans ((Keep.refl _ []).ext E44) all0).trans (Keep.of_wr W55) (allS (Or.inl (List.mem_of_getElem? (i := 0) rfl)) all0))
  have f58 := (Fld.other W55 ((Fld.other W43 ((Fld.other W32 ((Fld.other W22 ((Fld.other W13 ((Fld.other W5 (F_a_entries.keep ((Keep.refl _ []).ext E2) nin0) (Or.inr (slot_ne (Or.inl (hw _ (List.mem_of_getElem? (i := 35) rfl))) (Or.inl (hw _ (List.mem_of_getElem? (i := 12) rfl))) (by decide) (t := .int) (t' := (.array (.array .int))) (by decide) (by decide)))).keep ((Keep.refl _ []).ext E6) nin0) (Or.inr (slot_ne (Or.inl (hw _ (List.mem_of_getElem? (i := 35) rfl))) (Or.inl (hw _ (List.mem_of_getElem? (i := 16) rfl))) (by decide) (t := .int) (t' := (.array (.array .long))) (by decide) (by decide)))).keep ((Keep.refl _ []).ext E14) nin0) (Or.inr (slot_ne (Or.inl (hw _ (List.mem_of_getElem? (i := 35) rfl))) (Or.inl (hw _ (List.mem_of_getElem? (i := 19) rfl))) (by decide) (t := .int) (t' := (.array .int)) (by decide) (by decide)))).keep ((Keep.refl _ []).ext E23) nin0) (Or.inr (slot_ne (Or.inl (hw _ (List.mem_of_getElem? (i := 35) rfl))) (Or.inl (hw _ (List.mem_of_getElem? (i := 22) rfl))) (by decide) (t := .int) (t' := (.array .long)) (by decide) (by decide)))).keep ((Keep.refl _ []).ext E33) nin0) (Or.inr (slot_ne (Or.inl (hw _ (List.mem_of_getElem? (i := 35) rfl))) (Or.inl (hw _ (List.mem_of_getElem? (i := 24) rfl))) (by decide) (t := .int) (t' := (.array .int)) (by decide) (by decide)))).keep ((Keep.refl _ []).ext E44) nin0) (Or.inr (slot_ne (Or.inl (hw _ (List.mem_of_getElem? (i := 35) rfl))) (Or.inl (hw _ (List.mem_of_getElem? (i := 26) rfl))) (by decide) (t := .int) (t' := (.array .long)) (by decide) (by decide))))
  have f59 := (Fld.other W55 ((Fld.other W43 ((Fld.other W32 ((Fld.other W22 ((Fld.other W13 ((Fld.other W5 (F_a_level.keep ((Keep.refl _ []).ext E2) nin0) (Or.inr (slot_ne (Or.inl (hw _ (List.mem_of_getElem? (i := 33) rfl))) (Or.inl (hw _ (List.mem_of_getElem? (i := 12) rfl))) (by decide) (t := .int) (t' := (.array (.array .int))) (by decide) (by decide)))).keep ((Keep.refl _ []).ext E6) nin0) (Or.inr (slot_ne (Or.inl (hw _ (List.mem_of_getElem? (i := 33) rfl))) (Or.inl (hw _ (List.mem_of_getElem? (i := 16) rfl))) (by decide) (t := .int) (t' := (.array (.array .long))) (by decide) (by decide)))).keep ((Keep.refl _ []).ext E14) nin0) (Or.inr (slot_ne (Or.inl (hw _ (List.mem_of_getElem? (i := 33) rfl))) (Or.inl (hw _ (List.mem_of_getElem? (i := 19) rfl))) (by decide) (t := .int) (t' := (.array .int)) (by decide) (by decide)))).keep ((Keep.refl _ []).ext E23) nin0) (Or.inr (slot_ne (Or.inl (hw _ (List.mem_of_getElem? (i := 33) rfl))) (Or.inl (hw _ (List.mem_of_getElem? (i := 22) rfl))) (by decide) (t := .int) (t' := (.array .long)) (by decide) (by decide)))).keep ((Keep.refl _ []).ext E33) nin0) (Or.inr (slot_ne (Or.inl (hw _ (List.mem_of_getElem? (i := 33) rfl))) (Or.inl (hw _ (List.mem_of_getElem? (i := 24) rfl))) (by decide) (t := .int) (t' := (.array .int)) (by decide) (by decide)))).keep ((Keep.refl _ []).ext E44) nin0) (Or.inr (slot_ne (Or.inl (hw _ (List.mem_of_getElem? (i := 33) rfl))) (Or.inl (hw _ (List.mem_of_getElem? (i := 26) rfl))) (by decide) (t := .int) (t' := (.array .long)) (by decide) (by decide))))
  have f60 := (Fld.other W55 ((Fld.other W43 ((Fld.other W32 ((Fld.other W22 ((Fld.other W13 ((Fld.other W5 (F_a_stamp.keep ((Keep.refl _ []).ext E2) nin0) (Or.inr (slot_ne (Or.inl (hw _ (List.mem_of_getElem? (i := 37) rfl))) (Or.inl (hw _ (List.mem_of_getElem? (i := 12) rfl))) (by decide) (t := .long) (t' := (.array (.array .int))) (by decide) (by decide)))).keep ((Keep.refl _ []).ext E6) nin0) (Or.inr (slot_ne (Or.inl (hw _ (List.mem_of_getElem? (i := 37) rfl))) (Or.inl (hw _ (List.mem_of_getElem? (i := 16) rfl))) (by decide) (t := .long) (t' := (.array (.array .long))) (by decide) (by decide)))).keep ((Keep.refl _ []).ext E14) nin0) (Or.inr (slot_ne (Or.inl (hw _ (List.mem_of_getElem? (i := 37) rfl))) (Or.inl (hw _ (List.mem_of_getElem? (i := 19) rfl))) (by decide) (t := .long) (t' := (.array .int)) (by decide) (by decide)))).keep ((Keep.refl _ []).ext E23) nin0) (Or.inr (slot_ne (Or.inl (hw _ (List.mem_of_getElem? (i := 37) rfl))) (Or.inl (hw _ (List.mem_of_getElem? (i := 22) rfl))) (by decide) (t := .long) (t' := (.array .long)) (by decide) (by decide)))).keep ((Keep.refl _ []).ext E33) nin0) (Or.inr (slot_ne (Or.inl (hw _ (List.mem_of_getElem? (i := 37) rfl))) (Or.inl (hw _ (List.mem_of_getElem? (i := 24) rfl))) (by decide) (t := .long) (t' := (.array .int)) (by decide) (by decide)))).keep ((Keep.refl _ []).ext E44) nin0) (Or.inr (slot_ne (Or.inl (hw _ (List.mem_of_getElem? (i := 37) rfl))) (Or.inl (hw _ (List.mem_of_getElem? (i := 26) rfl))) (by decide) (t := .long) (t' := (.array .long)) (by decide) (by decide))))
  have f61 := (Fld.other W55 ((Fld.other W43 ((Fld.other W32 ((Fld.other W22 ((Fld.other W13 ((Fld.other W5 (F_a_lastStamp.keep ((Keep.refl _ []).ext E2) nin0) (Or.inr (slot_ne (Or.inl (hw _ (List.mem_of_getElem? (i := 39) rfl))) (Or.inl (hw _ (List.mem_of_getElem? (i := 12) rfl))) (by decide) (t := .long) (t' := (.array (.array .int))) (by decide) (by decide)))).keep ((Keep.refl _ []).ext E6) nin0) (Or.inr (slot_ne (Or.inl (hw _ (List.mem_of_getElem? (i := 39) rfl))) (Or.inl (hw _ (List.mem_of_getElem? (i := 16) rfl))) (by decide) (t := .long) (t' := (.array (.array .long))) (by decide) (by decide)))).keep ((Keep.refl _ []).ext E14) nin0) (Or.inr (slot_ne (Or.inl (hw _ (List.mem_of_getElem? (i := 39) rfl))) (Or.inl (hw _ (List.mem_of_getElem? (i := 19) rfl))) (by decide) (t := .long) (t' := (.array .int)) (by decide) (by decide)))).keep ((Keep.refl _ []).ext E23) nin0) (Or.inr (slot_ne (Or.inl (hw _ (List.mem_of_getElem? (i := 39) rfl))) (Or.inl (hw _ (List.mem_of_getElem? (i := 22) rfl))) (by decide) (t := .long) (t' := (.array .long)) (by decide) (by decide)))).keep ((Keep.refl _ []).ext E33) nin0) (Or.inr (slot_ne (Or.inl (hw _ (List.mem_of_getElem? (i := 39) rfl))) (Or.inl (hw _ (List.mem_of_getElem? (i := 24) rfl))) (by decide) (t := .long) (t' := (.array .int)) (by decide) (by decide)))).keep ((Keep.refl _ []).ext E44) nin0) (Or.inr (slot_ne (Or.inl (hw _ (List.mem_of_getElem? (i := 39) rfl))) (Or.inl (hw _ (List.mem_of_getElem? (i := 26) rfl))) (by decide) (t := .long) (t' := (.array .long)) (by decide) (by decide))))
  have f62 := (Fld.other W55 ((Fld.other W43 ((Fld.other W32 ((Fld.other W22 ((Fld.other W13 (F5.keep ((Keep.refl _ []).ext E6) nin0) (Or.inr (slot_ne (Or.inl (hw _ (List.mem_of_getElem? (i := 12) rfl))) (Or.inl (hw _ (List.mem_of_getElem? (i := 16) rfl))) (by decide) (t := (.array (.array .int))) (t' := (.array (.array .long))) (by decide) (by decide)))).keep ((Keep.refl _ []).ext E14) nin0) (Or.inr (slot_ne (Or.inl (hw _ (List.mem_of_getElem? (i := 12) rfl))) (Or.inl (hw _ (List.mem_of_getElem? (i := 19) rfl))) (by decide) (t := (.array (.array .int))) (t' := (.array .int)) (by decide) (by decide)))).keep ((Keep.refl _ []).ext E23) nin0) (Or.inr (slot_ne (Or.inl (hw _ (List.mem_of_getElem? (i := 12) rfl))) (Or.inl (hw _ (List.mem_of_getElem? (i := 22) rfl))) (by decide) (t := (.array (.array .int))) (t' := (.array .long)) (by decide) (by decide)))).keep ((Keep.refl _ []).ext E33) nin0) (Or.inr (slot_ne (Or.inl (hw _ (List.mem_of_getElem? (i := 12) rfl))) (Or.inl (hw _ (List.mem_of_getElem? (i := 24) rfl))) (by decide) (t := (.array (.array .int))) (t' := (.array .int)) (by decide) (by decide)))).keep ((Keep.refl _ []).ext E44) nin0) (Or.inr (slot_ne (Or.inl (hw _ (List.mem_of_getElem? (i := 12) rfl))) (Or.inl (hw _ (List.mem_of_getElem? (i := 26) rfl))) (by decide) (t := (.array (.array .int))) (t' := (.array .long)) (by decide) (by decide))))
  have f63 := (Fld.other W55 ((Fld.other W43 ((Fld.other W32 ((Fld.other W22 (F13.keep ((Keep.refl _ []).ext E14) nin0) (Or.inr (slot_ne (Or.inl (hw _ (List.mem_of_getElem? (i := 16) rfl))) (Or.inl (hw _ (List.mem_of_getElem? (i := 19) rfl))) (by decide) (t := (.array (.array .long))) (t' := (.array .int)) (by decide) (by decide)))).keep ((Keep.refl _ []).ext E23) nin0) (Or.inr (slot_ne (Or.inl (hw _ (List.mem_of_getElem? (i := 16) rfl))) (Or.inl (hw _ (List.mem_of_getElem? (i := 22) rfl))) (by decide) (t := (.array (.array .long))) (t' := (.array .long)) (by decide) (by decide)))).keep ((Keep.refl _ []).ext E33) nin0) (Or.inr (slot_ne (Or.inl (hw _ (List.mem_of_getElem? (i := 16) rfl))) (Or.inl (hw _ (List.mem_of_getElem? (i := 24) rfl))) (by decide) (t := (.array (.array .long))) (t' := (.array .int)) (by decide) (by decide)))).keep ((Keep.refl _ []).ext E44) nin0) (Or.inr (slot_ne (Or.inl (hw _ (List.mem_of_getElem? (i := 16) rfl))) (Or.inl (hw _ (List.mem_of_getElem? (i := 26) rfl))) (by decide) (t := (.array (.array .long))) (t' := (.array .long)) (by decide) (by decide))))
  have f64 := (Fld.other W55 ((Fld.other W43 ((Fld.other W32 (F22.keep ((Keep.refl _ []).ext E23) nin0) (Or.inr (slot_ne (Or.inl (hw _ (List.mem_of_getElem? (i := 19) rfl))) (Or.inl (hw _ (List.mem_of_getElem? (i := 22) rfl))) (by decide) (t := (.array .int)) (t' := (.array .long)) (by decide) (by decide)))).keep ((Keep.refl _ []).ext E33) nin0) (Or.inr (slot_ne (Or.inl (hw _ (List.mem_of_getElem? (i := 19) rfl))) (Or.inl (hw _ (List.mem_of_getElem? (i := 24) rfl))) (by decide) (t := (.array .int)) (t' := (.array .int)) (by decide) (by decide)))).keep ((Keep.refl _ []).ext E44) nin0) (Or.inr (slot_ne (Or.inl (hw _ (List.mem_of_getElem? (i := 19) rfl))) (Or.inl (hw _ (List.mem_of_getElem? (i := 26) rfl))) (by decide) (t := (.array .int)) (t' := (.array .long)) (by decide) (by decide))))
  have f65 := (Fld.other W55 ((Fld.other W43 (F32.keep ((Keep.refl _ []).ext E33) nin0) (Or.inr (slot_ne (Or.inl (hw _ (List.mem_of_getElem? (i := 22) rfl))) (Or.inl (hw _ (List.mem_of_getElem? (i := 24) rfl))) (by decide) (t := (.array .long)) (t' := (.array .int)) (by decide) (by decide)))).keep ((Keep.refl _ []).ext E44) nin0) (Or.inr (slot_ne (Or.inl (hw _ (List.mem_of_getElem? (i := 22) rfl))) (Or.inl (hw _ (List.mem_of_getElem? (i := 26) rfl))) (by decide) (t := (.array .long)) (t' := (.array .long)) (by decide) (by decide))))
  have f66 := (Fld.other W55 (F43.keep ((Keep.refl _ []).ext E44) nin0) (Or.inr (slot_ne (Or.inl (hw _ (List.mem_of_getElem? (i := 24) rfl))) (Or.inl (hw _ (List.mem_of_getElem? (i := 26) rfl))) (by decide) (t := (.array .int)) (t' := (.array .long)) (by decide) (by decide))))
  have f67 := ((f46.keep ((Keep.refl _ []).ext E44) nin0).keep (Keep.of_wr W55) (ninS (Ne.symm ne_a_b2) nin0))
  have f68 := ((f47.keep ((Keep.refl _ []).ext E44) nin0).keep (Keep.of_wr W55) (ninS (Ne.symm ne_a_b6) nin0))
  have f69 := ((f48.keep ((Keep.refl _ []).ext E44) nin0).keep (Keep.of_wr W55) (ninS (Ne.symm ne_a_b14) nin0))
  have f70 := ((f49.keep ((Keep.refl _ []).ext E44) nin0).keep (Keep.of_wr W55) (ninS (Ne.symm ne_a_b23) nin0))
  have f71 := ((f50.keep ((Keep.refl _ []).ext E44) nin0).keep (Keep.of_wr W55) (ninS (Ne.symm ne_a_b33) nin0))
  have f72 := (V44.keep (Keep.of_wr W55) (ninS (Ne.symm ne_a_b44) nin0))
  obtain ⟨fs, hr, hrun, hended, hW, hsame⟩ := X55.leave (v := none) (fun _ => rfl) (hlocks := by first | exact BodyLoose.notSynchronized Bd | exact Body.notSynchronized Bd)
  refine ⟨_, _, k56 _ (X55.returnOut hx Bd.returns (hb hby d1_54) hr), hrun, hended, _, _, rfl, ?_, ⟨_, rfl⟩, hW, hsame.mono (by decide) (by decide)⟩
  show Q1 Z a h0 n0 _ T55.heap _
  rw [e55]
  exact ⟨rfl, N55, f57, f58, f59, f60, f61, ⟨b2, b6, b14, b23, b33, b44, f62, f63, f64, f65, f66, F55, f67, f68, f69, f70, f71, f72, ge_b2, ge_b6, ge_b14, ge_b23, ge_b33, ge_b44, ne_a_b2, ne_a_b6, ne_a_b14, ne_a_b23, ne_a_b33, ne_a_b44, ne_b2_b6, ne_b2_b14, ne_b2_b23, ne_b2_b33, ne_b2_b44, ne_b6_b14, ne_b6_b23, ne_b6_b33, ne_b6_b44, ne_b14_b23, ne_b14_b33, ne_b14_b44, ne_b23_b33, ne_b23_b44, ne_b33_b44⟩⟩
theorem d8_0 : decode prog_23_method_4_code 0 = .ok (.aload_n 0, 1) := by decide +kernel
theorem d8_1 : decode prog_23_method_4_code 1 = .ok (.getfield 33, 3) := by decide +kernel
theorem d8_4 : decode prog_23_method_4_code 4 = .ok (.ireturn, 1) := by decide +kernel
theorem pn_8 : plainName "com/example/tablewise/tablewise/propagation/Trail" = true := by first | (simp [plainName, overriddenIn]; done) | decide +kernel
theorem ef_8 (m : MethodId) (x0 : Addr) : entryFrame m #[(.ref x0)] 1 = mkF m 0 #[.val (.ref x0)] [] := by first | (simp [entryFrame, mkF, argsToLocals, Value.category]; done) | rfl
def Q8 (Z : State) (a : Addr) (lv : Int32) (h0 : Heap) (n0 : Nat) (rv_ : Option Value) (h : Heap) (LL_ : List Loc) : Prop := rv_ = some (.int lv) ∧ Fr n0 LL_ ∧ h = h0
set_option maxRecDepth 65536 in
set_option maxHeartbeats 40000000 in
theorem rm8 (l : Launch) (Z : State) (a0 : Array Value) (hw : ∀ d ∈ tables_1, d.before a0 Z = true) (ws : List Jvm.Cond) (a : Addr) (lv : Int32) (h0 : Heap) (n0 : Nat) (F_a_level : Fld Z h0 a "com/example/tablewise/tablewise/propagation/Trail" "level" "I" (.int lv)) :
    MetFree l (⟨"com/example/tablewise/tablewise/propagation/Trail", "level", "()I"⟩ : MethodName) (head1 (Jvm.Cond.code (⟨"com/example/tablewise/tablewise/propagation/Trail", "level", "()I"⟩ : MethodName) prog_23_method_4_code 1 (some .int) :: ws) ({ frames := 0, cells := 0, slots := 0, locals := 0 } : Room)) (fun aa UU => aa = #[(.ref a)] ∧ Z.Warmed39 UU.vm ∧ UU.heap = h0) (fun _ _ _ _ _ => True) (fun _ UU oo UV => ∃ vv LL, oo = .returned vv ∧ Q8 Z a lv h0 n0 vv UV.heap LL ∧ FrameEnd UU oo UV LL ({ frames := 0, cells := 0, slots := 0, locals := 0 } : Room).cells ({ frames := 0, cells := 0, slots := 0, locals := 0 } : Room).slots) := by
  refine MetFree.of_bodySF (plainFor_of_name pn_8) hisR ?_
  intro p e s m args below meth c s₁ Bd hml0 hP hK
  obtain ⟨rfl, hZ, hh⟩ := hP
  have hx := Bd.exec
  have hby := Bd.bytes
  have hml : c.maxLocals = 1 := hml0
  have hown : s.vm.findClass "com/example/tablewise/tablewise/propagation/Trail" = some m.cls := findClass_of_methodNamed Bd.named
  have hnm := (name_of_methodNamed Bd.named Bd.method).1
  have X0 : Stand p l e ({ frames := 0, cells := 0, slots := 0, locals := 0 } : Room) s m #[(.ref a)] below meth c s₁ [] 0 0 := Stand.of_body Bd
  have e0 : s₁.heap = h0 := by rw [← hh, Bd.state]; rfl
  have N0 := Fr.nil n0
  have k0 : ∀ tg_, Steps p.tables e below (s₁.setTop (mkF m 0 #[.val (.ref a)] [])) tg_ → Steps p.tables e below (s₁.setTop (entryFrame m #[(.ref a)] 1)) tg_ := fun tg_ k => castTop (ef_8 m a) k
  obtain ⟨T73, X73, e73, st73⟩ := getF X0 hx hZ hown (host := "") (Or.inl (hw _ (List.mem_of_getElem? (i := 32) rfl))) Via.refl e0 F_a_level (g := (mkF m 1 #[.val (.ref a)] [(.ref a)])) rfl rfl (hb hby d8_1)
  have k74 : ∀ tg_, Steps p.tables e below (T73.setTop (mkF m 4 #[.val (.ref a)] [(.int lv)])) tg_ → Steps p.tables e below (s₁.setTop (entryFrame m #[(.ref a)] 1)) tg_ := by
    intro tg_ kt
    refine k0 tg_ ?_
    refine XS.aloadN X0.here hx rfl (hb hby d8_0) rfl rfl ?_
    show Steps p.tables e below (s₁.setTop (mkF m 1 #[.val (.ref a)] [(.ref a)])) _
    refine st73 _ ?_
    show Steps p.tables e below (T73.setTop (mkF m 4 #[.val (.ref a)] [(.int lv)])) _
    exact kt
  obtain ⟨fs, hr, hrun, hended, hW, hsame⟩ := X73.leave (v := some (.int lv)) (fun h => by rw [Bd.returns] at h; cases h) (hlocks := by first | exact BodyLoose.notSynchronized Bd | exact Body.notSynchronized Bd)
  refine ⟨_, _, k74 _ (retI X73 hx Bd.returns (hb hby d8_4) hr), hrun, hended, _, _, rfl, ?_, ⟨_, rfl⟩, hW, hsame.mono (by decide) (by decide)⟩
  show Q8 Z a lv h0 n0 _ T73.heap _
  rw [e73]
  exact ⟨rfl, N0, rfl⟩
theorem d3_0 : decode prog_23_method_2_code 0 = .ok (.aload_n 0, 1) := by decide +kernel
theorem d3_1 : decode prog_23_method_2_code 1 = .ok (.getfield 33, 3) := by decide +kernel
theorem d3_4 : decode prog_23_method_2_code 4 = .ok (.aload_n 0, 1) := by decide +kernel
theorem d3_5 : decode prog_23_method_2_code 5 = .ok (.getfield 27, 3) := by decide +kernel
theorem d3_8 : decode prog_23_method_2_code 8 = .ok (.arraylength, 1) := by decide +kernel
theorem d3_9 : decode prog_23_method_2_code 9 = .ok (.if_icmp .ne 37, 3) := by decide +kernel
theorem d3_46 : decode prog_23_method_2_code 46 = .ok (.aload_n 0, 1) := by decide +kernel
theorem d3_47 : decode prog_23_method_2_code 47 = .ok (.getfield 27, 3) := by decide +kernel
theorem d3_50 : decode prog_23_method_2_code 50 = .ok (.aload_n 0, 1) := by decide +kernel
theorem d3_51 : decode prog_23_method_2_code 51 = .ok (.getfield 33, 3) := by decide +kernel
theorem d3_54 : decode prog_23_method_2_code 54 = .ok (.aload_n 0, 1) := by decide +kernel
theorem d3_55 : decode prog_23_method_2_code 55 = .ok (.getfield 46, 3) := by decide +kernel
theorem d3_58 : decode prog_23_method_2_code 58 = .ok (.iastore, 1) := by decide +kernel
theorem d3_59 : decode prog_23_method_2_code 59 = .ok (.aload_n 0, 1) := by decide +kernel
theorem d3_60 : decode prog_23_method_2_code 60 = .ok (.getfield 30, 3) := by decide +kernel
theorem d3_63 : decode prog_23_method_2_code 63 = .ok (.aload_n 0, 1) := by decide +kernel
theorem d3_64 : decode prog_23_method_2_code 64 = .ok (.getfield 33, 3) := by decide +kernel
theorem d3_67 : decode prog_23_method_2_code 67 = .ok (.aload_n 0, 1) := by decide +kernel
theorem d3_68 : decode prog_23_method_2_code 68 = .ok (.getfield 49, 3) := by decide +kernel
theorem d3_71 : decode prog_23_method_2_code 71 = .ok (.lastore, 1) := by decide +kernel
theorem d3_72 : decode prog_23_method_2_code 72 = .ok (.aload_n 0, 1) := by decide +kernel
theorem d3_73 : decode prog_23_method_2_code 73 = .ok (.dup, 1) := by decide +kernel
theorem d3_74 : decode prog_23_method_2_code 74 = .ok (.getfield 33, 3) := by decide +kernel
theorem d3_77 : decode prog_23_method_2_code 77 = .ok (.iconst 1, 1) := by decide +kernel
theorem d3_78 : decode prog_23_method_2_code 78 = .ok (.iadd, 1) := by decide +kernel
theorem d3_79 : decode prog_23_method_2_code 79 = .ok (.putfield 33, 3) := by decide +kernel
theorem d3_82 : decode prog_23_method_2_code 82 = .ok (.aload_n 0, 1) := by decide +kernel
theorem d3_83 : decode prog_23_method_2_code 83 = .ok (.aload_n 0, 1) := by decide +kernel
theorem d3_84 : decode prog_23_method_2_code 84 = .ok (.dup, 1) := by decide +kernel
theorem d3_85 : decode prog_23_method_2_code 85 = .ok (.getfield 53, 3) := by decide +kernel
theorem d3_88 : decode prog_23_method_2_code 88 = .ok (.lconst 1, 1) := by decide +kernel
theorem d3_89 : decode prog_23_method_2_code 89 = .ok (.ladd, 1) := by decide +kernel
theorem d3_90 : decode prog_23_method_2_code 90 = .ok (.dup2_x1, 1) := by decide +kernel
theorem d3_91 : decode prog_23_method_2_code 91 = .ok (.putfield 53, 3) := by decide +kernel
theorem d3_94 : decode prog_23_method_2_code 94 = .ok (.putfield 49, 3) := by decide +kernel
theorem d3_97 : decode prog_23_method_2_code 97 = .ok (.return_, 1) := by decide +kernel
theorem pn_3 : plainName "com/example/tablewise/tablewise/propagation/Trail" = true := by first | (simp [plainName, overriddenIn]; done) | decide +kernel
theorem ef_3 (m : MethodId) (x0 : Addr) : entryFrame m #[(.ref x0)] 1 = mkF m 0 #[.val (.ref x0)] [] := by first | (simp [entryFrame, mkF, argsToLocals, Value.category]; done) | rfl
def Q3 (Z : State) (a : Addr) (ia : Addr) (la : Addr) (si : Addr) (ov : Addr) (ls : Addr) (os : Addr) (en : Int32) (lv : Int32) (sp : Int64) (lsp : Int64) (k : Nat) (fl : Nat → Int32) (fo : Nat → Int64) (h0 : Heap) (n0 : Nat) (rv_ : Option Value) (h : Heap) (LL_ : List Loc) : Prop := rv_ = none ∧ Fr n0 LL_ ∧ Keep h0 h [a, ls, os] ∧ Fld Z h a "com/example/tablewise/tablewise/propagation/Trail" "intArrays" "[[I" (.ref ia) ∧ Fld Z h a "com/example/tablewise/tablewise/propagation/Trail" "longArrays" "[[J" (.ref la) ∧ Fld Z h a "com/example/tablewise/tablewise/propagation/Trail" "slotIndices" "[I" (.ref si) ∧ Fld Z h a "com/example/tablewise/tablewise/propagation/Trail" "oldValues" "[J" (.ref ov) ∧ Fld Z h a "com/example/tablewise/tablewise/propagation/Trail" "entries" "I" (.int en) ∧ Fld Z h a "com/example/tablewise/tablewise/propagation/Trail" "levelStarts" "[I" (.ref ls) ∧ Fld Z h a "com/example/tablewise/tablewise/propagation/Trail" "outerStamps" "[J" (.ref os) ∧ Fld Z h a "com/example/tablewise/tablewise/propagation/Trail" "level" "I" (.int (lv + (1 : Int32))) ∧ Fld Z h a "com/example/tablewise/tablewise/propagation/Trail" "stamp" "J" (.long (lsp + (1 : Int64))) ∧ Fld Z h a "com/example/tablewise/tablewise/propagation/Trail" "lastStamp" "J" (.long (lsp + (1 : Int64))) ∧ own_AI Z h ls .int 16 (own_upd fl k en) ∧ own_AL Z h os 16 (own_upd fo k sp)
set_option maxRecDepth 65536 in
set_option maxHeartbeats 40000000 in
theorem rm3 (l : Launch) (Z : State) (a0 : Array Value) (hw : ∀ d ∈ tables_1, d.before a0 Z = true) (ws : List Jvm.Cond) (a : Addr) (ia : Addr) (la : Addr) (si : Addr) (ov : Addr) (ls : Addr) (os : Addr) (en : Int32) (lv : Int32) (sp : Int64) (lsp : Int64) (k : Nat) (fl : Nat → Int32) (fo : Nat → Int64) (h0 : Heap) (n0 : Nat) (Z0 : n0 ≤ h0.size) (E_a : Exa Z h0 a "com/example/tablewise/tablewise/propagation/Trail") (F_a_intArrays : Fld Z h0 a "com/example/tablewise/tablewise/propagation/Trail" "intArrays" "[[I" (.ref ia)) (F_a_longArrays : Fld Z h0 a "com/example/tablewise/tablewise/propagation/Trail" "longArrays" "[[J" (.ref la)) (F_a_slotIndices : Fld Z h0 a "com/example/tablewise/tablewise/propagation/Trail" "slotIndices" "[I" (.ref si)) (F_a_oldValues : Fld Z h0 a "com/example/tablewise/tablewise/propagation/Trail" "oldValues" "[J" (.ref ov)) (F_a_entries : Fld Z h0 a "com/example/tablewise/tablewise/propagation/Trail" "entries" "I" (.int en)) (F_a_levelStarts : Fld Z h0 a "com/example/tablewise/tablewise/propagation/Trail" "levelStarts" "[I" (.ref ls)) (F_a_outerStamps : Fld Z h0 a "com/example/tablewise/tablewise/propagation/Trail" "outerStamps" "[J" (.ref os)) (F_a_level : Fld Z h0 a "com/example/tablewise/tablewise/propagation/Trail" "level" "I" (.int lv)) (F_a_stamp : Fld Z h0 a "com/example/tablewise/tablewise/propagation/Trail" "stamp" "J" (.long sp)) (F_a_lastStamp : Fld Z h0 a "com/example/tablewise/tablewise/propagation/Trail" "lastStamp" "J" (.long lsp)) (V_ls : own_AI Z h0 ls .int 16 fl) (V_os : own_AL Z h0 os 16 fo) (g_a : n0 ≤ a) (g_ls : n0 ≤ ls) (g_os : n0 ≤ os) (ne_a_ls : a ≠ ls) (ne_a_os : a ≠ os) (ne_ls_os : ls ≠ os) (hlv : lv.toInt = (k : Int)) (hblv : k < 16) :
    MetFree l (⟨"com/example/tablewise/tablewise/propagation/Trail", "openLevel", "()V"⟩ : MethodName) (head1 (Jvm.Cond.code (⟨"com/example/tablewise/tablewise/propagation/Trail", "openLevel", "()V"⟩ : MethodName) prog_23_method_2_code 1 none :: ws) ({ frames := 0, cells := 0, slots := 0, locals := 0 } : Room)) (fun aa UU => aa = #[(.ref a)] ∧ Z.Warmed39 UU.vm ∧ UU.heap = h0) (fun _ _ _ _ _ => True) (fun _ UU oo UV => ∃ vv LL, oo = .returned vv ∧ Q3 Z a ia la si ov ls os en lv sp lsp k fl fo h0 n0 vv UV.heap LL ∧ FrameEnd UU oo UV LL ({ frames := 0, cells := 0, slots := 0, locals := 0 } : Room).cells ({ frames := 0, cells := 0, slots := 0, locals := 0 } : Room).slots) := by
  refine MetFree.of_bodySF (plainFor_of_name pn_3) hisR ?_
  intro p e s m args below meth c s₁ Bd hml0 hP hK
  obtain ⟨rfl, hZ, hh⟩ := hP
  have hx := Bd.exec
  have hby := Bd.bytes
  have hml : c.maxLocals = 1 := hml0
  have hown : s.vm.findClass "com/example/tablewise/tablewise/propagation/Trail" = some m.cls := findClass_of_methodNamed Bd.named
  have hnm := (name_of_methodNamed Bd.named Bd.method).1
  have X0 : Stand p l e ({ frames := 0, cells := 0, slots := 0, locals := 0 } : Room) s m #[(.ref a)] below meth c s₁ [] 0 0 := Stand.of_body Bd
  have e0 : s₁.heap = h0 := by rw [← hh, Bd.state]; rfl
  have N0 := Fr.nil n0
  have k0 : ∀ tg_, Steps p.tables e below (s₁.setTop (mkF m 0 #[.val (.ref a)] [])) tg_ → Steps p.tables e below (s₁.setTop (entryFrame m #[(.ref a)] 1)) tg_ := fun tg_ k => castTop (ef_3 m a) k
  obtain ⟨T75, X75, e75, st75⟩ := getF X0 hx hZ hown (host := "") (Or.inl (hw _ (List.mem_of_getElem? (i := 32) rfl))) Via.refl e0 F_a_level (g := (mkF m 1 #[.val (.ref a)] [(.ref a)])) rfl rfl (hb hby d3_1)
  obtain ⟨T76, X76, e76, st76⟩ := getF X75 hx hZ hown (host := "") (Or.inl (hw _ (List.mem_of_getElem? (i := 23) rfl))) Via.refl e75 F_a_levelStarts (g := (mkF m 5 #[.val (.ref a)] [(.ref a), (.int lv)])) rfl rfl (hb hby d3_5)
  have hc9_77 : ¬ (lv = (16 : Int32)) := (fun q => by rw [q] at hlv; have o : (16 : Int32).toInt = 16 := (by decide); omega)
  obtain ⟨T78, X78, e78, st78⟩ := getF X76 hx hZ hown (host := "") (Or.inl (hw _ (List.mem_of_getElem? (i := 23) rfl))) Via.refl e76 F_a_levelStarts (g := (mkF m 47 #[.val (.ref a)] [(.ref a)])) rfl rfl (hb hby d3_47)
  obtain ⟨T79, X79, e79, st79⟩ := getF X78 hx hZ hown (host := "") (Or.inl (hw _ (List.mem_of_getElem? (i := 32) rfl))) Via.refl e78 F_a_level (g := (mkF m 51 #[.val (.ref a)] [(.ref a), (.ref ls)])) rfl rfl (hb hby d3_51)
  obtain ⟨T80, X80, e80, st80⟩ := getF X79 hx hZ hown (host := "") (Or.inl (hw _ (List.mem_of_getElem? (i := 34) rfl))) Via.refl e79 F_a_entries (g := (mkF m 55 #[.val (.ref a)] [(.ref a), (.int lv), (.ref ls)])) rfl rfl (hb hby d3_55)
  obtain ⟨T81, h81, X81, e81, W81, V81, st81⟩ := own_stI X80 hx hZ e80 V_ls (i := k) hlv hblv (g := (mkF m 58 #[.val (.ref a)] [(.int en), (.int lv), (.ref ls)])) rfl rfl (hb hby d3_58)
  have N81 := Fr.snoc X81 N0 g_ls
  have f82 := (F_a_outerStamps.keep (Keep.of_wr W81) (ninS ne_a_ls nin0))
  obtain ⟨T83, X83, e83, st83⟩ := getF X81 hx hZ hown (host := "") (Or.inl (hw _ (List.mem_of_getElem? (i := 25) rfl))) Via.refl e81 f82 (g := (mkF m 60 #[.val (.ref a)] [(.ref a)])) rfl rfl (hb hby d3_60)
  have f84 := (F_a_level.keep (Keep.of_wr W81) (ninS ne_a_ls nin0))
  obtain ⟨T85, X85, e85, st85⟩ := getF X83 hx hZ hown (host := "") (Or.inl (hw _ (List.mem_of_getElem? (i := 32) rfl))) Via.refl e83 f84 (g := (mkF m 64 #[.val (.ref a)] [(.ref a), (.ref os)])) rfl rfl (hb hby d3_64)
  have f86 := (F_a_stamp.keep (Keep.of_wr W81) (ninS ne_a_ls nin0))
  obtain ⟨T87, X87, e87, st87⟩ := getF X85 hx hZ hown (host := "") (Or.inl (hw _ (List.mem_of_getElem? (i := 36) rfl))) Via.refl e85 f86 (g := (mkF m 68 #[.val (.ref a)] [(.ref a), (.int lv), (.ref os)])) rfl rfl (hb hby d3_68)
  have f88 := (V_os.keep (Keep.of_wr W81) (ninS (Ne.symm ne_ls_os) nin0))
  obtain ⟨T89, h89, X89, e89, W89, V89, st89⟩ := own_stJ X87 hx hZ e87 f88 (i := k) hlv hblv (g := (mkF m 71 #[.val (.ref a)] [(.long sp), (.int lv), (.ref os)])) rfl rfl (hb hby d3_71)
  have N89 := Fr.snoc X89 N81 g_os
  have f90 := (f84.keep (Keep.of_wr W89) (ninS ne_a_os nin0))
  obtain ⟨T91, X91, e91, st91⟩ := getF X89 hx hZ hown (host := "") (Or.inl (hw _ (List.mem_of_getElem? (i := 32) rfl))) Via.refl e89 f90 (g := (mkF m 74 #[.val (.ref a)] [(.ref a), (.ref a)])) rfl rfl (hb hby d3_74)
  have f92 := ((E_a.keep (Keep.of_wr W81)).keep (Keep.of_wr W89))
  obtain ⟨T93, h93, X93, e93, W93, st93⟩ := putF X91 hx hZ hown (host := "") (Or.inl (hw _ (List.mem_of_getElem? (i := 32) rfl))) Via.refl e91 f90 f92 (Or.inl (hw _ (List.mem_of_getElem? (i := 33) rfl))) (hw _ (List.mem_of_getElem? (i := 1) rfl)) (ty := .int) (by decide) rfl rfl (g := (mkF m 79 #[.val (.ref a)] [(.int (lv + (1 : Int32))), (.ref a)])) rfl rfl (hb hby d3_79)
  have N93 := Fr.snoc X93 N89 g_a
  have F93 := Fld.same W93 f90
  have k94 : ∀ tg_, Steps p.tables e below (T93.setTop (mkF m 82 #[.val (.ref a)] [])) tg_ → Steps p.tables e below (s₁.setTop (entryFrame m #[(.ref a)] 1)) tg_ := by
    intro tg_ kt
    refine k0 tg_ ?_
    refine XS.aloadN X0.here hx rfl (hb hby d3_0) rfl rfl ?_
    show Steps p.tables e below (s₁.setTop (mkF m 1 #[.val (.ref a)] [(.ref a)])) _
    refine st75 _ ?_
    show Steps p.tables e below (T75.setTop (mkF m 4 #[.val (.ref a)] [(.int lv)])) _
    refine XS.aloadN X75.here hx rfl (hb hby d3_4) rfl rfl ?_
    show Steps p.tables e below (T75.setTop (mkF m 5 #[.val (.ref a)] [(.ref a), (.int lv)])) _
    refine st76 _ ?_
    show Steps p.tables e below (T76.setTop (mkF m 8 #[.val (.ref a)] [(.ref ls), (.int lv)])) _
    refine own_len X76 hx hZ e76 V_ls (z := (16 : Int32)) (by decide) (g := (mkF m 8 #[.val (.ref a)] [(.ref ls), (.int lv)])) rfl rfl (hb hby d3_8) _ ?_
    show Steps p.tables e below (T76.setTop (mkF m 9 #[.val (.ref a)] [(.int (16 : Int32)), (.int lv)])) _
    refine XS.icmpYes X76.here hx rfl (pc0 := 9) (pc' := 46) rfl (hb hby d3_9) rfl (feq hc9_77).2 (by decide) (by decide) ?_
    show Steps p.tables e below (T76.setTop (mkF m 46 #[.val (.ref a)] [])) _
    refine XS.aloadN X76.here hx rfl (hb hby d3_46) rfl rfl ?_
    show Steps p.tables e below (T76.setTop (mkF m 47 #[.val (.ref a)] [(.ref a)])) _
    refine st78 _ ?_
    show Steps p.tables e below (T78.setTop (mkF m 50 #[.val (.ref a)] [(.ref ls)])) _
    refine XS.aloadN X78.here hx rfl (hb hby d3_50) rfl rfl ?_
    show Steps p.tables e below (T78.setTop (mkF m 51 #[.val (.ref a)] [(.ref a), (.ref ls)])) _
    refine st79 _ ?_
    show Steps p.tables e below (T79.setTop (mkF m 54 #[.val (.ref a)] [(.int lv), (.ref ls)])) _
    refine XS.aloadN X79.here hx rfl (hb hby d3_54) rfl rfl ?_
    show Steps p.tables e below (T79.setTop (mkF m 55 #[.val (.ref a)] [(.ref a), (.int lv), (.ref ls)])) _
    refine st80 _ ?_
    show Steps p.tables e below (T80.setTop (mkF m 58 #[.val (.ref a)] [(.int en), (.int lv), (.ref ls)])) _
    refine st81 _ ?_
    show Steps p.tables e below (T81.setTop (mkF m 59 #[.val (.ref a)] [])) _
    refine XS.aloadN X81.here hx rfl (hb hby d3_59) rfl rfl ?_
    show Steps p.tables e below (T81.setTop (mkF m 60 #[.val (.ref a)] [(.ref a)])) _
    refine st83 _ ?_
    show Steps p.tables e below (T83.setTop (mkF m 63 #[.val (.ref a)] [(.ref os)])) _
    refine XS.aloadN X83.here hx rfl (hb hby d3_63) rfl rfl ?_
    show Steps p.tables e below (T83.setTop (mkF m 64 #[.val (.ref a)] [(.ref a), (.ref os)])) _
    refine st85 _ ?_
    show Steps p.tables e below (T85.setTop (mkF m 67 #[.val (.ref a)] [(.int lv), (.ref os)])) _
    refine XS.aloadN X85.here hx rfl (hb hby d3_67) rfl rfl ?_
    show Steps p.tables e below (T85.setTop (mkF m 68 #[.val (.ref a)] [(.ref a), (.int lv), (.ref os)])) _
    refine st87 _ ?_
    show Steps p.tables e below (T87.setTop (mkF m 71 #[.val (.ref a)] [(.long sp), (.int lv), (.ref os)])) _
    refine st89 _ ?_
    show Steps p.tables e below (T89.setTop (mkF m 72 #[.val (.ref a)] [])) _
    refine XS.aloadN X89.here hx rfl (hb hby d3_72) rfl rfl ?_
    show Steps p.tables e below (T89.setTop (mkF m 73 #[.val (.ref a)] [(.ref a)])) _
    refine XS.dup X89.here hx rfl (hb hby d3_73) rfl rfl ?_
    show Steps p.tables e below (T89.setTop (mkF m 74 #[.val (.ref a)] [(.ref a), (.ref a)])) _
    refine st91 _ ?_
    show Steps p.tables e below (T91.setTop (mkF m 77 #[.val (.ref a)] [(.int lv), (.ref a)])) _
    refine XS.iconst X91.here hx rfl (hb hby d3_77) ?_
    show Steps p.tables e below (T91.setTop (mkF m 78 #[.val (.ref a)] [(.int (1 : Int32)), (.int lv), (.ref a)])) _
    refine XS.iadd X91.here hx rfl (hb hby d3_78) rfl ?_
    show Steps p.tables e below (T91.setTop (mkF m 79 #[.val (.ref a)] [(.int (lv + (1 : Int32))), (.ref a)])) _
    refine st93 _ ?_
    show Steps p.tables e below (T93.setTop (mkF m 82 #[.val (.ref a)] [])) _
    exact kt
  have f95 := (Fld.other W93 ((F_a_lastStamp.keep (Keep.of_wr W81) (ninS ne_a_ls nin0)).keep (Keep.of_wr W89) (ninS ne_a_os nin0)) (Or.inr (slot_ne (Or.inl (hw _ (List.mem_of_getElem? (i := 39) rfl))) (Or.inl (hw _ (List.mem_of_getElem? (i := 33) rfl))) (by decide) (t := .long) (t' := .int) (by decide) (by decide))))
  obtain ⟨T96, X96, e96, st96⟩ := getF X93 hx hZ hown (host := "") (Or.inl (hw _ (List.mem_of_getElem? (i := 38) rfl))) Via.refl e93 f95 (g := (mkF m 85 #[.val (.ref a)] [(.ref a), (.ref a), (.ref a)])) rfl rfl (hb hby d3_85)
  have f97 := (f92.keep (Keep.of_wr W93))
  obtain ⟨T98, h98, X98, e98, W98, st98⟩ := putF X96 hx hZ hown (host := "") (Or.inl (hw _ (List.mem_of_getElem? (i := 38) rfl))) Via.refl e96 f95 f97 (Or.inl (hw _ (List.mem_of_getElem? (i := 39) rfl))) (hw _ (List.mem_of_getElem? (i := 1) rfl)) (ty := .long) (by decide) rfl rfl (g := (mkF m 91 #[.val (.ref a)] [(.long (lsp + (1 : Int64))), (.ref a), (.long (lsp + (1 : Int64))), (.ref a)])) rfl rfl (hb hby d3_91)
  have N98 := Fr.snoc X98 N93 g_a
  have F98 := Fld.same W98 f95
  have f99 := (Fld.other W98 (Fld.other W93 (f86.keep (Keep.of_wr W89) (ninS ne_a_os nin0)) (Or.inr (slot_ne (Or.inl (hw _ (List.mem_of_getElem? (i := 37) rfl))) (Or.inl (hw _ (List.mem_of_getElem? (i := 33) rfl))) (by decide) (t := .long) (t' := .int) (by decide) (by decide)))) (Or.inr (slot_ne (Or.inl (hw _ (List.mem_of_getElem? (i := 37) rfl))) (Or.inl (hw _ (List.mem_of_getElem? (i := 39) rfl))) (by decide) (t := .long) (t' := .long) (by decide) (by decide))))
  have f100 := (f97.keep (Keep.of_wr W98))
  obtain ⟨T101, h101, X101, e101, W101, st101⟩ := putF X98 hx hZ hown (host := "") (Or.inl (hw _ (List.mem_of_getElem? (i := 36) rfl))) Via.refl e98 f99 f100 (Or.inl (hw _ (List.mem_of_getElem? (i := 37) rfl))) (hw _ (List.mem_of_getElem? (i := 1) rfl)) (ty := .long) (by decide) rfl rfl (g := (mkF m 94 #[.val (.ref a)] [(.long (lsp + (1 : Int64))), (.ref a)])) rfl rfl (hb hby d3_94)
  have N101 := Fr.snoc X101 N98 g_a
  have F101 := Fld.same W101 f99
  have k102 : ∀ tg_, Steps p.tables e below (T101.setTop (mkF m 97 #[.val (.ref a)] [])) tg_ → Steps p.tables e below (s₁.setTop (entryFrame m #[(.ref a)] 1)) tg_ := by
    intro tg_ kt
    refine k94 tg_ ?_
    refine XS.aloadN X93.here hx rfl (hb hby d3_82) rfl rfl ?_
    show Steps p.tables e below (T93.setTop (mkF m 83 #[.val (.ref a)] [(.ref a)])) _
    refine XS.aloadN X93.here hx rfl (hb hby d3_83) rfl rfl ?_
    show Steps p.tables e below (T93.setTop (mkF m 84 #[.val (.ref a)] [(.ref a), (.ref a)])) _
    refine XS.dup X93.here hx rfl (hb hby d3_84) rfl rfl ?_
    show Steps p.tables e below (T93.setTop (mkF m 85 #[.val (.ref a)] [(.ref a), (.ref a), (.ref a)])) _
    refine st96 _ ?_
    show Steps p.tables e below (T96.setTop (mkF m 88 #[.val (.ref a)] [(.long lsp), (.ref a), (.ref a)])) _
    refine XS.lconst X96.here hx rfl (hb hby d3_88) ?_
    show Steps p.tables e below (T96.setTop (mkF m 89 #[.val (.ref a)] [(.long (1 : Int64)), (.long lsp), (.ref a), (.ref a)])) _
    refine XS.ladd X96.here hx rfl (hb hby d3_89) rfl ?_
    show Steps p.tables e below (T96.setTop (mkF m 90 #[.val (.ref a)] [(.long (lsp + (1 : Int64))), (.ref a), (.ref a)])) _
    jvm_step X96.here [X96.here.top, hx, (hb hby d3_90), Value.category]
    show Steps p.tables e below (T96.setTop (mkF m 91 #[.val (.ref a)] [(.long (lsp + (1 : Int64))), (.ref a), (.long (lsp + (1 : Int64))), (.ref a)])) _
    refine st98 _ ?_
    show Steps p.tables e below (T98.setTop (mkF m 94 #[.val (.ref a)] [(.long (lsp + (1 : Int64))), (.ref a)])) _
    refine st101 _ ?_
    show Steps p.tables e below (T101.setTop (mkF m 97 #[.val (.ref a)] [])) _
    exact kt
  have f103 := ((((((Keep.refl h0 [a, ls, os]).trans (Keep.of_wr W81) (allS (Or.inl (List.mem_of_getElem? (i := 1) rfl)) all0)).trans (Keep.of_wr W89) (allS (Or.inl (List.mem_of_getElem? (i := 2) rfl)) all0)).trans (Keep.of_wr W93) (allS (Or.inl (List.mem_of_getElem? (i := 0) rfl)) all0)).trans (Keep.of_wr W98) (allS (Or.inl (List.mem_of_getElem? (i := 0) rfl)) all0)).trans (Keep.of_wr W101) (allS (Or.inl (List.mem_of_getElem? (i := 0) rfl)) all0))
  have f104 := (Fld.other W101 (Fld.other W98 (Fld.other W93 ((F_a_intArrays.keep (Keep.of_wr W81) (ninS ne_a_ls nin0)).keep (Keep.of_wr W89) (ninS ne_a_os nin0)) (Or.inr (slot_ne (Or.inl (hw _ (List.mem_of_getElem? (i := 12) rfl))) (Or.inl (hw _ (List.mem_of_getElem? (i := 33) rfl))) (by decide) (t := (.array (.array .int))) (t' := .int) (by decide) (by decide)))) (Or.inr (slot_ne (Or.inl (hw _ (List.mem_of_getElem? (i := 12) rfl))) (Or.inl (hw _ (List.mem_of_getElem? (i := 39) rfl))) (by decide) (t := (.array (.array .int))) (t' := .long) (by decide) (by decide)))) (Or.inr (slot_ne (Or.inl (hw _ (List.mem_of_getElem? (i := 12) rfl))) (Or.inl (hw _ (List.mem_of_getElem? (i := 37) rfl))) (by decide) (t := (.array (.array .int))) (t' := .long) (by decide) (by decide))))
  have f105 := (Fld.other W101 (Fld.other W98 (Fld.other W93 ((F_a_longArrays.keep (Keep.of_wr W81) (ninS ne_a_ls nin0)).keep (Keep.of_wr W89) (ninS ne_a_os nin0)) (Or.inr (slot_ne (Or.inl (hw _ (List.mem_of_getElem? (i := 16) rfl))) (Or.inl (hw _ (List.mem_of_getElem? (i := 33) rfl))) (by decide) (t := (.array (.array .long))) (t' := .int) (by decide) (by decide)))) (Or.inr (slot_ne (Or.inl (hw _ (List.mem_of_getElem? (i := 16) rfl))) (Or.inl (hw _ (List.mem_of_getElem? (i := 39) rfl))) (by decide) (t := (.array (.array .long))) (t' := .long) (by decide) (by decide)))) (Or.inr (slot_ne (Or.inl (hw _ (List.mem_of_getElem? (i := 16) rfl))) (Or.inl (hw _ (List.mem_of_getElem? (i := 37) rfl))) (by decide) (t := (.array (.array .long))) (t' := .long) (by decide) (by decide))))
  have f106 := (Fld.other W101 (Fld.other W98 (Fld.other W93 ((F_a_slotIndices.keep (Keep.of_wr W81) (ninS ne_a_ls nin0)).keep (Keep.of_wr W89) (ninS ne_a_os nin0)) (Or.inr (slot_ne (Or.inl (hw _ (List.mem_of_getElem? (i := 19) rfl))) (Or.inl (hw _ (List.mem_of_getElem? (i := 33) rfl))) (by decide) (t := (.array .int)) (t' := .int) (by decide) (by decide)))) (Or.inr (slot_ne (Or.inl (hw _ (List.mem_of_getElem? (i := 19) rfl))) (Or.inl (hw _ (List.mem_of_getElem? (i := 39) rfl))) (by decide) (t := (.array .int)) (t' := .long) (by decide) (by decide)))) (Or.inr (slot_ne (Or.inl (hw _ (List.mem_of_getElem? (i := 19) rfl))) (Or.inl (hw _ (List.mem_of_getElem? (i := 37) rfl))) (by decide) (t := (.array .int)) (t' := .long) (by decide) (by decide))))
  have f107 := (Fld.other W101 (Fld.other W98 (Fld.other W93 ((F_a_oldValues.keep (Keep.of_wr W81) (ninS ne_a_ls nin0)).keep (Keep.of_wr W89) (ninS ne_a_os nin0)) (Or.inr (slot_ne (Or.inl (hw _ (List.mem_of_getElem? (i := 22) rfl))) (Or.inl (hw _ (List.mem_of_getElem? (i := 33) rfl))) (by decide) (t := (.array .long)) (t' := .int) (by decide) (by decide)))) (Or.inr (slot_ne (Or.inl (hw _ (List.mem_of_getElem? (i := 22) rfl))) (Or.inl (hw _ (List.mem_of_getElem? (i := 39) rfl))) (by decide) (t := (.array .long)) (t' := .long) (by decide) (by decide)))) (Or.inr (slot_ne (Or.inl (hw _ (List.mem_of_getElem? (i := 22) rfl))) (Or.inl (hw _ (List.mem_of_getElem? (i := 37) rfl))) (by decide) (t := (.array .long)) (t' := .long) (by decide) (by decide))))
  have f108 := (Fld.other W101 (Fld.other W98 (Fld.other W93 ((F_a_entries.keep (Keep.of_wr W81) (ninS ne_a_ls nin0)).keep (Keep.of_wr W89) (ninS ne_a_os nin0)) (Or.inr (slot_ne (Or.inl (hw _ (List.mem_of_getElem? (i := 35) rfl))) (Or.inl (hw _ (List.mem_of_getElem? (i := 33) rfl))) (by decide) (t := .int) (t' := .int) (by decide) (by decide)))) (Or.inr (slot_ne (Or.inl (hw _ (List.mem_of_getElem? (i := 35) rfl))) (Or.inl (hw _ (List.mem_of_getElem? (i := 39) rfl))) (by decide) (t := .int) (t' := .long) (by decide) (by decide)))) (Or.inr (slot_ne (Or.inl (hw _ (List.mem_of_getElem? (i := 35) rfl))) (Or.inl (hw _ (List.mem_of_getElem? (i := 37) rfl))) (by decide) (t := .int) (t' := .long) (by decide) (by decide))))
  have f109 := (Fld.other W101 (Fld.other W98 (Fld.other W93 ((F_a_levelStarts.keep (Keep.of_wr W81) (ninS ne_a_ls nin0)).keep (Keep.of_wr W89) (ninS ne_a_os nin0)) (Or.inr (slot_ne (Or.inl (hw _ (List.mem_of_getElem? (i := 24) rfl))) (Or.inl (hw _ (List.mem_of_getElem? (i := 33) rfl))) (by decide) (t := (.array .int)) (t' := .int) (by decide) (by decide)))) (Or.inr (slot_ne (Or.inl (hw _ (List.mem_of_getElem? (i := 24) rfl))) (Or.inl (hw _ (List.mem_of_getElem? (i := 39) rfl))) (by decide) (t := (.array .int)) (t' := .long) (by decide) (by decide)))) (Or.inr (slot_ne (Or.inl (hw _ (List.mem_of_getElem? (i := 24) rfl))) (Or.inl (hw _ (List.mem_of_getElem? (i := 37) rfl))) (by decide) (t := (.array .int)) (t' := .long) (by decide) (by decide))))
  have f110 := (Fld.other W101 (Fld.other W98 (Fld.other W93 (f82.keep (Keep.of_wr W89) (ninS ne_a_os nin0)) (Or.inr (slot_ne (Or.inl (hw _ (List.mem_of_getElem? (i := 26) rfl))) (Or.inl (hw _ (List.mem_of_getElem? (i := 33) rfl))) (by decide) (t := (.array .long)) (t' := .int) (by decide) (by decide)))) (Or.inr (slot_ne (Or.inl (hw _ (List.mem_of_getElem? (i := 26) rfl))) (Or.inl (hw _ (List.mem_of_getElem? (i := 39) rfl))) (by decide) (t := (.array .long)) (t' := .long) (by decide) (by decide)))) (Or.inr (slot_ne (Or.inl (hw _ (List.mem_of_getElem? (i := 26) rfl))) (Or.inl (hw _ (List.mem_of_getElem? (i := 37) rfl))) (by decide) (t := (.array .long)) (t' := .long) (by decide) (by decide))))
  have f111 := (Fld.other W101 (Fld.other W98 F93 (Or.inr (slot_ne (Or.inl (hw _ (List.mem_of_getElem? (i := 33) rfl))) (Or.inl (hw _ (List.mem_of_getElem? (i := 39) rfl))) (by decide) (t := .int) (t' := .long) (by decide) (by decide)))) (Or.inr (slot_ne (Or.inl (hw _ (List.mem_of_getElem? (i := 33) rfl))) (Or.inl (hw _ (List.mem_of_getElem? (i := 37) rfl))) (by decide) (t := .int) (t' := .long) (by decide) (by decide))))
  have f112 := (Fld.other W101 F98 (Or.inr (slot_ne (Or.inl (hw _ (List.mem_of_getElem? (i := 39) rfl))) (Or.inl (hw _ (List.mem_of_getElem? (i := 37) rfl))) (by decide) (t := .long) (t' := .long) (by decide) (by decide))))
  have f113 := ((((V81.keep (Keep.of_wr W89) (ninS ne_ls_os nin0)).keep (Keep.of_wr W93) (ninS (Ne.symm ne_a_ls) nin0)).keep (Keep.of_wr W98) (ninS (Ne.symm ne_a_ls) nin0)).keep (Keep.of_wr W101) (ninS (Ne.symm ne_a_ls) nin0))
  have f114 := (((V89.keep (Keep.of_wr W93) (ninS (Ne.symm ne_a_os) nin0)).keep (Keep.of_wr W98) (ninS (Ne.symm ne_a_os) nin0)).keep (Keep.of_wr W101) (ninS (Ne.symm ne_a_os) nin0))
  obtain ⟨fs, hr, hrun, hended, hW, hsame⟩ := X101.leave (v := none) (fun _ => rfl) (hlocks := by first | exact BodyLoose.notSynchronized Bd | exact Body.notSynchronized Bd)
  refine ⟨_, _, k102 _ (X101.returnOut hx Bd.returns (hb hby d3_97) hr), hrun, hended, _, _, rfl, ?_, ⟨_, rfl⟩, hW, hsame.mono (by decide) (by decide)⟩
  show Q3 Z a ia la si ov ls os en lv sp lsp k fl fo h0 n0 _ T101.heap _
  rw [e101]
  exact ⟨rfl, N101, f103, f104, f105, f106, f107, f108, f109, f110, f111, F101, f112, f113, f114⟩
theorem d5_0 : decode prog_23_method_7_code 0 = .ok (.aload_n 0, 1) := by decide +kernel
theorem d5_1 : decode prog_23_method_7_code 1 = .ok (.getfield 46, 3) := by decide +kernel
theorem d5_4 : decode prog_23_method_7_code 4 = .ok (.aload_n 0, 1) := by decide +kernel
theorem d5_5 : decode prog_23_method_7_code 5 = .ok (.getfield 24, 3) := by decide +kernel
theorem d5_8 : decode prog_23_method_7_code 8 = .ok (.arraylength, 1) := by decide +kernel
theorem d5_9 : decode prog_23_method_7_code 9 = .ok (.if_icmp .ne 77, 3) := by decide +kernel
theorem d5_86 : decode prog_23_method_7_code 86 = .ok (.aload_n 0, 1) := by decide +kernel
theorem d5_87 : decode prog_23_method_7_code 87 = .ok (.getfield 9, 3) := by decide +kernel
theorem d5_90 : decode prog_23_method_7_code 90 = .ok (.aload_n 0, 1) := by decide +kernel
theorem d5_91 : decode prog_23_method_7_code 91 = .ok (.getfield 46, 3) := by decide +kernel
theorem d5_94 : decode prog_23_method_7_code 94 = .ok (.aload_n 1, 1) := by decide +kernel
theorem d5_95 : decode prog_23_method_7_code 95 = .ok (.aastore, 1) := by decide +kernel
theorem d5_96 : decode prog_23_method_7_code 96 = .ok (.aload_n 0, 1) := by decide +kernel
theorem d5_97 : decode prog_23_method_7_code 97 = .ok (.getfield 17, 3) := by decide +kernel
theorem d5_100 : decode prog_23_method_7_code 100 = .ok (.aload_n 0, 1) := by decide +kernel
theorem d5_101 : decode prog_23_method_7_code 101 = .ok (.getfield 46, 3) := by decide +kernel
theorem d5_104 : decode prog_23_method_7_code 104 = .ok (.aload_n 2, 1) := by decide +kernel
theorem d5_105 : decode prog_23_method_7_code 105 = .ok (.aastore, 1) := by decide +kernel
theorem d5_106 : decode prog_23_method_7_code 106 = .ok (.aload_n 0, 1) := by decide +kernel
theorem d5_107 : decode prog_23_method_7_code 107 = .ok (.getfield 21, 3) := by decide +kernel
theorem d5_110 : decode prog_23_method_7_code 110 = .ok (.aload_n 0, 1) := by decide +kernel
theorem d5_111 : decode prog_23_method_7_code 111 = .ok (.getfield 46, 3) := by decide +kernel
theorem d5_114 : decode prog_23_method_7_code 114 = .ok (.iload_n 3, 1) := by decide +kernel
theorem d5_115 : decode prog_23_method_7_code 115 = .ok (.iastore, 1) := by decide +kernel
theorem d5_116 : decode prog_23_method_7_code 116 = .ok (.aload_n 0, 1) := by decide +kernel
theorem d5_117 : decode prog_23_method_7_code 117 = .ok (.getfield 24, 3) := by decide +kernel
theorem d5_120 : decode prog_23_method_7_code 120 = .ok (.aload_n 0, 1) := by decide +kernel
theorem d5_121 : decode prog_23_method_7_code 121 = .ok (.getfield 46, 3) := by decide +kernel
theorem d5_124 : decode prog_23_method_7_code 124 = .ok (.lload 4, 2) := by decide +kernel
theorem d5_126 : decode prog_23_method_7_code 126 = .ok (.lastore, 1) := by decide +kernel
theorem d5_127 : decode prog_23_method_7_code 127 = .ok (.aload_n 0, 1) := by decide +kernel
theorem d5_128 : decode prog_23_method_7_code 128 = .ok (.dup, 1) := by decide +kernel
theorem d5_129 : decode prog_23_method_7_code 129 = .ok (.getfield 46, 3) := by decide +kernel
theorem d5_132 : decode prog_23_method_7_code 132 = .ok (.iconst 1, 1) := by decide +kernel
theorem d5_133 : decode prog_23_method_7_code 133 = .ok (.iadd, 1) := by decide +kernel
theorem d5_134 : decode prog_23_method_7_code 134 = .ok (.putfield 46, 3) := by decide +kernel
theorem d5_137 : decode prog_23_method_7_code 137 = .ok (.return_, 1) := by decide +kernel
theorem pn_5 : plainName "com/example/tablewise/tablewise/propagation/Trail" = true := by first | (simp [plainName, overriddenIn]; done) | decide +kernel
theorem ef_recI (m : MethodId) (x0 : Addr) (x1 : Addr) (x2 : Int32) (x3 : Int64) : entryFrame m #[(.ref x0), (.ref x1), .null, (.int x2), (.long x3)] 6 = mkF m 0 #[.val (.ref x0), .val (.ref x1), .val .null, .val (.int x2), .val (.long x3), .second] [] := by first | (simp [entryFrame, mkF, argsToLocals, Value.category]; done) | rfl
def QrecI (Z : State) (a : Addr) (ar : Addr) (ix : Int32) (old : Int64) (ia : Addr) (la : Addr) (si : Addr) (ov : Addr) (ls : Addr) (os : Addr) (en : Int32) (lv : Int32) (sp : Int64) (lsp : Int64) (k : Nat) (gi : Nat → Value) (gl : Nat → Value) (fx : Nat → Int32) (fo : Nat → Int64) (h0 : Heap) (n0 : Nat) (rv_ : Option Value) (h : Heap) (LL_ : List Loc) : Prop := rv_ = none ∧ Fr n0 LL_ ∧ Keep h0 h [a, ia, la, si, ov] ∧ Fld Z h a "com/example/tablewise/tablewise/propagation/Trail" "intArrays" "[[I" (.ref ia) ∧ Fld Z h a "com/example/tablewise/tablewise/propagation/Trail" "longArrays" "[[J" (.ref la) ∧ Fld Z h a "com/example/tablewise/tablewise/propagation/Trail" "slotIndices" "[I" (.ref si) ∧ Fld Z h a "com/example/tablewise/tablewise/propagation/Trail" "oldValues" "[J" (.ref ov) ∧ Fld Z h a "com/example/tablewise/tablewise/propagation/Trail" "levelStarts" "[I" (.ref ls) ∧ Fld Z h a "com/example/tablewise/tablewise/propagation/Trail" "outerStamps" "[J" (.ref os) ∧ Fld Z h a "com/example/tablewise/tablewise/propagation/Trail" "level" "I" (.int lv) ∧ Fld Z h a "com/example/tablewise/tablewise/propagation/Trail" "stamp" "J" (.long sp) ∧ Fld Z h a "com/example/tablewise/tablewise/propagation/Trail" "lastStamp" "J" (.long lsp) ∧ Fld Z h a "com/example/tablewise/tablewise/propagation/Trail" "entries" "I" (.int (en + (1 : Int32))) ∧ own_AR Z h ia .int "[I" 64 (own_upd gi k (.ref ar)) ∧ own_AR Z h la .long "[J" 64 (own_upd gl k .null) ∧ own_AI Z h si .int 64 (own_upd fx k ix) ∧ own_AL Z h ov 64 (own_upd fo k old)
set_option maxRecDepth 65536 in
set_option maxHeartbeats 40000000 in
theorem rmrecI (l : Launch) (Z : State) (a0 : Array Value) (hw : ∀ d ∈ tables_1, d.before a0 Z = true) (ws : List Jvm.Cond) (a : Addr) (ar : Addr) (ix : Int32) (old : Int64) (ia : Addr) (la : Addr) (si : Addr) (ov : Addr) (ls : Addr) (os : Addr) (en : Int32) (lv : Int32) (sp : Int64) (lsp : Int64) (k : Nat) (gi : Nat → Value) (gl : Nat → Value) (fx : Nat → Int32) (fo : Nat → Int64) (h0 : Heap) (n0 : Nat) (Z0 : n0 ≤ h0.size) (E_a : Exa Z h0 a "com/example/tablewise/tablewise/propagation/Trail") (E_ar : Exa Z h0 ar "[I") (F_a_intArrays : Fld Z h0 a "com/example/tablewise/tablewise/propagation/Trail" "intArrays" "[[I" (.ref ia)) (F_a_longArrays : Fld Z h0 a "com/example/tablewise/tablewise/propagation/Trail" "longArrays" "[[J" (.ref la)) (F_a_slotIndices : Fld Z h0 a "com/example/tablewise/tablewise/propagation/Trail" "slotIndices" "[I" (.ref si)) (F_a_oldValues : Fld Z h0 a "com/example/tablewise/tablewise/propagation/Trail" "oldValues" "[J" (.ref ov)) (F_a_entries : Fld Z h0 a "com/example/tablewise/tablewise/propagation/Trail" "entries" "I" (.int en)) (F_a_levelStarts : Fld Z h0 a "com/example/tablewise/tablewise/propagation/Trail" "levelStarts" "[I" (.ref ls)) (F_a_outerStamps : Fld Z h0 a "com/example/tablewise/tablewise/propagation/Trail" "outerStamps" "[J" (.ref os)) (F_a_level : Fld Z h0 a "com/example/tablewise/tablewise/propagation/Trail" "level" "I" (.int lv)) (F_a_stamp : Fld Z h0 a "com/example/tablewise/tablewise/propagation/Trail" "stamp" "J" (.long sp)) (F_a_lastStamp : Fld Z h0 a "com/example/tablewise/tablewise/propagation/Trail" "lastStamp" "J" (.long lsp)) (V_ia : own_AR Z h0 ia .int "[I" 64 gi) (V_la : own_AR Z h0 la .long "[J" 64 gl) (V_si : own_AI Z h0 si .int 64 fx) (V_ov : own_AL Z h0 ov 64 fo) (g_a : n0 ≤ a) (g_ia : n0 ≤ ia) (g_la : n0 ≤ la) (g_si : n0 ≤ si) (g_ov : n0 ≤ ov) (ne_a_ia : a ≠ ia) (ne_a_la : a ≠ la) (ne_a_si : a ≠ si) (ne_a_ov : a ≠ ov) (ne_ia_la : ia ≠ la) (ne_ia_si : ia ≠ si) (ne_ia_ov : ia ≠ ov) (ne_la_si : la ≠ si) (ne_la_ov : la ≠ ov) (ne_si_ov : si ≠ ov) (hen : en.toInt = (k : Int)) (hben : k < 64) :
    MetFree l (⟨"com/example/tablewise/tablewise/propagation/Trail", "record", "([I[JIJ)V"⟩ : MethodName) (head1 (Jvm.Cond.code (⟨"com/example/tablewise/tablewise/propagation/Trail", "record", "([I[JIJ)V"⟩ : MethodName) prog_23_method_7_code 6 none :: ws) ({ frames := 0, cells := 0, slots := 0, locals := 0 } : Room)) (fun aa UU => aa = #[(.ref a), (.ref ar), .null, (.int ix), (.long old)] ∧ Z.Warmed39 UU.vm ∧ UU.heap = h0) (fun _ _ _ _ _ => True) (fun _ UU oo UV => ∃ vv LL, oo = .returned vv ∧ QrecI Z a ar ix old ia la si ov ls os en lv sp lsp k gi gl fx fo h0 n0 vv UV.heap LL ∧ FrameEnd UU oo UV LL ({ frames := 0, cells := 0, slots := 0, locals := 0 } : Room).cells ({ frames := 0, cells := 0, slots := 0, locals := 0 } : Room).slots) := by
  refine MetFree.of_bodySF (plainFor_of_name pn_5) hisR ?_
  intro p e s m args below meth c s₁ Bd hml0 hP hK
  obtain ⟨rfl, hZ, hh⟩ := hP
  have hx := Bd.exec
  have hby := Bd.bytes
  have hml : c.maxLocals = 6 := hml0
  have hown : s.vm.findClass "com/example/tablewise/tablewise/propagation/Trail" = some m.cls := findClass_of_methodNamed Bd.named
  have hnm := (name_of_methodNamed Bd.named Bd.method).1
  have X0 : Stand p l e ({ frames := 0, cells := 0, slots := 0, locals := 0 } : Room) s m #[(.ref a), (.ref ar), .null, (.int ix), (.long old)] below meth c s₁ [] 0 0 := Stand.of_body Bd
  have e0 : s₁.heap = h0 := by rw [← hh, Bd.state]; rfl
  have N0 := Fr.nil n0
  have k0 : ∀ tg_, Steps p.tables e below (s₁.setTop (mkF m 0 #[.val (.ref a), .val (.ref ar), .val .null, .val (.int ix), .val (.long old), .second] [])) tg_ → Steps p.tables e below (s₁.setTop (entryFrame m #[(.ref a), (.ref ar), .null, (.int ix), (.long old)] 6)) tg_ := fun tg_ k => castTop (ef_recI m a ar ix old) k
  obtain ⟨T115, X115, e115, st115⟩ := getF X0 hx hZ hown (host := "") (Or.inl (hw _ (List.mem_of_getElem? (i := 34) rfl))) Via.refl e0 F_a_entries (g := (mkF m 1 #[.val (.ref a), .val (.ref ar), .val .null, .val (.int ix), .val (.long old), .second] [(.ref a)])) rfl rfl (hb hby d5_1)
  obtain ⟨T116, X116, e116, st116⟩ := getF X115 hx hZ hown (host := "") (Or.inl (hw _ (List.mem_of_getElem? (i := 21) rfl))) Via.refl e115 F_a_oldValues (g := (mkF m 5 #[.val (.ref a), .val (.ref ar), .val .null, .val (.int ix), .val (.long old), .second] [(.ref a), (.int en)])) rfl rfl (hb hby d5_5)
  have hc9_117 : ¬ (en = (64 : Int32)) := (fun q => by rw [q] at hen; have o : (64 : Int32).toInt = 64 := (by decide); omega)
  obtain ⟨T118, X118, e118, st118⟩ := getF X116 hx hZ hown (host := "") (Or.inl (hw _ (List.mem_of_getElem? (i := 11) rfl))) Via.refl e116 F_a_intArrays (g := (mkF m 87 #[.val (.ref a), .val (.ref ar), .val .null, .val (.int ix), .val (.long old), .second] [(.ref a)])) rfl rfl (hb hby d5_87)
  obtain ⟨T119, X119, e119, st119⟩ := getF X118 hx hZ hown (host := "") (Or.inl (hw _ (List.mem_of_getElem? (i := 34) rfl))) Via.refl e118 F_a_entries (g := (mkF m 91 #[.val (.ref a), .val (.ref ar), .val .null, .val (.int ix), .val (.long old), .second] [(.ref a), (.ref ia)])) rfl rfl (hb hby d5_91)
  obtain ⟨T120, h120, X120, e120, W120, V120, st120⟩ := own_stAR X119 hx hZ e119 V_ia (i := k) hen hben (Or.inr ⟨_, rfl, E_ar⟩) (g := (mkF m 95 #[.val (.ref a), .val (.ref ar), .val .null, .val (.int ix), .val (.long old), .second] [(.ref ar), (.int en), (.ref ia)])) rfl rfl (hb hby d5_95)
  have N120 := Fr.snoc X120 N0 g_ia
  have f121 := (F_a_longArrays.keep (Keep.of_wr W120) (ninS ne_a_ia nin0))
  obtain ⟨T122, X122, e122, st122⟩ := getF X120 hx hZ hown (host := "") (Or.inl (hw _ (List.mem_of_getElem? (i := 15) rfl))) Via.refl e120 f121 (g := (mkF m 97 #[.val (.ref a), .val (.ref ar), .val .null, .val (.int ix), .val (.long old), .second] [(.ref a)])) rfl rfl (hb hby d5_97)
  have f123 := (F_a_entries.keep (Keep.of_wr W120) (ninS ne_a_ia nin0))
  obtain ⟨T124, X124, e124, st124⟩ := getF X122 hx hZ hown (host := "") (Or.inl (hw _ (List.mem_of_getElem? (i := 34) rfl))) Via.refl e122 f123 (g := (mkF m 101 #[.val (.ref a), .val (.ref ar), .val .null, .val (.int ix), .val (.long old), .second] [(.ref a), (.ref la)])) rfl rfl (hb hby d5_101)
  have f125 := (V_la.keep (Keep.of_wr W120) (ninS (Ne.symm ne_ia_la) nin0))
  obtain ⟨T126, h126, X126, e126, W126, V126, st126⟩ := own_stAR X124 hx hZ e124 f125 (i := k) hen hben (Or.inl rfl) (g := (mkF m 105 #[.val (.ref a), .val (.ref ar), .val .null, .val (.int ix), .val (.long old), .second] [.null, (.int en), (.ref la)])) rfl rfl (hb hby d5_105)
  have N126 := Fr.snoc X126 N120 g_la
  have f127 := ((F_a_slotIndices.keep (Keep.of_wr W120) (ninS ne_a_ia nin0)).keep (Keep.of_wr W126) (ninS ne_a_la nin0))
  obtain ⟨T128, X128, e128, st128⟩ := getF X126 hx hZ hown (host := "") (Or.inl (hw _ (List.mem_of_getElem? (i := 18) rfl))) Via.refl e126 f127 (g := (mkF m 107 #[.val (.ref a), .val (.ref ar), .val .null, .val (.int ix), .val (.long old), .second] [(.ref a)])) rfl rfl (hb hby d5_107)
  have f129 := (f123.keep (Keep.of_wr W126) (ninS ne_a_la nin0))
  obtain ⟨T130, X130, e130, st130⟩ := getF X128 hx hZ hown (host := "") (Or.inl (hw _ (List.mem_of_getElem? (i := 34) rfl))) Via.refl e128 f129 (g := (mkF m 111 #[.val (.ref a), .val (.ref ar), .val .null, .val (.int ix), .val (.long old), .second] [(.ref a), (.ref si)])) rfl rfl (hb hby d5_111)
  have f131 := ((V_si.keep (Keep.of_wr W120) (ninS (Ne.symm ne_ia_si) nin0)).keep (Keep.of_wr W126) (ninS (Ne.symm ne_la_si) nin0))
  obtain ⟨T132, h132, X132, e132, W132, V132, st132⟩ := own_stI X130 hx hZ e130 f131 (i := k) hen hben (g := (mkF m 115 #[.val (.ref a), .val (.ref ar), .val .null, .val (.int ix), .val (.long old), .second] [(.int ix), (.int en), (.ref si)])) rfl rfl (hb hby d5_115)
  have N132 := Fr.snoc X132 N126 g_si
  have f133 := (((F_a_oldValues.keep (Keep.of_wr W120) (ninS ne_a_ia nin0)).keep (Keep.of_wr W126) (ninS ne_a_la nin0)).keep (Keep.of_wr W132) (ninS ne_a_si nin0))
  obtain ⟨T134, X134, e134, st134⟩ := getF X132 hx hZ hown (host := "") (Or.inl (hw _ (List.mem_of_getElem? (i := 21) rfl))) Via.refl e132 f133 (g := (mkF m 117 #[.val (.ref a), .val (.ref ar), .val .null, .val (.int ix), .val (.long old), .second] [(.ref a)])) rfl rfl (hb hby d5_117)
  have k135 : ∀ tg_, Steps p.tables e below (T134.setTop (mkF m 120 #[.val (.ref a), .val (.ref ar), .val .null, .val (.int ix), .val (.long old), .second] [(.ref ov)])) tg_ → Steps p.tables e below (s₁.setTop (entryFrame m #[(.ref a), (.ref ar), .null, (.int ix), (.long old)] 6)) tg_ := by
    intro tg_ kt
    refine k0 tg_ ?_
    refine XS.aloadN X0.here hx rfl (hb hby d5_0) rfl rfl ?_
    show Steps p.tables e below (s₁.setTop (mkF m 1 #[.val (.ref a), .val (.ref ar), .val .null, .val (.int ix), .val (.long old), .second] [(.ref a)])) _
    refine st115 _ ?_
    show Steps p.tables e below (T115.setTop (mkF m 4 #[.val (.ref a), .val (.ref ar), .val .null, .val (.int ix), .val (.long old), .second] [(.int en)])) _
    refine XS.aloadN X115.here hx rfl (hb hby d5_4) rfl rfl ?_
    show Steps p.tables e below (T115.setTop (mkF m 5 #[.val (.ref a), .val (.ref ar), .val .null, .val (.int ix), .val (.long old), .second] [(.ref a), (.int en)])) _
    refine st116 _ ?_
    show Steps p.tables e below (T116.setTop (mkF m 8 #[.val (.ref a), .val (.ref ar), .val .null, .val (.int ix), .val (.long old), .second] [(.ref ov), (.int en)])) _
    refine own_len X116 hx hZ e116 V_ov (z := (64 : Int32)) (by decide) (g := (mkF m 8 #[.val (.ref a), .val (.ref ar), .val .null, .val (.int ix), .val (.long old), .second] [(.ref ov), (.int en)])) rfl rfl (hb hby d5_8) _ ?_
    show Steps p.tables e below (T116.setTop (mkF m 9 #[.val (.ref a), .val (.ref ar), .val .null, .val (.int ix), .val (.long old), .second] [(.int (64 : Int32)), (.int en)])) _
    refine XS.icmpYes X116.here hx rfl (pc0 := 9) (pc' := 86) rfl (hb hby d5_9) rfl (feq hc9_117).2 (by decide) (by decide) ?_
    show Steps p.tables e below (T116.setTop (mkF m 86 #[.val (.ref a), .val (.ref ar), .val .null, .val (.int ix), .val (.long old), .second] [])) _
    refine XS.aloadN X116.here hx rfl (hb hby d5_86) rfl rfl ?_
    show Steps p.tables e below (T116.setTop (mkF m 87 #[.val (.ref a), .val (.ref ar), .val .null, .val (.int ix), .val (.long old), .second] [(.ref a)])) _
    refine st118 _ ?_
    show Steps p.tables e below (T118.setTop (mkF m 90 #[.val (.ref a), .val (.ref ar), .val .null, .val (.int ix), .val (.long old), .second] [(.ref ia)])) _
    refine XS.aloadN X118.here hx rfl (hb hby d5_90) rfl rfl ?_
    show Steps p.tables e below (T118.setTop (mkF m 91 #[.val (.ref a), .val (.ref ar), .val .null, .val (.int ix), .val (.long old), .second] [(.ref a), (.ref ia)])) _
    refine st119 _ ?_
    show Steps p.tables e below (T119.setTop (mkF m 94 #[.val (.ref a), .val (.ref ar), .val .null, .val (.int ix), .val (.long old), .second] [(.int en), (.ref ia)])) _
    refine XS.aloadN X119.here hx rfl (hb hby d5_94) rfl rfl ?_
    show Steps p.tables e below (T119.setTop (mkF m 95 #[.val (.ref a), .val (.ref ar), .val .null, .val (.int ix), .val (.long old), .second] [(.ref ar), (.int en), (.ref ia)])) _
    refine st120 _ ?_
    show Steps p.tables e below (T120.setTop (mkF m 96 #[.val (.ref a), .val (.ref ar), .val .null, .val (.int ix), .val (.long old), .second] [])) _
    refine XS.aloadN X120.here hx rfl (hb hby d5_96) rfl rfl ?_
    show Steps p.tables e below (T120.setTop (mkF m 97 #[.val (.ref a), .val (.ref ar), .val .null, .val (.int ix), .val (.long old), .second] [(.ref a)])) _
    refine st122 _ ?_
    show Steps p.tables e below (T122.setTop (mkF m 100 #[.val (.ref a), .val (.ref ar), .val .null, .val (.int ix), .val (.long old), .second] [(.ref la)])) _
    refine XS.aloadN X122.here hx rfl (hb hby d5_100) rfl rfl ?_
    show Steps p.tables e below (T122.setTop (mkF m 101 #[.val (.ref a), .val (.ref ar), .val .null, .val (.int ix), .val (.long old), .second] [(.ref a), (.ref la)])) _
    refine st124 _ ?_
    show Steps p.tables e below (T124.setTop (mkF m 104 #[.val (.ref a), .val (.ref ar), .val .null, .val (.int ix), .val (.long old), .second] [(.int en), (.ref la)])) _
    refine XS.aloadN X124.here hx rfl (hb hby d5_104) rfl rfl ?_
    show Steps p.tables e below (T124.setTop (mkF m 105 #[.val (.ref a), .val (.ref ar), .val .null, .val (.int ix), .val (.long old), .second] [.null, (.int en), (.ref la)])) _
    refine st126 _ ?_
    show Steps p.tables e below (T126.setTop (mkF m 106 #[.val (.ref a), .val (.ref ar), .val .null, .val (.int ix), .val (.long old), .second] [])) _
    refine XS.aloadN X126.here hx rfl (hb hby d5_106) rfl rfl ?_
    show Steps p.tables e below (T126.setTop (mkF m 107 #[.val (.ref a), .val (.ref ar), .val .null, .val (.int ix), .val (.long old), .second] [(.ref a)])) _
    refine st128 _ ?_
    show Steps p.tables e below (T128.setTop (mkF m 110 #[.val (.ref a), .val (.ref ar), .val .null, .val (.int ix), .val (.long old), .second] [(.ref si)])) _
    refine XS.aloadN X128.here hx rfl (hb hby d5_110) rfl rfl ?_
    show Steps p.tables e below (T128.setTop (mkF m 111 #[.val (.ref a), .val (.ref ar), .val .null, .val (.int ix), .val (.long old), .second] [(.ref a), (.ref si)])) _
    refine st130 _ ?_
    show Steps p.tables e below (T130.setTop (mkF m 114 #[.val (.ref a), .val (.ref ar), .val .null, .val (.int ix), .val (.long old), .second] [(.int en), (.ref si)])) _
    refine XS.iloadN X130.here hx rfl (hb hby d5_114) rfl ?_
    show Steps p.tables e below (T130.setTop (mkF m 115 #[.val (.ref a), .val (.ref ar), .val .null, .val (.int ix), .val (.long old), .second] [(.int ix), (.int en), (.ref si)])) _
    refine st132 _ ?_
    show Steps p.tables e below (T132.setTop (mkF m 116 #[.val (.ref a), .val (.ref ar), .val .null, .val (.int ix), .val (.long old), .second] [])) _
    refine XS.aloadN X132.here hx rfl (hb hby d5_116) rfl rfl ?_
    show Steps p.tables e below (T132.setTop (mkF m 117 #[.val (.ref a), .val (.ref ar), .val .null, .val (.int ix), .val (.long old), .second] [(.ref a)])) _
    refine st134 _ ?_
    show Steps p.tables e below (T134.setTop (mkF m 120 #[.val (.ref a), .val (.ref ar), .val .null, .val (.int ix), .val (.long old), .second] [(.ref ov)])) _
    exact kt
  have f136 := (f129.keep (Keep.of_wr W132) (ninS ne_a_si nin0))
  obtain ⟨T137, X137, e137, st137⟩ := getF X134 hx hZ hown (host := "") (Or.inl (hw _ (List.mem_of_getElem? (i := 34) rfl))) Via.refl e134 f136 (g := (mkF m 121 #[.val (.ref a), .val (.ref ar), .val .null, .val (.int ix), .val (.long old), .second] [(.ref a), (.ref ov)])) rfl rfl (hb hby d5_121)
  have f138 := (((V_ov.keep (Keep.of_wr W120) (ninS (Ne.symm ne_ia_ov) nin0)).keep (Keep.of_wr W126) (ninS (Ne.symm ne_la_ov) nin0)).keep (Keep.of_wr W132) (ninS (Ne.symm ne_si_ov) nin0))
  obtain ⟨T139, h139, X139, e139, W139, V139, st139⟩ := own_stJ X137 hx hZ e137 f138 (i := k) hen hben (g := (mkF m 126 #[.val (.ref a), .val (.ref ar), .val .null, .val (.int ix), .val (.long old), .second] [(.long old), (.int en), (.ref ov)])) rfl rfl (hb hby d5_126)
  have N139 := Fr.snoc X139 N132 g_ov
  have f140 := (f136.keep (Keep.of_wr W139) (ninS ne_a_ov nin0))
  obtain ⟨T141, X141, e141, st141⟩ := getF X139 hx hZ hown (host := "") (Or.inl (hw _ (List.mem_of_getElem? (i := 34) rfl))) Via.refl e139 f140 (g := (mkF m 129 #[.val (.ref a), .val (.ref ar), .val .null, .val (.int ix), .val (.long old), .second] [(.ref a), (.ref a)])) rfl rfl (hb hby d5_129)
  have f142 := ((((E_a.keep (Keep.of_wr W120)).keep (Keep.of_wr W126)).keep (Keep.of_wr W132)).keep (Keep.of_wr W139))
  obtain ⟨T143, h143, X143, e143, W143, st143⟩ := putF X141 hx hZ hown (host := "") (Or.inl (hw _ (List.mem_of_getElem? (i := 34) rfl))) Via.refl e141 f140 f142 (Or.inl (hw _ (List.mem_of_getElem? (i := 35) rfl))) (hw _ (List.mem_of_getElem? (i := 1) rfl)) (ty := .int) (by decide) rfl rfl (g := (mkF m 134 #[.val (.ref a), .val (.ref ar), .val .null, .val (.int ix), .val (.long old), .second] [(.int (en + (1 : Int32))), (.ref a)])) rfl rfl (hb hby d5_134)
  have N143 := Fr.snoc X143 N139 g_a
  have F143 := Fld.same W143 f140
  have k144 : ∀ tg_, Steps p.tables e below (T143.setTop (mkF m 137 #[.val (.ref a), .val (.ref ar), .val .null, .val (.int ix), .val (.long old), .second] [])) tg_ → Steps p.tables e below (s₁.setTop (entryFrame m #[(.ref a), (.ref ar), .null, (.int ix), (.long old)] 6)) tg_ := by
    intro tg_ kt
    refine k135 tg_ ?_
    refine XS.aloadN X134.here hx rfl (hb hby d5_120) rfl rfl ?_
    show Steps p.tables e below (T134.setTop (mkF m 121 #[.val (.ref a), .val (.ref ar), .val .null, .val (.int ix), .val (.long old), .second] [(.ref a), (.ref ov)])) _
    refine st137 _ ?_
    show Steps p.tables e below (T137.setTop (mkF m 124 #[.val (.ref a), .val (.ref ar), .val .null, .val (.int ix), .val (.long old), .second] [(.int en), (.ref ov)])) _
    refine XS.lload X137.here hx rfl (hb hby d5_124) rfl ?_
    show Steps p.tables e below (T137.setTop (mkF m 126 #[.val (.ref a), .val (.ref ar), .val .null, .val (.int ix), .val (.long old), .second] [(.long old), (.int en), (.ref ov)])) _
    refine st139 _ ?_
    show Steps p.tables e below (T139.setTop (mkF m 127 #[.val (.ref a), .val (.ref ar), .val .null, .val (.int ix), .val (.long old), .second] [])) _
    refine XS.aloadN X139.here hx rfl (hb hby d5_127) rfl rfl ?_
    show Steps p.tables e below (T139.setTop (mkF m 128 #[.val (.ref a), .val (.ref ar), .val .null, .val (.int ix), .val (.long old), .second] [(.ref a)])) _
    refine XS.dup X139.here hx rfl (hb hby d5_128) rfl rfl ?_
    show Steps p.tables e below (T139.setTop (mkF m 129 #[.val (.ref a), .val (.ref ar), .val .null, .val (.int ix), .val (.long old), .second] [(.ref a), (.ref a)])) _
    refine st141 _ ?_
    show Steps p.tables e below (T141.setTop (mkF m 132 #[.val (.ref a), .val (.ref ar), .val .null, .val (.int ix), .val (.long old), .second] [(.int en), (.ref a)])) _
    refine XS.iconst X141.here hx rfl (hb hby d5_132) ?_
    show Steps p.tables e below (T141.setTop (mkF m 133 #[.val (.ref a), .val (.ref ar), .val .null, .val (.int ix), .val (.long old), .second] [(.int (1 : Int32)), (.int en), (.ref a)])) _
    refine XS.iadd X141.here hx rfl (hb hby d5_133) rfl ?_
    show Steps p.tables e below (T141.setTop (mkF m 134 #[.val (.ref a), .val (.ref ar), .val .null, .val (.int ix), .val (.long old), .second] [(.int (en + (1 : Int32))), (.ref a)])) _
    refine st143 _ ?_
    show Steps p.tables e below (T143.setTop (mkF m 137 #[.val (.ref a), .val (.ref ar), .val .null, .val (.int ix), .val (.long old), .second] [])) _
    exact kt
  have f145 := ((((((Keep.refl h0 [a, ia, la, si, ov]).trans (Keep.of_wr W120) (allS (Or.inl (List.mem_of_getElem? (i := 1) rfl)) all0)).trans (Keep.of_wr W126) (allS (Or.inl (List.mem_of_getElem? (i := 2) rfl)) all0)).trans (Keep.of_wr W132) (allS (Or.inl (List.mem_of_getElem? (i := 3) rfl)) all0)).trans (Keep.of_wr W139) (allS (Or.inl (List.mem_of_getElem? (i := 4) rfl)) all0)).trans (Keep.of_wr W143) (allS (Or.inl (List.mem_of_getElem? (i := 0) rfl)) all0))
  have f146 := (Fld.other W143 ((((F_a_intArrays.keep (Keep.of_wr W120) (ninS ne_a_ia nin0)).keep (Keep.of_wr W126) (ninS ne_a_la nin0)).keep (Keep.of_wr W132) (ninS ne_a_si nin0)).keep (Keep.of_wr W139) (ninS ne_a_ov nin0)) (Or.inr (slot_ne (Or.inl (hw _ (List.mem_of_getElem? (i := 12) rfl))) (Or.inl (hw _ (List.mem_of_getElem? (i := 35) rfl))) (by decide) (t := (.array (.array .int))) (t' := .int) (by decide) (by decide))))
  have f147 := (Fld.other W143 (((f121.keep (Keep.of_wr W126) (ninS ne_a_la nin0)).keep (Keep.of_wr W132) (ninS ne_a_si nin0)).keep (Keep.of_wr W139) (ninS ne_a_ov nin0)) (Or.inr (slot_ne (Or.inl (hw _ (List.mem_of_getElem? (i := 16) rfl))) (Or.inl (hw _ (List.mem_of_getElem? (i := 35) rfl))) (by decide) (t := (.array (.array .long))) (t' := .int) (by decide) (by decide))))
  have f148 := (Fld.other W143 ((f127.keep (Keep.of_wr W132) (ninS ne_a_si nin0)).keep (Keep.of_wr W139) (ninS ne_a_ov nin0)) (Or.inr (slot_ne (Or.inl (hw _ (List.mem_of_getElem? (i := 19) rfl))) (Or.inl (hw _ (List.mem_of_getElem? (i := 35) rfl))) (by decide) (t := (.array .int)) (t' := .int) (by decide) (by decide))))
  have f149 := (Fld.other W143 (f133.keep (Keep.of_wr W139) (ninS ne_a_ov nin0)) (Or.inr (slot_ne (Or.inl (hw _ (List.mem_of_getElem? (i := 22) rfl))) (Or.inl (hw _ (List.mem_of_getElem? (i := 35) rfl))) (by decide) (t := (.array .long)) (t' := .int) (by decide) (by decide))))
  have f150 := (Fld.other W143 ((((F_a_levelStarts.keep (Keep.of_wr W120) (ninS ne_a_ia nin0)).keep (Keep.of_wr W126) (ninS ne_a_la nin0)).keep (Keep.of_wr W132) (ninS ne_a_si nin0)).keep (Keep.of_wr W139) (ninS ne_a_ov nin0)) (Or.inr (slot_ne (Or.inl (hw _ (List.mem_of_getElem? (i := 24) rfl))) (Or.inl (hw _ (List.mem_of_getElem? (i := 35) rfl))) (by decide) (t := (.array .int)) (t' := .int) (by decide) (by decide))))
  have f151 := (Fld.other W143 ((((F_a_outerStamps.keep (Keep.of_wr W120) (ninS ne_a_ia nin0)).keep (Keep.of_wr W126) (ninS ne_a_la nin0)).keep (Keep.of_wr W132) (ninS ne_a_si nin0)).keep (Keep.of_wr W139) (ninS ne_a_ov nin0)) (Or.inr (slot_ne (Or.inl (hw _ (List.mem_of_getElem? (i := 26) rfl))) (Or.inl (hw _ (List.mem_of_getElem? (i := 35) rfl))) (by decide) (t := (.array .long)) (t' := .int) (by decide) (by decide))))
  have f152 := (Fld.other W143 ((((F_a_level.keep (Keep.of_wr W120) (ninS ne_a_ia nin0)).keep (Keep.of_wr W126) (ninS ne_a_la nin0)).keep (Keep.of_wr W132) (ninS ne_a_si nin0)).keep (Keep.of_wr W139) (ninS ne_a_ov nin0)) (Or.inr (slot_ne (Or.inl (hw _ (List.mem_of_getElem? (i := 33) rfl))) (Or.inl (hw _ (List.mem_of_getElem? (i := 35) rfl))) (by decide) (t := .int) (t' := .int) (by decide) (by decide))))
  have f153 := (Fld.other W143 ((((F_a_stamp.keep (Keep.of_wr W120) (ninS ne_a_ia nin0)).keep (Keep.of_wr W126) (ninS ne_a_la nin0)).keep (Keep.of_wr W132) (ninS ne_a_si nin0)).keep (Keep.of_wr W139) (ninS ne_a_ov nin0)) (Or.inr (slot_ne (Or.inl (hw _ (List.mem_of_getElem? (i := 37) rfl))) (Or.inl (hw _ (List.mem_of_getElem? (i := 35) rfl))) (by decide) (t := .long) (t' := .int) (by decide) (by decide))))
  have f154 := (Fld.other W143 ((((F_a_lastStamp.keep (Keep.of_wr W120) (ninS ne_a_ia nin0)).keep (Keep.of_wr W126) (ninS ne_a_la nin0)).keep (Keep.of_wr W132) (ninS ne_a_si nin0)).keep (Keep.of_wr W139) (ninS ne_a_ov nin0)) (Or.inr (slot_ne (Or.inl (hw _ (List.mem_of_getElem? (i := 39) rfl))) (Or.inl (hw _ (List.mem_of_getElem? (i := 35) rfl))) (by decide) (t := .long) (t' := .int) (by decide) (by decide))))
  have f155 := ((((V120.keep (Keep.of_wr W126) (ninS ne_ia_la nin0)).keep (Keep.of_wr W132) (ninS ne_ia_si nin0)).keep (Keep.of_wr W139) (ninS ne_ia_ov nin0)).keep (Keep.of_wr W143) (ninS (Ne.symm ne_a_ia) nin0))
  have f156 := (((V126.keep (Keep.of_wr W132) (ninS ne_la_si nin0)).keep (Keep.of_wr W139) (ninS ne_la_ov nin0)).keep (Keep.of_wr W143) (ninS (Ne.symm ne_a_la) nin0))
  have f157 := ((V132.keep (Keep.of_wr W139) (ninS ne_si_ov nin0)).keep (Keep.of_wr W143) (ninS (Ne.symm ne_a_si) nin0))
  have f158 := (V139.keep (Keep.of_wr W143) (ninS (Ne.symm ne_a_ov) nin0))
  obtain ⟨fs, hr, hrun, hended, hW, hsame⟩ := X143.leave (v := none) (fun _ => rfl) (hlocks := by first | exact BodyLoose.notSynchronized Bd | exact Body.notSynchronized Bd)
  refine ⟨_, _, k144 _ (X143.returnOut hx Bd.returns (hb hby d5_137) hr), hrun, hended, _, _, rfl, ?_, ⟨_, rfl⟩, hW, hsame.mono (by decide) (by decide)⟩
  show QrecI Z a ar ix old ia la si ov ls os en lv sp lsp k gi gl fx fo h0 n0 _ T143.heap _
  rw [e143]
  exact ⟨rfl, N143, f145, f146, f147, f148, f149, f150, f151, f152, f153, f154, F143, f155, f156, f157, f158⟩
theorem ef_recJ (m : MethodId) (x0 : Addr) (x1 : Addr) (x2 : Int32) (x3 : Int64) : entryFrame m #[(.ref x0), .null, (.ref x1), (.int x2), (.long x3)] 6 = mkF m 0 #[.val (.ref x0), .val .null, .val (.ref x1), .val (.int x2), .val (.long x3), .second] [] := by first | (simp [entryFrame, mkF, argsToLocals, Value.category]; done) | rfl
def QrecJ (Z : State) (a : Addr) (ar : Addr) (ix : Int32) (old : Int64) (ia : Addr) (la : Addr) (si : Addr) (ov : Addr) (ls : Addr) (os : Addr) (en : Int32) (lv : Int32) (sp : Int64) (lsp : Int64) (k : Nat) (gi : Nat → Value) (gl : Nat → Value) (fx : Nat → Int32) (fo : Nat → Int64) (h0 : Heap) (n0 : Nat) (rv_ : Option Value) (h : Heap) (LL_ : List Loc) : Prop := rv_ = none ∧ Fr n0 LL_ ∧ Keep h0 h [a, ia, la, si, ov] ∧ Fld Z h a "com/example/tablewise/tablewise/propagation/Trail" "intArrays" "[[I" (.ref ia) ∧ Fld Z h a "com/example/tablewise/tablewise/propagation/Trail" "longArrays" "[[J" (.ref la) ∧ Fld Z h a "com/example/tablewise/tablewise/propagation/Trail" "slotIndices" "[I" (.ref si) ∧ Fld Z h a "com/example/tablewise/tablewise/propagation/Trail" "oldValues" "[J" (.ref ov) ∧ Fld Z h a "com/example/tablewise/tablewise/propagation/Trail" "levelStarts" "[I" (.ref ls) ∧ Fld Z h a "com/example/tablewise/tablewise/propagation/Trail" "outerStamps" "[J" (.ref os) ∧ Fld Z h a "com/example/tablewise/tablewise/propagation/Trail" "level" "I" (.int lv) ∧ Fld Z h a "com/example/tablewise/tablewise/propagation/Trail" "stamp" "J" (.long sp) ∧ Fld Z h a "com/example/tablewise/tablewise/propagation/Trail" "lastStamp" "J" (.long lsp) ∧ Fld Z h a "com/example/tablewise/tablewise/propagation/Trail" "entries" "I" (.int (en + (1 : Int32))) ∧ own_AR Z h ia .int "[I" 64 (own_upd gi k .null) ∧ own_AR Z h la .long "[J" 64 (own_upd gl k (.ref ar)) ∧ own_AI Z h si .int 64 (own_upd fx k ix) ∧ own_AL Z h ov 64 (own_upd fo k old)
set_option maxRecDepth 65536 in
set_option maxHeartbeats 40000000 in
theorem rmrecJ (l : Launch) (Z : State) (a0 : Array Value) (hw : ∀ d ∈ tables_1, d.before a0 Z = true) (ws : List Jvm.Cond) (a : Addr) (ar : Addr) (ix : Int32) (old : Int64) (ia : Addr) (la : Addr) (si : Addr) (ov : Addr) (ls : Addr) (os : Addr) (en : Int32) (lv : Int32) (sp : Int64) (lsp : Int64) (k : Nat) (gi : Nat → Value) (gl : Nat → Value) (fx : Nat → Int32) (fo : Nat → Int64) (h0 : Heap) (n0 : Nat) (Z0 : n0 ≤ h0.size) (E_a : Exa Z h0 a "com/example/tablewise/tablewise/propagation/Trail") (E_ar : Exa Z h0 ar "[J") (F_a_intArrays : Fld Z h0 a "com/example/tablewise/tablewise/propagation/Trail" "intArrays" "[[I" (.ref ia)) (F_a_longArrays : Fld Z h0 a "com/example/tablewise/tablewise/propagation/Trail" "longArrays" "[[J" (.ref la)) (F_a_slotIndices : Fld Z h0 a "com/example/tablewise/tablewise/propagation/Trail" "slotIndices" "[I" (.ref si)) (F_a_oldValues : Fld Z h0 a "com/example/tablewise/tablewise/propagation/Trail" "oldValues" "[J" (.ref ov)) (F_a_entries : Fld Z h0 a "com/example/tablewise/tablewise/propagation/Trail" "entries" "I" (.int en)) (F_a_levelStarts : Fld Z h0 a "com/example/tablewise/tablewise/propagation/Trail" "levelStarts" "[I" (.ref ls)) (F_a_outerStamps : Fld Z h0 a "com/example/tablewise/tablewise/propagation/Trail" "outerStamps" "[J" (.ref os)) (F_a_level : Fld Z h0 a "com/example/tablewise/tablewise/propagation/Trail" "level" "I" (.int lv)) (F_a_stamp : Fld Z h0 a "com/example/tablewise/tablewise/propagation/Trail" "stamp" "J" (.long sp)) (F_a_lastStamp : Fld Z h0 a "com/example/tablewise/tablewise/propagation/Trail" "lastStamp" "J" (.long lsp)) (V_ia : own_AR Z h0 ia .int "[I" 64 gi) (V_la : own_AR Z h0 la .long "[J" 64 gl) (V_si : own_AI Z h0 si .int 64 fx) (V_ov : own_AL Z h0 ov 64 fo) (g_a : n0 ≤ a) (g_ia : n0 ≤ ia) (g_la : n0 ≤ la) (g_si : n0 ≤ si) (g_ov : n0 ≤ ov) (ne_a_ia : a ≠ ia) (ne_a_la : a ≠ la) (ne_a_si : a ≠ si) (ne_a_ov : a ≠ ov) (ne_ia_la : ia ≠ la) (ne_ia_si : ia ≠ si) (ne_ia_ov : ia ≠ ov) (ne_la_si : la ≠ si) (ne_la_ov : la ≠ ov) (ne_si_ov : si ≠ ov) (hen : en.toInt = (k : Int)) (hben : k < 64) :
    MetFree l (⟨"com/example/tablewise/tablewise/propagation/Trail", "record", "([I[JIJ)V"⟩ : MethodName) (head1 (Jvm.Cond.code (⟨"com/example/tablewise/tablewise/propagation/Trail", "record", "([I[JIJ)V"⟩ : MethodName) prog_23_method_7_code 6 none :: ws) ({ frames := 0, cells := 0, slots := 0, locals := 0 } : Room)) (fun aa UU => aa = #[(.ref a), .null, (.ref ar), (.int ix), (.long old)] ∧ Z.Warmed39 UU.vm ∧ UU.heap = h0) (fun _ _ _ _ _ => True) (fun _ UU oo UV => ∃ vv LL, oo = .returned vv ∧ QrecJ Z a ar ix old ia la si ov ls os en lv sp lsp k gi gl fx fo h0 n0 vv UV.heap LL ∧ FrameEnd UU oo UV LL ({ frames := 0, cells := 0, slots := 0, locals := 0 } : Room).cells ({ frames := 0, cells := 0, slots := 0, locals := 0 } : Room).slots) := by
  refine MetFree.of_bodySF (plainFor_of_name pn_5) hisR ?_
  intro p e s m args below meth c s₁ Bd hml0 hP hK
  obtain ⟨rfl, hZ, hh⟩ := hP
  have hx := Bd.exec
  have hby := Bd.bytes
  have hml : c.maxLocals = 6 := hml0
  have hown : s.vm.findClass "com/example/tablewise/tablewise/propagation/Trail" = some m.cls := findClass_of_methodNamed Bd.named
  have hnm := (name_of_methodNamed Bd.named Bd.method).1
  have X0 : Stand p l e ({ frames := 0, cells := 0, slots := 0, locals := 0 } : Room) s m #[(.ref a), .null, (.ref ar), (.int ix), (.long old)] below meth c s₁ [] 0 0 := Stand.of_body Bd
  have e0 : s₁.heap = h0 := by rw [← hh, Bd.state]; rfl
  have N0 := Fr.nil n0
  have k0 : ∀ tg_, Steps p.tables e below (s₁.setTop (mkF m 0 #[.val (.ref a), .val .null, .val (.ref ar), .val (.int ix), .val (.long old), .second] [])) tg_ → Steps p.tables e below (s₁.setTop (entryFrame m #[(.ref a), .null, (.ref ar), (.int ix), (.long old)] 6)) tg_ := fun tg_ k => castTop (ef_recJ m a ar ix old) k
  obtain ⟨T159, X159, e159, st159⟩ := getF X0 hx hZ hown (host := "") (Or.inl (hw _ (List.mem_of_getElem? (i := 34) rfl))) Via.refl e0 F_a_entries (g := (mkF m 1 #[.val (.ref a), .val .null, .val (.ref ar), .val (.int ix), .val (.long old), .second] [(.ref a)])) rfl rfl (hb hby d5_1)
  obtain ⟨T160, X160, e160, st160⟩ := getF X159 hx hZ hown (host := "") (Or.inl (hw _ (List.mem_of_getElem? (i := 21) rfl))) Via.refl e159 F_a_oldValues (g := (mkF m 5 #[.val (.ref a), .val .null, .val (.ref ar), .val (.int ix), .val (.long old), .second] [(.ref a), (.int en)])) rfl rfl (hb hby d5_5)
  have hc9_161 : ¬ (en = (64 : Int32)) := (fun q => by rw [q] at hen; have o : (64 : Int32).toInt = 64 := (by decide); omega)
  obtain ⟨T162, X162, e162, st162⟩ := getF X160 hx hZ hown (host := "") (Or.inl (hw _ (List.mem_of_getElem? (i := 11) rfl))) Via.refl e160 F_a_intArrays (g := (mkF m 87 #[.val (.ref a), .val .null, .val (.ref ar), .val (.int ix), .val (.long old), .second] [(.ref a)])) rfl rfl (hb hby d5_87)
  obtain ⟨T163, X163, e163, st163⟩ := getF X162 hx hZ hown (host := "") (Or.inl (hw _ (List.mem_of_getElem? (i := 34) rfl))) Via.refl e162 F_a_entries (g := (mkF m 91 #[.val (.ref a), .val .null, .val (.ref ar), .val (.int ix), .val (.long old), .second] [(.ref a), (.ref ia)])) rfl rfl (hb hby d5_91)
  obtain ⟨T164, h164, X164, e164, W164, V164, st164⟩ := own_stAR X163 hx hZ e163 V_ia (i := k) hen hben (Or.inl rfl) (g := (mkF m 95 #[.val (.ref a), .val .null, .val (.ref ar), .val (.int ix), .val (.long old), .second] [.null, (.int en), (.ref ia)])) rfl rfl (hb hby d5_95)
  have N164 := Fr.snoc X164 N0 g_ia
  have f165 := (F_a_longArrays.keep (Keep.of_wr W164) (ninS ne_a_ia nin0))
  obtain ⟨T166, X166, e166, st166⟩ := getF X164 hx hZ hown (host := "") (Or.inl (hw _ (List.mem_of_getElem? (i := 15) rfl))) Via.refl e164 f165 (g := (mkF m 97 #[.val (.ref a), .val .null, .val (.ref ar), .val (.int ix), .val (.long old), .second] [(.ref a)])) rfl rfl (hb hby d5_97)
  have f167 := (F_a_entries.keep (Keep.of_wr W164) (ninS ne_a_ia nin0))
  obtain ⟨T168, X168, e168, st168⟩ := getF X166 hx hZ hown (host := "") (Or.inl (hw _ (List.mem_of_getElem? (i := 34) rfl))) Via.refl e166 f167 (g := (mkF m 101 #[.val (.ref a), .val .null, .val (.ref ar), .val (.int ix), .val (.long old), .second] [(.ref a), (.ref la)])) rfl rfl (hb hby d5_101)
  have f169 := (V_la.keep (Keep.of_wr W164) (ninS (Ne.symm ne_ia_la) nin0))
  have f170 := (E_ar.keep (Keep.of_wr W164))
  obtain ⟨T171, h171, X171, e171, W171, V171, st171⟩ := own_stAR X168 hx hZ e168 f169 (i := k) hen hben (Or.inr ⟨_, rfl, f170⟩) (g := (mkF m 105 #[.val (.ref a), .val .null, .val (.ref ar), .val (.int ix), .val (.long old), .second] [(.ref ar), (.int en), (.ref la)])) rfl rfl (hb hby d5_105)
  have N171 := Fr.snoc X171 N164 g_la
  have f172 := ((F_a_slotIndices.keep (Keep.of_wr W164) (ninS ne_a_ia nin0)).keep (Keep.of_wr W171) (ninS ne_a_la nin0))
  obtain ⟨T173, X173, e173, st173⟩ := getF X171 hx hZ hown (host := "") (Or.inl (hw _ (List.mem_of_getElem? (i := 18) rfl))) Via.refl e171 f172 (g := (mkF m 107 #[.val (.ref a), .val .null, .val (.ref ar), .val (.int ix), .val (.long old), .second] [(.ref a)])) rfl rfl (hb hby d5_107)
  have f174 := (f167.keep (Keep.of_wr W171) (ninS ne_a_la nin0))
  obtain ⟨T175, X175, e175, st175⟩ := getF X173 hx hZ hown (host := "") (Or.inl (hw _ (List.mem_of_getElem? (i := 34) rfl))) Via.refl e173 f174 (g := (mkF m 111 #[.val (.ref a), .val .null, .val (.ref ar), .val (.int ix), .val (.long old), .second] [(.ref a), (.ref si)])) rfl rfl (hb hby d5_111)
  have f176 := ((V_si.keep (Keep.of_wr W164) (ninS (Ne.symm ne_ia_si) nin0)).keep (Keep.of_wr W171) (ninS (Ne.symm ne_la_si) nin0))
  obtain ⟨T177, h177, X177, e177, W177, V177, st177⟩ := own_stI X175 hx hZ e175 f176 (i := k) hen hben (g := (mkF m 115 #[.val (.ref a), .val .null, .val (.ref ar), .val (.int ix), .val (.long old), .second] [(.int ix), (.int en), (.ref si)])) rfl rfl (hb hby d5_115)
  have N177 := Fr.snoc X177 N171 g_si
  have f178 := (((F_a_oldValues.keep (Keep.of_wr W164) (ninS ne_a_ia nin0)).keep (Keep.of_wr W171) (ninS ne_a_la nin0)).keep (Keep.of_wr W177) (ninS ne_a_si nin0))
  obtain ⟨T179, X179, e179, st179⟩ := getF X177 hx hZ hown (host := "") (Or.inl (hw _ (List.mem_of_getElem? (i := 21) rfl))) Via.refl e177 f178 (g := (mkF m 117 #[.val (.ref a), .val .null, .val (.ref ar), .val (.int ix), .val (.long old), .second] [(.ref a)])) rfl rfl (hb hby d5_117)
  have k180 : ∀ tg_, Steps p.tables e below (T179.setTop (mkF m 120 #[.val (.ref a), .val .null, .val (.ref ar), .val (.int ix), .val (.long old), .second] [(.ref ov)])) tg_ → Steps p.tables e below (s₁.setTop (entryFrame m #[(.ref a), .null, (.ref ar), (.int ix), (.long old)] 6)) tg_ := by
    intro tg_ kt
    refine k0 tg_ ?_
    refine XS.aloadN X0.here hx rfl (hb hby d5_0) rfl rfl ?_
    show Steps p.tables e below (s₁.setTop (mkF m 1 #[.val (.ref a), .val .null, .val (.ref ar), .val (.int ix), .val (.long old), .second] [(.ref a)])) _
    refine st159 _ ?_
    show Steps p.tables e below (T159.setTop (mkF m 4 #[.val (.ref a), .val .null, .val (.ref ar), .val (.int ix), .val (.long old), .second] [(.int en)])) _
    refine XS.aloadN X159.here hx rfl (hb hby d5_4) rfl rfl ?_
    show Steps p.tables e below (T159.setTop (mkF m 5 #[.val (.ref a), .val .null, .val (.ref ar), .val (.int ix), .val (.long old), .second] [(.ref a), (.int en)])) _
    refine st160 _ ?_
    show Steps p.tables e below (T160.setTop (mkF m 8 #[.val (.ref a), .val .null, .val (.ref ar), .val (.int ix), .val (.long old), .second] [(.ref ov), (.int en)])) _
    refine own_len X160 hx hZ e160 V_ov (z := (64 : Int32)) (by decide) (g := (mkF m 8 #[.val (.ref a), .val .null, .val (.ref ar), .val (.int ix), .val (.long old), .second] [(.ref ov), (.int en)])) rfl rfl (hb hby d5_8) _ ?_
    show Steps p.tables e below (T160.setTop (mkF m 9 #[.val (.ref a), .val .null, .val (.ref ar), .val (.int ix), .val (.long old), .second] [(.int (64 : Int32)), (.int en)])) _
    refine XS.icmpYes X160.here hx rfl (pc0 := 9) (pc' := 86) rfl (hb hby d5_9) rfl (feq hc9_161).2 (by decide) (by decide) ?_
    show Steps p.tables e below (T160.setTop (mkF m 86 #[.val (.ref a), .val .null, .val (.ref ar), .val (.int ix), .val (.long old), .second] [])) _
    refine XS.aloadN X160.here hx rfl (hb hby d5_86) rfl rfl ?_
    show Steps p.tables e below (T160.setTop (mkF m 87 #[.val (.ref a), .val .null, .val (.ref ar), .val (.int ix), .val (.long old), .second] [(.ref a)])) _
    refine st162 _ ?_
    show Steps p.tables e below (T162.setTop (mkF m 90 #[.val (.ref a), .val .null, .val (.ref ar), .val (.int ix), .val (.long old), .second] [(.ref ia)])) _
    refine XS.aloadN X162.here hx rfl (hb hby d5_90) rfl rfl ?_
    show Steps p.tables e below (T162.setTop (mkF m 91 #[.val (.ref a), .val .null, .val (.ref ar), .val (.int ix), .val (.long old), .second] [(.ref a), (.ref ia)])) _
    refine st163 _ ?_
    show Steps p.tables e below (T163.setTop (mkF m 94 #[.val (.ref a), .val .null, .val (.ref ar), .val (.int ix), .val (.long old), .second] [(.int en), (.ref ia)])) _
    refine XS.aloadN X163.here hx rfl (hb hby d5_94) rfl rfl ?_
    show Steps p.tables e below (T163.setTop (mkF m 95 #[.val (.ref a), .val .null, .val (.ref ar), .val (.int ix), .val (.long old), .second] [.null, (.int en), (.ref ia)])) _
    refine st164 _ ?_
    show Steps p.tables e below (T164.setTop (mkF m 96 #[.val (.ref a), .val .null, .val (.ref ar), .val (.int ix), .val (.long old), .second] [])) _
    refine XS.aloadN X164.here hx rfl (hb hby d5_96) rfl rfl ?_
    show Steps p.tables e below (T164.setTop (mkF m 97 #[.val (.ref a), .val .null, .val (.ref ar), .val (.int ix), .val (.long old), .second] [(.ref a)])) _
    refine st166 _ ?_
    show Steps p.tables e below (T166.setTop (mkF m 100 #[.val (.ref a), .val .null, .val (.ref ar), .val (.int ix), .val (.long old), .second] [(.ref la)])) _
    refine XS.aloadN X166.here hx rfl (hb hby d5_100) rfl rfl ?_
    show Steps p.tables e below (T166.setTop (mkF m 101 #[.val (.ref a), .val .null, .val (.ref ar), .val (.int ix), .val (.long old), .second] [(.ref a), (.ref la)])) _
    refine st168 _ ?_
    show Steps p.tables e below (T168.setTop (mkF m 104 #[.val (.ref a), .val .null, .val (.ref ar), .val (.int ix), .val (.long old), .second] [(.int en), (.ref la)])) _
    refine XS.aloadN X168.here hx rfl (hb hby d5_104) rfl rfl ?_
    show Steps p.tables e below (T168.setTop (mkF m 105 #[.val (.ref a), .val .null, .val (.ref ar), .val (.int ix), .val (.long old), .second] [(.ref ar), (.int en), (.ref la)])) _
    refine st171 _ ?_
    show Steps p.tables e below (T171.setTop (mkF m 106 #[.val (.ref a), .val .null, .val (.ref ar), .val (.int ix), .val (.long old), .second] [])) _
    refine XS.aloadN X171.here hx rfl (hb hby d5_106) rfl rfl ?_
    show Steps p.tables e below (T171.setTop (mkF m 107 #[.val (.ref a), .val .null, .val (.ref ar), .val (.int ix), .val (.long old), .second] [(.ref a)])) _
    refine st173 _ ?_
    show Steps p.tables e below (T173.setTop (mkF m 110 #[.val (.ref a), .val .null, .val (.ref ar), .val (.int ix), .val (.long old), .second] [(.ref si)])) _
    refine XS.aloadN X173.here hx rfl (hb hby d5_110) rfl rfl ?_
    show Steps p.tables e below (T173.setTop (mkF m 111 #[.val (.ref a), .val .null, .val (.ref ar), .val (.int ix), .val (.long old), .second] [(.ref a), (.ref si)])) _
    refine st175 _ ?_
    show Steps p.tables e below (T175.setTop (mkF m 114 #[.val (.ref a), .val .null, .val (.ref ar), .val (.int ix), .val (.long old), .second] [(.int en), (.ref si)])) _
    refine XS.iloadN X175.here hx rfl (hb hby d5_114) rfl ?_
    show Steps p.tables e below (T175.setTop (mkF m 115 #[.val (.ref a), .val .null, .val (.ref ar), .val (.int ix), .val (.long old), .second] [(.int ix), (.int en), (.ref si)])) _
    refine st177 _ ?_
    show Steps p.tables e below (T177.setTop (mkF m 116 #[.val (.ref a), .val .null, .val (.ref ar), .val (.int ix), .val (.long old), .second] [])) _
    refine XS.aloadN X177.here hx rfl (hb hby d5_116) rfl rfl ?_
    show Steps p.tables e below (T177.setTop (mkF m 117 #[.val (.ref a), .val .null, .val (.ref ar), .val (.int ix), .val (.long old), .second] [(.ref a)])) _
    refine st179 _ ?_
    show Steps p.tables e below (T179.setTop (mkF m 120 #[.val (.ref a), .val .null, .val (.ref ar), .val (.int ix), .val (.long old), .second] [(.ref ov)])) _
    exact kt
  have f181 := (f174.keep (Keep.of_wr W177) (ninS ne_a_si nin0))
  obtain ⟨T182, X182, e182, st182⟩ := getF X179 hx hZ hown (host := "") (Or.inl (hw _ (List.mem_of_getElem? (i := 34) rfl))) Via.refl e179 f181 (g := (mkF m 121 #[.val (.ref a), .val .null, .val (.ref ar), .val (.int ix), .val (.long old), .second] [(.ref a), (.ref ov)])) rfl rfl (hb hby d5_121)
  have f183 := (((V_ov.keep (Keep.of_wr W164) (ninS (Ne.symm ne_ia_ov) nin0)).keep (Keep.of_wr W171) (ninS (Ne.symm ne_la_ov) nin0)).keep (Keep.of_wr W177) (ninS (Ne.symm ne_si_ov) nin0))
  obtain ⟨T184, h184, X184, e184, W184, V184, st184⟩ := own_stJ X182 hx hZ e182 f183 (i := k) hen hben (g := (mkF m 126 #[.val (.ref a), .val .null, .val (.ref ar), .val (.int ix), .val (.long old), .second] [(.long old), (.int en), (.ref ov)])) rfl rfl (hb hby d5_126)
  have N184 := Fr.snoc X184 N177 g_ov
  have f185 := (f181.keep (Keep.of_wr W184) (ninS ne_a_ov nin0))
  obtain ⟨T186, X186, e186, st186⟩ := getF X184 hx hZ hown (host := "") (Or.inl (hw _ (List.mem_of_getElem? (i := 34) rfl))) Via.refl e184 f185 (g := (mkF m 129 #[.val (.ref a), .val .null, .val (.ref ar), .val (.int ix), .val (.long old), .second] [(.ref a), (.ref a)])) rfl rfl (hb hby d5_129)
  have f187 := ((((E_a.keep (Keep.of_wr W164)).keep (Keep.of_wr W171)).keep (Keep.of_wr W177)).keep (Keep.of_wr W184))
  obtain ⟨T188, h188, X188, e188, W188, st188⟩ := putF X186 hx hZ hown (host := "") (Or.inl (hw _ (List.mem_of_getElem? (i := 34) rfl))) Via.refl e186 f185 f187 (Or.inl (hw _ (List.mem_of_getElem? (i := 35) rfl))) (hw _ (List.mem_of_getElem? (i := 1) rfl)) (ty := .int) (by decide) rfl rfl (g := (mkF m 134 #[.val (.ref a), .val .null, .val (.ref ar), .val (.int ix), .val (.long old), .second] [(.int (en + (1 : Int32))), (.ref a)])) rfl rfl (hb hby d5_134)
  have N188 := Fr.snoc X188 N184 g_a
  have F188 := Fld.same W188 f185
  have k189 : ∀ tg_, Steps p.tables e below (T188.setTop (mkF m 137 #[.val (.ref a), .val .null, .val (.ref ar), .val (.int ix), .val (.long old), .second] [])) tg_ → Steps p.tables e below (s₁.setTop (entryFrame m #[(.ref a), .null, (.ref ar), (.int ix), (.long old)] 6)) tg_ := by
    intro tg_ kt
    refine k180 tg_ ?_
    refine XS.aloadN X179.here hx rfl (hb hby d5_120) rfl rfl ?_
    show Steps p.tables e below (T179.setTop (mkF m 121 #[.val (.ref a), .val .null, .val (.ref ar), .val (.int ix), .val (.long old), .second] [(.ref a), (.ref ov)])) _
    refine st182 _ ?_
    show Steps p.tables e below (T182.setTop (mkF m 124 #[.val (.ref a), .val .null, .val (.ref ar), .val (.int ix), .val (.long old), .second] [(.int en), (.ref ov)])) _
    refine XS.lload X182.here hx rfl (hb hby d5_124) rfl ?_
    show Steps p.tables e below (T182.setTop (mkF m 126 #[.val (.ref a), .val .null, .val (.ref ar), .val (.int ix), .val (.long old), .second] [(.long old), (.int en), (.ref ov)])) _
    refine st184 _ ?_
    show Steps p.tables e below (T184.setTop (mkF m 127 #[.val (.ref a), .val .null, .val (.ref ar), .val (.int ix), .val (.long old), .second] [])) _
    refine XS.aloadN X184.here hx rfl (hb hby d5_127) rfl rfl ?_
    show Steps p.tables e below (T184.setTop (mkF m 128 #[.val (.ref a), .val .null, .val (.ref ar), .val (.int ix), .val (.long old), .second] [(.ref a)])) _
    refine XS.dup X184.here hx rfl (hb hby d5_128) rfl rfl ?_
    show Steps p.tables e below (T184.setTop (mkF m 129 #[.val (.ref a), .val .null, .val (.ref ar), .val (.int ix), .val (.long old), .second] [(.ref a), (.ref a)])) _
    refine st186 _ ?_
    show Steps p.tables e below (T186.setTop (mkF m 132 #[.val (.ref a), .val .null, .val (.ref ar), .val (.int ix), .val (.long old), .second] [(.int en), (.ref a)])) _
    refine XS.iconst X186.here hx rfl (hb hby d5_132) ?_
    show Steps p.tables e below (T186.setTop (mkF m 133 #[.val (.ref a), .val .null, .val (.ref ar), .val (.int ix), .val (.long old), .second] [(.int (1 : Int32)), (.int en), (.ref a)])) _
    refine XS.iadd X186.here hx rfl (hb hby d5_133) rfl ?_
    show Steps p.tables e below (T186.setTop (mkF m 134 #[.val (.ref a), .val .null, .val (.ref ar), .val (.int ix), .val (.long old), .second] [(.int (en + (1 : Int32))), (.ref a)])) _
    refine st188 _ ?_
    show Steps p.tables e below (T188.setTop (mkF m 137 #[.val (.ref a), .val .null, .val (.ref ar), .val (.int ix), .val (.long old), .second] [])) _
    exact kt
  have f190 := ((((((Keep.refl h0 [a, ia, la, si, ov]).trans (Keep.of_wr W164) (allS (Or.inl (List.mem_of_getElem? (i := 1) rfl)) all0)).trans (Keep.of_wr W171) (allS (Or.inl (List.mem_of_getElem? (i := 2) rfl)) all0)).trans (Keep.of_wr W177) (allS (Or.inl (List.mem_of_getElem? (i := 3) rfl)) all0)).trans (Keep.of_wr W184) (allS (Or.inl (List.mem_of_getElem? (i := 4) rfl)) all0)).trans (Keep.of_wr W188) (allS (Or.inl (List.mem_of_getElem? (i := 0) rfl)) all0))
  have f191 := (Fld.other W188 ((((F_a_intArrays.keep (Keep.of_wr W164) (ninS ne_a_ia nin0)).keep (Keep.of_wr W171) (ninS ne_a_la nin0)).keep (Keep.of_wr W177) (ninS ne_a_si nin0)).keep (Keep.of_wr W184) (ninS ne_a_ov nin0)) (Or.inr (slot_ne (Or.inl (hw _ (List.mem_of_getElem? (i := 12) rfl))) (Or.inl (hw _ (List.mem_of_getElem? (i := 35) rfl))) (by decide) (t := (.array (.array .int))) (t' := .int) (by decide) (by decide))))
  have f192 := (Fld.other W188 (((f165.keep (Keep.of_wr W171) (ninS ne_a_la nin0)).keep (Keep.of_wr W177) (ninS ne_a_si nin0)).keep (Keep.of_wr W184) (ninS ne_a_ov nin0)) (Or.inr (slot_ne (Or.inl (hw _ (List.mem_of_getElem? (i := 16) rfl))) (Or.inl (hw _ (List.mem_of_getElem? (i := 35) rfl))) (by decide) (t := (.array (.array .long))) (t' := .int) (by decide) (by decide))))
  have f193 := (Fld.other W188 ((f172.keep (Keep.of_wr W177) (ninS ne_a_si nin0)).keep (Keep.of_wr W184) (ninS ne_a_ov nin0)) (Or.inr (slot_ne (Or.inl (hw _ (List.mem_of_getElem? (i := 19) rfl))) (Or.inl (hw _ (List.mem_of_getElem? (i := 35) rfl))) (by decide) (t := (.array .int)) (t' := .int) (by decide) (by decide))))
  have f194 := (Fld.other W188 (f178.keep (Keep.of_wr W184) (ninS ne_a_ov nin0)) (Or.inr (slot_ne (Or.inl (hw _ (List.mem_of_getElem? (i := 22) rfl))) (Or.inl (hw _ (List.mem_of_getElem? (i := 35) rfl))) (by decide) (t := (.array .long)) (t' := .int) (by decide) (by decide))))
  have f195 := (Fld.other W188 ((((F_a_levelStarts.keep (Keep.of_wr W164) (ninS ne_a_ia nin0)).keep (Keep.of_wr W171) (ninS ne_a_la nin0)).keep (Keep.of_wr W177) (ninS ne_a_si nin0)).keep (Keep.of_wr W184) (ninS ne_a_ov nin0)) (Or.inr (slot_ne (Or.inl (hw _ (List.mem_of_getElem? (i := 24) rfl))) (Or.inl (hw _ (List.mem_of_getElem? (i := 35) rfl))) (by decide) (t := (.array .int)) (t' := .int) (by decide) (by decide))))
  have f196 := (Fld.other W188 ((((F_a_outerStamps.keep (Keep.of_wr W164) (ninS ne_a_ia nin0)).keep (Keep.of_wr W171) (ninS ne_a_la nin0)).keep (Keep.of_wr W177) (ninS ne_a_si nin0)).keep (Keep.of_wr W184) (ninS ne_a_ov nin0)) (Or.inr (slot_ne (Or.inl (hw _ (List.mem_of_getElem? (i := 26) rfl))) (Or.inl (hw _ (List.mem_of_getElem? (i := 35) rfl))) (by decide) (t := (.array .long)) (t' := .int) (by decide) (by decide))))
  have f197 := (Fld.other W188 ((((F_a_level.keep (Keep.of_wr W164) (ninS ne_a_ia nin0)).keep (Keep.of_wr W171) (ninS ne_a_la nin0)).keep (Keep.of_wr W177) (ninS ne_a_si nin0)).keep (Keep.of_wr W184) (ninS ne_a_ov nin0)) (Or.inr (slot_ne (Or.inl (hw _ (List.mem_of_getElem? (i := 33) rfl))) (Or.inl (hw _ (List.mem_of_getElem? (i := 35) rfl))) (by decide) (t := .int) (t' := .int) (by decide) (by decide))))
  have f198 := (Fld.other W188 ((((F_a_stamp.keep (Keep.of_wr W164) (ninS ne_a_ia nin0)).keep (Keep.of_wr W171) (ninS ne_a_la nin0)).keep (Keep.of_wr W177) (ninS ne_a_si nin0)).keep (Keep.of_wr W184) (ninS ne_a_ov nin0)) (Or.inr (slot_ne (Or.inl (hw _ (List.mem_of_getElem? (i := 37) rfl))) (Or.inl (hw _ (List.mem_of_getElem? (i := 35) rfl))) (by decide) (t := .long) (t' := .int) (by decide) (by decide))))
  have f199 := (Fld.other W188 ((((F_a_lastStamp.keep (Keep.of_wr W164) (ninS ne_a_ia nin0)).keep (Keep.of_wr W171) (ninS ne_a_la nin0)).keep (Keep.of_wr W177) (ninS ne_a_si nin0)).keep (Keep.of_wr W184) (ninS ne_a_ov nin0)) (Or.inr (slot_ne (Or.inl (hw _ (List.mem_of_getElem? (i := 39) rfl))) (Or.inl (hw _ (List.mem_of_getElem? (i := 35) rfl))) (by decide) (t := .long) (t' := .int) (by decide) (by decide))))
  have f200 := ((((V164.keep (Keep.of_wr W171) (ninS ne_ia_la nin0)).keep (Keep.of_wr W177) (ninS ne_ia_si nin0)).keep (Keep.of_wr W184) (ninS ne_ia_ov nin0)).keep (Keep.of_wr W188) (ninS (Ne.symm ne_a_ia) nin0))
  have f201 := (((V171.keep (Keep.of_wr W177) (ninS ne_la_si nin0)).keep (Keep.of_wr W184) (ninS ne_la_ov nin0)).keep (Keep.of_wr W188) (ninS (Ne.symm ne_a_la) nin0))
  have f202 := ((V177.keep (Keep.of_wr W184) (ninS ne_si_ov nin0)).keep (Keep.of_wr W188) (ninS (Ne.symm ne_a_si) nin0))
  have f203 := (V184.keep (Keep.of_wr W188) (ninS (Ne.symm ne_a_ov) nin0))
  obtain ⟨fs, hr, hrun, hended, hW, hsame⟩ := X188.leave (v := none) (fun _ => rfl) (hlocks := by first | exact BodyLoose.notSynchronized Bd | exact Body.notSynchronized Bd)
  refine ⟨_, _, k189 _ (X188.returnOut hx Bd.returns (hb hby d5_137) hr), hrun, hended, _, _, rfl, ?_, ⟨_, rfl⟩, hW, hsame.mono (by decide) (by decide)⟩
  show QrecJ Z a ar ix old ia la si ov ls os en lv sp lsp k gi gl fx fo h0 n0 _ T188.heap _
  rw [e188]
  exact ⟨rfl, N188, f190, f191, f192, f193, f194, f195, f196, f197, f198, f199, F188, f200, f201, f202, f203⟩
theorem pd_2 : parseMethodDescriptor "([I[JIJ)V" = some ⟨[(.array .int), (.array .long), .int, .long], none⟩ := by decide +kernel
theorem d4_0 : decode prog_23_method_5_code 0 = .ok (.aload_n 2, 1) := by decide +kernel
theorem d4_1 : decode prog_23_method_5_code 1 = .ok (.iload_n 3, 1) := by decide +kernel
theorem d4_2 : decode prog_23_method_5_code 2 = .ok (.laload, 1) := by decide +kernel
theorem d4_3 : decode prog_23_method_5_code 3 = .ok (.aload_n 0, 1) := by decide +kernel
theorem d4_4 : decode prog_23_method_5_code 4 = .ok (.getfield 49, 3) := by decide +kernel
theorem d4_7 : decode prog_23_method_5_code 7 = .ok (.lcmp, 1) := by decide +kernel
theorem d4_8 : decode prog_23_method_5_code 8 = .ok (.ifCond .eq 21, 3) := by decide +kernel
theorem d4_11 : decode prog_23_method_5_code 11 = .ok (.aload_n 0, 1) := by decide +kernel
theorem d4_12 : decode prog_23_method_5_code 12 = .ok (.aload_n 1, 1) := by decide +kernel
theorem d4_13 : decode prog_23_method_5_code 13 = .ok (.aconst_null, 1) := by decide +kernel
theorem d4_14 : decode prog_23_method_5_code 14 = .ok (.iload_n 3, 1) := by decide +kernel
theorem d4_15 : decode prog_23_method_5_code 15 = .ok (.aload_n 1, 1) := by decide +kernel
theorem d4_16 : decode prog_23_method_5_code 16 = .ok (.iload_n 3, 1) := by decide +kernel
theorem d4_17 : decode prog_23_method_5_code 17 = .ok (.iaload, 1) := by decide +kernel
theorem d4_18 : decode prog_23_method_5_code 18 = .ok (.i2l, 1) := by decide +kernel
theorem d4_19 : decode prog_23_method_5_code 19 = .ok (.invokevirtual 56, 3) := by decide +kernel
theorem d4_22 : decode prog_23_method_5_code 22 = .ok (.aload_n 2, 1) := by decide +kernel
theorem d4_23 : decode prog_23_method_5_code 23 = .ok (.iload_n 3, 1) := by decide +kernel
theorem d4_24 : decode prog_23_method_5_code 24 = .ok (.aload_n 0, 1) := by decide +kernel
theorem d4_25 : decode prog_23_method_5_code 25 = .ok (.getfield 49, 3) := by decide +kernel
theorem d4_28 : decode prog_23_method_5_code 28 = .ok (.lastore, 1) := by decide +kernel
theorem d4_29 : decode prog_23_method_5_code 29 = .ok (.aload_n 1, 1) := by decide +kernel
theorem d4_30 : decode prog_23_method_5_code 30 = .ok (.iload_n 3, 1) := by decide +kernel
theorem d4_31 : decode prog_23_method_5_code 31 = .ok (.iload 4, 2) := by decide +kernel
theorem d4_33 : decode prog_23_method_5_code 33 = .ok (.iastore, 1) := by decide +kernel
theorem d4_34 : decode prog_23_method_5_code 34 = .ok (.return_, 1) := by decide +kernel
theorem pn_4 : plainName "com/example/tablewise/tablewise/propagation/Trail" = true := by first | (simp [plainName, overriddenIn]; done) | decide +kernel
theorem ef_setIr (m : MethodId) (x0 : Addr) (x1 : Addr) (x2 : Addr) (x3 : Int32) (x4 : Int32) : entryFrame m #[(.ref x0), (.ref x1), (.ref x2), (.int x3), (.int x4)] 5 = mkF m 0 #[.val (.ref x0), .val (.ref x1), .val (.ref x2), .val (.int x3), .val (.int x4)] [] := by first | (simp [entryFrame, mkF, argsToLocals, Value.category]; done) | rfl
def QsetIr (Z : State) (a : Addr) (ar : Addr) (mk : Addr) (ix : Int32) (vl : Int32) (ia : Addr) (la : Addr) (si : Addr) (ov : Addr) (ls : Addr) (os : Addr) (en : Int32) (lv : Int32) (sp : Int64) (lsp : Int64) (k : Nat) (gi : Nat → Value) (gl : Nat → Value) (fx : Nat → Int32) (fo : Nat → Int64) (i : Nat) (fa : Nat → Int32) (fm : Nat → Int64) (h0 : Heap) (n0 : Nat) (rv_ : Option Value) (h : Heap) (LL_ : List Loc) : Prop := rv_ = none ∧ Fr n0 LL_ ∧ Keep h0 h [a, ia, la, si, ov, ar, mk] ∧ Fld Z h a "com/example/tablewise/tablewise/propagation/Trail" "intArrays" "[[I" (.ref ia) ∧ Fld Z h a "com/example/tablewise/tablewise/propagation/Trail" "longArrays" "[[J" (.ref la) ∧ Fld Z h a "com/example/tablewise/tablewise/propagation/Trail" "slotIndices" "[I" (.ref si) ∧ Fld Z h a "com/example/tablewise/tablewise/propagation/Trail" "oldValues" "[J" (.ref ov) ∧ Fld Z h a "com/example/tablewise/tablewise/propagation/Trail" "levelStarts" "[I" (.ref ls) ∧ Fld Z h a "com/example/tablewise/tablewise/propagation/Trail" "outerStamps" "[J" (.ref os) ∧ Fld Z h a "com/example/tablewise/tablewise/propagation/Trail" "level" "I" (.int lv) ∧ Fld Z h a "com/example/tablewise/tablewise/propagation/Trail" "stamp" "J" (.long sp) ∧ Fld Z h a "com/example/tablewise/tablewise/propagation/Trail" "lastStamp" "J" (.long lsp) ∧ Fld Z h a "com/example/tablewise/tablewise/propagation/Trail" "entries" "I" (.int (en + (1 : Int32))) ∧ own_AR Z h ia .int "[I" 64 (own_upd gi k (.ref ar)) ∧ own_AR Z h la .long "[J" 64 (own_upd gl k .null) ∧ own_AI Z h si .int 64 (own_upd fx k ix) ∧ own_AL Z h ov 64 (own_upd fo k ((fa i).toInt64)) ∧ own_AI Z h ar .int 2 (own_upd fa i vl) ∧ own_AL Z h mk 2 (own_upd fm i sp)
set_option maxRecDepth 65536 in
set_option maxHeartbeats 40000000 in
theorem rmsetIr (l : Launch) (Z : State) (a0 : Array Value) (hw : ∀ d ∈ tables_1, d.before a0 Z = true) (ws : List Jvm.Cond) (a : Addr) (ar : Addr) (mk : Addr) (ix : Int32) (vl : Int32) (ia : Addr) (la : Addr) (si : Addr) (ov : Addr) (ls : Addr) (os : Addr) (en : Int32) (lv : Int32) (sp : Int64) (lsp : Int64) (k : Nat) (gi : Nat → Value) (gl : Nat → Value) (fx : Nat → Int32) (fo : Nat → Int64) (i : Nat) (fa : Nat → Int32) (fm : Nat → Int64) (h0 : Heap) (n0 : Nat) (Z0 : n0 ≤ h0.size) (E_a : Exa Z h0 a "com/example/tablewise/tablewise/propagation/Trail") (E_ar : Exa Z h0 ar "[I") (F_a_intArrays : Fld Z h0 a "com/example/tablewise/tablewise/propagation/Trail" "intArrays" "[[I" (.ref ia)) (F_a_longArrays : Fld Z h0 a "com/example/tablewise/tablewise/propagation/Trail" "longArrays" "[[J" (.ref la)) (F_a_slotIndices : Fld Z h0 a "com/example/tablewise/tablewise/propagation/Trail" "slotIndices" "[I" (.ref si)) (F_a_oldValues : Fld Z h0 a "com/example/tablewise/tablewise/propagation/Trail" "oldValues" "[J" (.ref ov)) (F_a_entries : Fld Z h0 a "com/example/tablewise/tablewise/propagation/Trail" "entries" "I" (.int en)) (F_a_levelStarts : Fld Z h0 a "com/example/tablewise/tablewise/propagation/Trail" "levelStarts" "[I" (.ref ls)) (F_a_outerStamps : Fld Z h0 a "com/example/tablewise/tablewise/propagation/Trail" "outerStamps" "[J" (.ref os)) (F_a_level : Fld Z h0 a "com/example/tablewise/tablewise/propagation/Trail" "level" "I" (.int lv)) (F_a_stamp : Fld Z h0 a "com/example/tablewise/tablewise/propagation/Trail" "stamp" "J" (.long sp)) (F_a_lastStamp : Fld Z h0 a "com/example/tablewise/tablewise/propagation/Trail" "lastStamp" "J" (.long lsp)) (V_ia : own_AR Z h0 ia .int "[I" 64 gi) (V_la : own_AR Z h0 la .long "[J" 64 gl) (V_si : own_AI Z h0 si .int 64 fx) (V_ov : own_AL Z h0 ov 64 fo) (V_ar : own_AI Z h0 ar .int 2 fa) (V_mk : own_AL Z h0 mk 2 fm) (g_a : n0 ≤ a) (g_ia : n0 ≤ ia) (g_la : n0 ≤ la) (g_si : n0 ≤ si) (g_ov : n0 ≤ ov) (g_ar : n0 ≤ ar) (g_mk : n0 ≤ mk) (ne_a_ia : a ≠ ia) (ne_a_la : a ≠ la) (ne_a_si : a ≠ si) (ne_a_ov : a ≠ ov) (ne_a_ar : a ≠ ar) (ne_a_mk : a ≠ mk) (ne_ia_la : ia ≠ la) (ne_ia_si : ia ≠ si) (ne_ia_ov : ia ≠ ov) (ne_ia_ar : ia ≠ ar) (ne_ia_mk : ia ≠ mk) (ne_la_si : la ≠ si) (ne_la_ov : la ≠ ov) (ne_la_ar : la ≠ ar) (ne_la_mk : la ≠ mk) (ne_si_ov : si ≠ ov) (ne_si_ar : si ≠ ar) (ne_si_mk : si ≠ mk) (ne_ov_ar : ov ≠ ar) (ne_ov_mk : ov ≠ mk) (ne_ar_mk : ar ≠ mk) (hen : en.toInt = (k : Int)) (hben : k < 64) (hix : ix.toInt = (i : Int)) (hbix : i < 2) (hms : ¬ (fm i) = sp) :
    MetFree l (⟨"com/example/tablewise/tablewise/propagation/Trail", "set", "([I[JII)V"⟩ : MethodName) (head1 (Jvm.Cond.code (⟨"com/example/tablewise/tablewise/propagation/Trail", "set", "([I[JII)V"⟩ : MethodName) prog_23_method_5_code 5 none :: ws) ({ frames := 1, cells := 0, slots := 0, locals := 17 } : Room)) (fun aa UU => aa = #[(.ref a), (.ref ar), (.ref mk), (.int ix), (.int vl)] ∧ Z.Warmed39 UU.vm ∧ UU.heap = h0) (fun _ _ _ _ _ => True) (fun _ UU oo UV => ∃ vv LL, oo = .returned vv ∧ QsetIr Z a ar mk ix vl ia la si ov ls os en lv sp lsp k gi gl fx fo i fa fm h0 n0 vv UV.heap LL ∧ FrameEnd UU oo UV LL ({ frames := 1, cells := 0, slots := 0, locals := 17 } : Room).cells ({ frames := 1, cells := 0, slots := 0, locals := 17 } : Room).slots) := by
  refine MetFree.of_bodySF (plainFor_of_name pn_4) hisR ?_
  intro p e s m args below meth c s₁ Bd hml0 hP hK
  obtain ⟨rfl, hZ, hh⟩ := hP
  have hx := Bd.exec
  have hby := Bd.bytes
  have hml : c.maxLocals = 5 := hml0
  have hown : s.vm.findClass "com/example/tablewise/tablewise/propagation/Trail" = some m.cls := findClass_of_methodNamed Bd.named
  have hnm := (name_of_methodNamed Bd.named Bd.method).1
  have X0 : Stand p l e ({ frames := 1, cells := 0, slots := 0, locals := 17 } : Room) s m #[(.ref a), (.ref ar), (.ref mk), (.int ix), (.int vl)] below meth c s₁ [] 0 0 := Stand.of_body Bd
  have e0 : s₁.heap = h0 := by rw [← hh, Bd.state]; rfl
  have N0 := Fr.nil n0
  have k0 : ∀ tg_, Steps p.tables e below (s₁.setTop (mkF m 0 #[.val (.ref a), .val (.ref ar), .val (.ref mk), .val (.int ix), .val (.int vl)] [])) tg_ → Steps p.tables e below (s₁.setTop (entryFrame m #[(.ref a), (.ref ar), (.ref mk), (.int ix), (.int vl)] 5)) tg_ := fun tg_ k => castTop (ef_setIr m a ar mk ix vl) k
  obtain ⟨T204, X204, e204, st204⟩ := getF X0 hx hZ hown (host := "") (Or.inl (hw _ (List.mem_of_getElem? (i := 36) rfl))) Via.refl e0 F_a_stamp (g := (mkF m 4 #[.val (.ref a), .val (.ref ar), .val (.ref mk), .val (.int ix), .val (.int vl)] [(.ref a), (.long (fm i))])) rfl rfl (hb hby d4_4)
  have hc8_205 : ¬ ((fm i) = sp) := hms
  obtain ⟨cq206, q206, q206'⟩ := Exa.cell E_a
  obtain ⟨_, _, ⟨T206, L206, kc206, nc206⟩, -, X206, ⟨Lc206, hQ206, l206, y206, z206⟩, st206⟩ := X204.privateBack hx (y := (⟨"com/example/tablewise/tablewise/propagation/Trail", "record", "([I[JIJ)V"⟩ : MethodName)) hown (mvT hZ (hw _ (List.mem_of_getElem? (i := 45) rfl))) (mvT hZ (hw _ (List.mem_of_getElem? (i := 46) rfl))) (own_selP (y' := (⟨"com/example/tablewise/tablewise/propagation/Trail", "openLevel", "()V"⟩ : MethodName)) rfl (mvT hZ (hw _ (List.mem_of_getElem? (i := 30) rfl))) (mvT hZ (hw _ (List.mem_of_getElem? (i := 29) rfl))) (mvP hZ (hw _ (List.mem_of_getElem? (i := 47) rfl))) (mvT hZ (hw _ (List.mem_of_getElem? (i := 46) rfl))) (by decide)) (Cond.privateMethod_at (mvP hZ (hw _ (List.mem_of_getElem? (i := 47) rfl)) (args := #[]))) (mvT hZ (hw _ (List.mem_of_getElem? (i := 48) rfl))) (by decide) (backOf (W := 0) (rmrecI l Z a0 hw [] a ar ix ((fa i).toInt64) ia la si ov ls os en lv sp lsp k gi gl fx fo h0 n0 Z0 E_a E_ar F_a_intArrays F_a_longArrays F_a_slotIndices F_a_oldValues F_a_entries F_a_levelStarts F_a_outerStamps F_a_level F_a_stamp F_a_lastStamp V_ia V_la V_si V_ov g_a g_ia g_la g_si g_ov ne_a_ia ne_a_la ne_a_si ne_a_ov ne_ia_la ne_ia_si ne_ia_ov ne_la_si ne_la_ov ne_si_ov hen hben) hZ (hw _ (List.mem_of_getElem? (i := 48) rfl)) (hw _ (List.mem_of_getElem? (i := 2) rfl)) (by decide) (by decide)) (g := (mkF m 19 #[.val (.ref a), .val (.ref ar), .val (.ref mk), .val (.int ix), .val (.int vl)] [(.long ((fa i).toInt64)), (.int ix), .null, (.ref ar), (.ref a)])) rfl (by rw [hml]; rfl) (Steps.refl _) (a := a) (by rw [e204]; exact q206) q206' (argsL := [(.ref ar), .null, (.int ix), (.long ((fa i).toInt64))]) (rest := []) (lenOf pd_2 rfl) rfl (by show 2 * 0 + _ ≤ _; exact Nat.le_of_eq rfl) (hb hby d4_19) (fun _ _ => ⟨rfl, e204, (by decide : 0 + 0 ≤ _), (by decide : 0 + 0 ≤ _)⟩)
  dsimp only [Pt.U, Pt.locs, Pt.cells, Pt.slots] at X206 l206 y206 z206 st206 hQ206
  rw [l206, y206, z206] at X206
  replace X206 : Stand p l e ({ frames := 1, cells := 0, slots := 0, locals := 17 } : Room) s m #[(.ref a), (.ref ar), (.ref mk), (.int ix), (.int vl)] below meth c T206 _ 0 0 := X206
  obtain ⟨rfl, Nq206, oK206, oFaintArrays206, oFalongArrays206, oFaslotIndices206, oFaoldValues206, oFalevelStarts206, oFaouterStamps206, oFalevel206, oFastamp206, oFalastStamp206, oFaentries206, oAia206, oAla206, oAsi206, oAov206⟩ := hQ206
  have N206 := Fr.app N0 Nq206
  obtain ⟨T207, X207, e207, st207⟩ := getF X206 hx hZ hown (host := "") (Or.inl (hw _ (List.mem_of_getElem? (i := 36) rfl))) Via.refl rfl oFastamp206 (g := (mkF m 25 #[.val (.ref a), .val (.ref ar), .val (.ref mk), .val (.int ix), .val (.int vl)] [(.ref a), (.int ix), (.ref mk)])) rfl rfl (hb hby d4_25)
  have f208 := (V_mk.keep oK206 (ninS (Ne.symm ne_a_mk) (ninS (Ne.symm ne_ia_mk) (ninS (Ne.symm ne_la_mk) (ninS (Ne.symm ne_si_mk) (ninS (Ne.symm ne_ov_mk) nin0))))))
  obtain ⟨T209, h209, X209, e209, W209, V209, st209⟩ := own_stJ X207 hx hZ e207 f208 (i := i) hix hbix (g := (mkF m 28 #[.val (.ref a), .val (.ref ar), .val (.ref mk), .val (.int ix), .val (.int vl)] [(.long sp), (.int ix), (.ref mk)])) rfl rfl (hb hby d4_28)
  have N209 := Fr.snoc X209 N206 g_mk
  have f210 := ((V_ar.keep oK206 (ninS (Ne.symm ne_a_ar) (ninS (Ne.symm ne_ia_ar) (ninS (Ne.symm ne_la_ar) (ninS (Ne.symm ne_si_ar) (ninS (Ne.symm ne_ov_ar) nin0)))))).keep (Keep.of_wr W209) (ninS ne_ar_mk nin0))
  obtain ⟨T211, h211, X211, e211, W211, V211, st211⟩ := own_stI X209 hx hZ e209 f210 (i := i) hix hbix (g := (mkF m 33 #[.val (.ref a), .val (.ref ar), .val (.ref mk), .val (.int ix), .val (.int vl)] [(.int vl), (.int ix), (.ref ar)])) rfl rfl (hb hby d4_33)
  have N211 := Fr.snoc X211 N209 g_ar
  have k212 : ∀ tg_, Steps p.tables e below (T211.setTop (mkF m 34 #[.val (.ref a), .val (.ref ar), .val (.ref mk), .val (.int ix), .val (.int vl)] [])) tg_ → Steps p.tables e below (s₁.setTop (entryFrame m #[(.ref a), (.ref ar), (.ref mk), (.int ix), (.int vl)] 5)) tg_ := by
    intro tg_ kt
    refine k0 tg_ ?_
    refine XS.aloadN X0.here hx rfl (hb hby d4_0) rfl rfl ?_
    show Steps p.tables e below (s₁.setTop (mkF m 1 #[.val (.ref a), .val (.ref ar), .val (.ref mk), .val (.int ix), .val (.int vl)] [(.ref mk)])) _
    refine XS.iloadN X0.here hx rfl (hb hby d4_1) rfl ?_
    show Steps p.tables e below (s₁.setTop (mkF m 2 #[.val (.ref a), .val (.ref ar), .val (.ref mk), .val (.int ix), .val (.int vl)] [(.int ix), (.ref mk)])) _
    refine own_ldJ X0 hx hZ e0 V_mk (i := i) hix hbix rfl (g := (mkF m 2 #[.val (.ref a), .val (.ref ar), .val (.ref mk), .val (.int ix), .val (.int vl)] [(.int ix), (.ref mk)])) rfl rfl (hb hby d4_2) _ ?_
    show Steps p.tables e below (s₁.setTop (mkF m 3 #[.val (.ref a), .val (.ref ar), .val (.ref mk), .val (.int ix), .val (.int vl)] [(.long (fm i))])) _
    refine XS.aloadN X0.here hx rfl (hb hby d4_3) rfl rfl ?_
    show Steps p.tables e below (s₁.setTop (mkF m 4 #[.val (.ref a), .val (.ref ar), .val (.ref mk), .val (.int ix), .val (.int vl)] [(.ref a), (.long (fm i))])) _
    refine st204 _ ?_
    show Steps p.tables e below (T204.setTop (mkF m 7 #[.val (.ref a), .val (.ref ar), .val (.ref mk), .val (.int ix), .val (.int vl)] [(.long sp), (.long (fm i))])) _
    refine XS.lcmp X204.here hx rfl (hb hby d4_7) rfl ?_
    show Steps p.tables e below (T204.setTop (mkF m 8 #[.val (.ref a), .val (.ref ar), .val (.ref mk), .val (.int ix), .val (.int vl)] [(.int (lcmpW (fm i) sp))])) _
    refine XS.ifNo X204.here hx rfl (hb hby d4_8) rfl ((if0 _ _).trans (feq (fun qq_ => hc8_205 ((show ((lcmpW (fm i) sp) = 0) ↔ ((fm i) = sp) from lw_eq (fm i) sp).mp qq_))).1) ?_
    show Steps p.tables e below (T204.setTop (mkF m 11 #[.val (.ref a), .val (.ref ar), .val (.ref mk), .val (.int ix), .val (.int vl)] [])) _
    refine XS.aloadN X204.here hx rfl (hb hby d4_11) rfl rfl ?_
    show Steps p.tables e below (T204.setTop (mkF m 12 #[.val (.ref a), .val (.ref ar), .val (.ref mk), .val (.int ix), .val (.int vl)] [(.ref a)])) _
    refine XS.aloadN X204.here hx rfl (hb hby d4_12) rfl rfl ?_
    show Steps p.tables e below (T204.setTop (mkF m 13 #[.val (.ref a), .val (.ref ar), .val (.ref mk), .val (.int ix), .val (.int vl)] [(.ref ar), (.ref a)])) _
    refine XS.aconstNull X204.here hx rfl (hb hby d4_13) ?_
    show Steps p.tables e below (T204.setTop (mkF m 14 #[.val (.ref a), .val (.ref ar), .val (.ref mk), .val (.int ix), .val (.int vl)] [.null, (.ref ar), (.ref a)])) _
    refine XS.iloadN X204.here hx rfl (hb hby d4_14) rfl ?_
    show Steps p.tables e below (T204.setTop (mkF m 15 #[.val (.ref a), .val (.ref ar), .val (.ref mk), .val (.int ix), .val (.int vl)] [(.int ix), .null, (.ref ar), (.ref a)])) _
    refine XS.aloadN X204.here hx rfl (hb hby d4_15) rfl rfl ?_
    show Steps p.tables e below (T204.setTop (mkF m 16 #[.val (.ref a), .val (.ref ar), .val (.ref mk), .val (.int ix), .val (.int vl)] [(.ref ar), (.int ix), .null, (.ref ar), (.ref a)])) _
    refine XS.iloadN X204.here hx rfl (hb hby d4_16) rfl ?_
    show Steps p.tables e below (T204.setTop (mkF m 17 #[.val (.ref a), .val (.ref ar), .val (.ref mk), .val (.int ix), .val (.int vl)] [(.int ix), (.ref ar), (.int ix), .null, (.ref ar), (.ref a)])) _
    refine own_ldI X204 hx hZ e204 V_ar (i := i) hix hbix rfl (g := (mkF m 17 #[.val (.ref a), .val (.ref ar), .val (.ref mk), .val (.int ix), .val (.int vl)] [(.int ix), (.ref ar), (.int ix), .null, (.ref ar), (.ref a)])) rfl rfl (hb hby d4_17) _ ?_
    show Steps p.tables e below (T204.setTop (mkF m 18 #[.val (.ref a), .val (.ref ar), .val (.ref mk), .val (.int ix), .val (.int vl)] [(.int (fa i)), (.int ix), .null, (.ref ar), (.ref a)])) _
    refine XS.i2l X204.here hx rfl (hb hby d4_18) rfl ?_
    show Steps p.tables e below (T204.setTop (mkF m 19 #[.val (.ref a), .val (.ref ar), .val (.ref mk), .val (.int ix), .val (.int vl)] [(.long ((fa i).toInt64)), (.int ix), .null, (.ref ar), (.ref a)])) _
    refine st206.trans ?_
    show Steps p.tables e below (T206.setTop (mkF m 22 #[.val (.ref a), .val (.ref ar), .val (.ref mk), .val (.int ix), .val (.int vl)] [])) _
    refine XS.aloadN X206.here hx rfl (hb hby d4_22) rfl rfl ?_
    show Steps p.tables e below (T206.setTop (mkF m 23 #[.val (.ref a), .val (.ref ar), .val (.ref mk), .val (.int ix), .val (.int vl)] [(.ref mk)])) _
    refine XS.iloadN X206.here hx rfl (hb hby d4_23) rfl ?_
    show Steps p.tables e below (T206.setTop (mkF m 24 #[.val (.ref a), .val (.ref ar), .val (.ref mk), .val (.int ix), .val (.int vl)] [(.int ix), (.ref mk)])) _
    refine XS.aloadN X206.here hx rfl (hb hby d4_24) rfl rfl ?_
    show Steps p.tables e below (T206.setTop (mkF m 25 #[.val (.ref a), .val (.ref ar), .val (.ref mk), .val (.int ix), .val (.int vl)] [(.ref a), (.int ix), (.ref mk)])) _
    refine st207 _ ?_
    show Steps p.tables e below (T207.setTop (mkF m 28 #[.val (.ref a), .val (.ref ar), .val (.ref mk), .val (.int ix), .val (.int vl)] [(.long sp), (.int ix), (.ref mk)])) _
    refine st209 _ ?_
    show Steps p.tables e below (T209.setTop (mkF m 29 #[.val (.ref a), .val (.ref ar), .val (.ref mk), .val (.int ix), .val (.int vl)] [])) _
    refine XS.aloadN X209.here hx rfl (hb hby d4_29) rfl rfl ?_
    show Steps p.tables e below (T209.setTop (mkF m 30 #[.val (.ref a), .val (.ref ar), .val (.ref mk), .val (.int ix), .val (.int vl)] [(.ref ar)])) _
    refine XS.iloadN X209.here hx rfl (hb hby d4_30) rfl ?_
    show Steps p.tables e below (T209.setTop (mkF m 31 #[.val (.ref a), .val (.ref ar), .val (.ref mk), .val (.int ix), .val (.int vl)] [(.int ix), (.ref ar)])) _
    refine XS.iload X209.here hx rfl (hb hby d4_31) rfl ?_
    show Steps p.tables e below (T209.setTop (mkF m 33 #[.val (.ref a), .val (.ref ar), .val (.ref mk), .val (.int ix), .val (.int vl)] [(.int vl), (.int ix), (.ref ar)])) _
    refine st211 _ ?_
    show Steps p.tables e below (T211.setTop (mkF m 34 #[.val (.ref a), .val (.ref ar), .val (.ref mk), .val (.int ix), .val (.int vl)] [])) _
    exact kt
  have f213 := ((((Keep.refl h0 [a, ia, la, si, ov, ar, mk]).trans oK206 (allS (Or.inl (List.mem_of_getElem? (i := 0) rfl)) (allS (Or.inl (List.mem_of_getElem? (i := 1) rfl)) (allS (Or.inl (List.mem_of_getElem? (i := 2) rfl)) (allS (Or.inl (List.mem_of_getElem? (i := 3) rfl)) (allS (Or.inl (List.mem_of_getElem? (i := 4) rfl)) all0)))))).trans (Keep.of_wr W209) (allS (Or.inl (List.mem_of_getElem? (i := 6) rfl)) all0)).trans (Keep.of_wr W211) (allS (Or.inl (List.mem_of_getElem? (i := 5) rfl)) all0))
  have f214 := ((oFaintArrays206.keep (Keep.of_wr W209) (ninS ne_a_mk nin0)).keep (Keep.of_wr W211) (ninS ne_a_ar nin0))
  have f215 := ((oFalongArrays206.keep (Keep.of_wr W209) (ninS ne_a_mk nin0)).keep (Keep.of_wr W211) (ninS ne_a_ar nin0))
  have f216 := ((oFaslotIndices206.keep (Keep.of_wr W209) (ninS ne_a_mk nin0)).keep (Keep.of_wr W211) (ninS ne_a_ar nin0))
  have f217 := ((oFaoldValues206.keep (Keep.of_wr W209) (ninS ne_a_mk nin0)).keep (Keep.of_wr W211) (ninS ne_a_ar nin0))
  have f218 := ((oFalevelStarts206.keep (Keep.of_wr W209) (ninS ne_a_mk nin0)).keep (Keep.of_wr W211) (ninS ne_a_ar nin0))
  have f219 := ((oFaouterStamps206.keep (Keep.of_wr W209) (ninS ne_a_mk nin0)).keep (Keep.of_wr W211) (ninS ne_a_ar nin0))
  have f220 := ((oFalevel206.keep (Keep.of_wr W209) (ninS ne_a_mk nin0)).keep (Keep.of_wr W211) (ninS ne_a_ar nin0))
  have f221 := ((oFastamp206.keep (Keep.of_wr W209) (ninS ne_a_mk nin0)).keep (Keep.of_wr W211) (ninS ne_a_ar nin0))
  have f222 := ((oFalastStamp206.keep (Keep.of_wr W209) (ninS ne_a_mk nin0)).keep (Keep.of_wr W211) (ninS ne_a_ar nin0))
  have f223 := ((oFaentries206.keep (Keep.of_wr W209) (ninS ne_a_mk nin0)).keep (Keep.of_wr W211) (ninS ne_a_ar nin0))
  have f224 := ((oAia206.keep (Keep.of_wr W209) (ninS ne_ia_mk nin0)).keep (Keep.of_wr W211) (ninS ne_ia_ar nin0))
  have f225 := ((oAla206.keep (Keep.of_wr W209) (ninS ne_la_mk nin0)).keep (Keep.of_wr W211) (ninS ne_la_ar nin0))
  have f226 := ((oAsi206.keep (Keep.of_wr W209) (ninS ne_si_mk nin0)).keep (Keep.of_wr W211) (ninS ne_si_ar nin0))
  have f227 := ((oAov206.keep (Keep.of_wr W209) (ninS ne_ov_mk nin0)).keep (Keep.of_wr W211) (ninS ne_ov_ar nin0))
  have f228 := (V209.keep (Keep.of_wr W211) (ninS (Ne.symm ne_ar_mk) nin0))
  obtain ⟨fs, hr, hrun, hended, hW, hsame⟩ := X211.leave (v := none) (fun _ => rfl) (hlocks := by first | exact BodyLoose.notSynchronized Bd | exact Body.notSynchronized Bd)
  refine ⟨_, _, k212 _ (X211.returnOut hx Bd.returns (hb hby d4_34) hr), hrun, hended, _, _, rfl, ?_, ⟨_, rfl⟩, hW, hsame.mono (by decide) (by decide)⟩
  show QsetIr Z a ar mk ix vl ia la si ov ls os en lv sp lsp k gi gl fx fo i fa fm h0 n0 _ T211.heap _
  rw [e211]
  exact ⟨rfl, N211, f213, f214, f215, f216, f217, f218, f219, f220, f221, f222, f223, f224, f225, f226, f227, V211, f228⟩
theorem ef_setIs (m : MethodId) (x0 : Addr) (x1 : Addr) (x2 : Addr) (x3 : Int32) (x4 : Int32) : entryFrame m #[(.ref x0), (.ref x1), (.ref x2), (.int x3), (.int x4)] 5 = mkF m 0 #[.val (.ref x0), .val (.ref x1), .val (.ref x2), .val (.int x3), .val (.int x4)] [] := by first | (simp [entryFrame, mkF, argsToLocals, Value.category]; done) | rfl
def QsetIs (Z : State) (a : Addr) (ar : Addr) (mk : Addr) (ix : Int32) (vl : Int32) (sp : Int64) (i : Nat) (fa : Nat → Int32) (fm : Nat → Int64) (h0 : Heap) (n0 : Nat) (rv_ : Option Value) (h : Heap) (LL_ : List Loc) : Prop := rv_ = none ∧ Fr n0 LL_ ∧ Keep h0 h [ar] ∧ own_AI Z h ar .int 2 (own_upd fa i vl)
set_option maxRecDepth 65536 in
set_option maxHeartbeats 40000000 in
theorem rmsetIs (l : Launch) (Z : State) (a0 : Array Value) (hw : ∀ d ∈ tables_1, d.before a0 Z = true) (ws : List Jvm.Cond) (a : Addr) (ar : Addr) (mk : Addr) (ix : Int32) (vl : Int32) (sp : Int64) (i : Nat) (fa : Nat → Int32) (fm : Nat → Int64) (h0 : Heap) (n0 : Nat) (Z0 : n0 ≤ h0.size) (E_a : Exa Z h0 a "com/example/tablewise/tablewise/propagation/Trail") (F_a_stamp : Fld Z h0 a "com/example/tablewise/tablewise/propagation/Trail" "stamp" "J" (.long sp)) (V_ar : own_AI Z h0 ar .int 2 fa) (V_mk : own_AL Z h0 mk 2 fm) (g_ar : n0 ≤ ar) (ne_ar_mk : ar ≠ mk) (ne_a_ar : a ≠ ar) (ne_a_mk : a ≠ mk) (hix : ix.toInt = (i : Int)) (hbix : i < 2) (hms : (fm i) = sp) :
    MetFree l (⟨"com/example/tablewise/tablewise/propagation/Trail", "set", "([I[JII)V"⟩ : MethodName) (head1 (Jvm.Cond.code (⟨"com/example/tablewise/tablewise/propagation/Trail", "set", "([I[JII)V"⟩ : MethodName) prog_23_method_5_code 5 none :: ws) ({ frames := 0, cells := 0, slots := 0, locals := 0 } : Room)) (fun aa UU => aa = #[(.ref a), (.ref ar), (.ref mk), (.int ix), (.int vl)] ∧ Z.Warmed39 UU.vm ∧ UU.heap = h0) (fun _ _ _ _ _ => True) (fun _ UU oo UV => ∃ vv LL, oo = .returned vv ∧ QsetIs Z a ar mk ix vl sp i fa fm h0 n0 vv UV.heap LL ∧ FrameEnd UU oo UV LL ({ frames := 0, cells := 0, slots := 0, locals := 0 } : Room).cells ({ frames := 0, cells := 0, slots := 0, locals := 0 } : Room).slots) := by
  refine MetFree.of_bodySF (plainFor_of_name pn_4) hisR ?_
  intro p e s m args below meth c s₁ Bd hml0 hP hK
  obtain ⟨rfl, hZ, hh⟩ := hP
  have hx := Bd.exec
  have hby := Bd.bytes
  have hml : c.maxLocals = 5 := hml0
  have hown : s.vm.findClass "com/example/tablewise/tablewise/propagation/Trail" = some m.cls := findClass_of_methodNamed Bd.named
  have hnm := (name_of_methodNamed Bd.named Bd.method).1
  have X0 : Stand p l e ({ frames := 0, cells := 0, slots := 0, locals := 0 } : Room) s m #[(.ref a), (.ref ar), (.ref mk), (.int ix), (.int vl)] below meth c s₁ [] 0 0 := Stand.of_body Bd
  have e0 : s₁.heap = h0 := by rw [← hh, Bd.state]; rfl
  have N0 := Fr.nil n0
  have k0 : ∀ tg_, Steps p.tables e below (s₁.setTop (mkF m 0 #[.val (.ref a), .val (.ref ar), .val (.ref mk), .val (.int ix), .val (.int vl)] [])) tg_ → Steps p.tables e below (s₁.setTop (entryFrame m #[(.ref a), (.ref ar), (.ref mk), (.int ix), (.int vl)] 5)) tg_ := fun tg_ k => castTop (ef_setIs m a ar mk ix vl) k
  obtain ⟨T229, X229, e229, st229⟩ := getF X0 hx hZ hown (host := "") (Or.inl (hw _ (List.mem_of_getElem? (i := 36) rfl))) Via.refl e0 F_a_stamp (g := (mkF m 4 #[.val (.ref a), .val (.ref ar), .val (.ref mk), .val (.int ix), .val (.int vl)] [(.ref a), (.long (fm i))])) rfl rfl (hb hby d4_4)
  have hc8_230 : (fm i) = sp := hms
  obtain ⟨T231, h231, X231, e231, W231, V231, st231⟩ := own_stI X229 hx hZ e229 V_ar (i := i) hix hbix (g := (mkF m 33 #[.val (.ref a), .val (.ref ar), .val (.ref mk), .val (.int ix), .val (.int vl)] [(.int vl), (.int ix), (.ref ar)])) rfl rfl (hb hby d4_33)
  have N231 := Fr.snoc X231 N0 g_ar
  have k232 : ∀ tg_, Steps p.tables e below (T231.setTop (mkF m 34 #[.val (.ref a), .val (.ref ar), .val (.ref mk), .val (.int ix), .val (.int vl)] [])) tg_ → Steps p.tables e below (s₁.setTop (entryFrame m #[(.ref a), (.ref ar), (.ref mk), (.int ix), (.int vl)] 5)) tg_ := by
    intro tg_ kt
    refine k0 tg_ ?_
    refine XS.aloadN X0.here hx rfl (hb hby d4_0) rfl rfl ?_
    show Steps p.tables e below (s₁.setTop (mkF m 1 #[.val (.ref a), .val (.ref ar), .val (.ref mk), .val (.int ix), .val (.int vl)] [(.ref mk)])) _
    refine XS.iloadN X0.here hx rfl (hb hby d4_1) rfl ?_
    show Steps p.tables e below (s₁.setTop (mkF m 2 #[.val (.ref a), .val (.ref ar), .val (.ref mk), .val (.int ix), .val (.int vl)] [(.int ix), (.ref mk)])) _
    refine own_ldJ X0 hx hZ e0 V_mk (i := i) hix hbix rfl (g := (mkF m 2 #[.val (.ref a), .val (.ref ar), .val (.ref mk), .val (.int ix), .val (.int vl)] [(.int ix), (.ref mk)])) rfl rfl (hb hby d4_2) _ ?_
    show Steps p.tables e below (s₁.setTop (mkF m 3 #[.val (.ref a), .val (.ref ar), .val (.ref mk), .val (.int ix), .val (.int vl)] [(.long (fm i))])) _
    refine XS.aloadN X0.here hx rfl (hb hby d4_3) rfl rfl ?_
    show Steps p.tables e below (s₁.setTop (mkF m 4 #[.val (.ref a), .val (.ref ar), .val (.ref mk), .val (.int ix), .val (.int vl)] [(.ref a), (.long (fm i))])) _
    refine st229 _ ?_
    show Steps p.tables e below (T229.setTop (mkF m 7 #[.val (.ref a), .val (.ref ar), .val (.ref mk), .val (.int ix), .val (.int vl)] [(.long sp), (.long (fm i))])) _
    refine XS.lcmp X229.here hx rfl (hb hby d4_7) rfl ?_
    show Steps p.tables e below (T229.setTop (mkF m 8 #[.val (.ref a), .val (.ref ar), .val (.ref mk), .val (.int ix), .val (.int vl)] [(.int (lcmpW (fm i) sp))])) _
    refine XS.ifYes X229.here hx rfl (pc0 := 8) (pc' := 29) rfl (hb hby d4_8) rfl ((if0 _ _).trans (teq ((show ((lcmpW (fm i) sp) = 0) ↔ ((fm i) = sp) from lw_eq (fm i) sp).mpr hc8_230)).1) (by decide) (by decide) ?_
    show Steps p.tables e below (T229.setTop (mkF m 29 #[.val (.ref a), .val (.ref ar), .val (.ref mk), .val (.int ix), .val (.int vl)] [])) _
    refine XS.aloadN X229.here hx rfl (hb hby d4_29) rfl rfl ?_
    show Steps p.tables e below (T229.setTop (mkF m 30 #[.val (.ref a), .val (.ref ar), .val (.ref mk), .val (.int ix), .val (.int vl)] [(.ref ar)])) _
    refine XS.iloadN X229.here hx rfl (hb hby d4_30) rfl ?_
    show Steps p.tables e below (T229.setTop (mkF m 31 #[.val (.ref a), .val (.ref ar), .val (.ref mk), .val (.int ix), .val (.int vl)] [(.int ix), (.ref ar)])) _
    refine XS.iload X229.here hx rfl (hb hby d4_31) rfl ?_
    show Steps p.tables e below (T229.setTop (mkF m 33 #[.val (.ref a), .val (.ref ar), .val (.ref mk), .val (.int ix), .val (.int vl)] [(.int vl), (.int ix), (.ref ar)])) _
    refine st231 _ ?_
    show Steps p.tables e below (T231.setTop (mkF m 34 #[.val (.ref a), .val (.ref ar), .val (.ref mk), .val (.int ix), .val (.int vl)] [])) _
    exact kt
  have f233 := ((Keep.refl h0 [ar]).trans (Keep.of_wr W231) (allS (Or.inl (List.mem_of_getElem? (i := 0) rfl)) all0))
  obtain ⟨fs, hr, hrun, hended, hW, hsame⟩ := X231.leave (v := none) (fun _ => rfl) (hlocks := by first | exact BodyLoose.notSynchronized Bd | exact Body.notSynchronized Bd)
  refine ⟨_, _, k232 _ (X231.returnOut hx Bd.returns (hb hby d4_34) hr), hrun, hended, _, _, rfl, ?_, ⟨_, rfl⟩, hW, hsame.mono (by decide) (by decide)⟩
  show QsetIs Z a ar mk ix vl sp i fa fm h0 n0 _ T231.heap _
  rw [e231]
  exact ⟨rfl, N231, f233, V231⟩
theorem d6_0 : decode prog_23_method_6_code 0 = .ok (.aload_n 2, 1) := by decide +kernel
theorem d6_1 : decode prog_23_method_6_code 1 = .ok (.iload_n 3, 1) := by decide +kernel
theorem d6_2 : decode prog_23_method_6_code 2 = .ok (.laload, 1) := by decide +kernel
theorem d6_3 : decode prog_23_method_6_code 3 = .ok (.aload_n 0, 1) := by decide +kernel
theorem d6_4 : decode prog_23_method_6_code 4 = .ok (.getfield 49, 3) := by decide +kernel
theorem d6_7 : decode prog_23_method_6_code 7 = .ok (.lcmp, 1) := by decide +kernel
theorem d6_8 : decode prog_23_method_6_code 8 = .ok (.ifCond .eq 20, 3) := by decide +kernel
theorem d6_11 : decode prog_23_method_6_code 11 = .ok (.aload_n 0, 1) := by decide +kernel
theorem d6_12 : decode prog_23_method_6_code 12 = .ok (.aconst_null, 1) := by decide +kernel
theorem d6_13 : decode prog_23_method_6_code 13 = .ok (.aload_n 1, 1) := by decide +kernel
theorem d6_14 : decode prog_23_method_6_code 14 = .ok (.iload_n 3, 1) := by decide +kernel
theorem d6_15 : decode prog_23_method_6_code 15 = .ok (.aload_n 1, 1) := by decide +kernel
theorem d6_16 : decode prog_23_method_6_code 16 = .ok (.iload_n 3, 1) := by decide +kernel
theorem d6_17 : decode prog_23_method_6_code 17 = .ok (.laload, 1) := by decide +kernel
theorem d6_18 : decode prog_23_method_6_code 18 = .ok (.invokevirtual 56, 3) := by decide +kernel
theorem d6_21 : decode prog_23_method_6_code 21 = .ok (.aload_n 2, 1) := by decide +kernel
theorem d6_22 : decode prog_23_method_6_code 22 = .ok (.iload_n 3, 1) := by decide +kernel
theorem d6_23 : decode prog_23_method_6_code 23 = .ok (.aload_n 0, 1) := by decide +kernel
theorem d6_24 : decode prog_23_method_6_code 24 = .ok (.getfield 49, 3) := by decide +kernel
theorem d6_27 : decode prog_23_method_6_code 27 = .ok (.lastore, 1) := by decide +kernel
theorem d6_28 : decode prog_23_method_6_code 28 = .ok (.aload_n 1, 1) := by decide +kernel
theorem d6_29 : decode prog_23_method_6_code 29 = .ok (.iload_n 3, 1) := by decide +kernel
theorem d6_30 : decode prog_23_method_6_code 30 = .ok (.lload 4, 2) := by decide +kernel
theorem d6_32 : decode prog_23_method_6_code 32 = .ok (.lastore, 1) := by decide +kernel
theorem d6_33 : decode prog_23_method_6_code 33 = .ok (.return_, 1) := by decide +kernel
theorem pn_6 : plainName "com/example/tablewise/tablewise/propagation/Trail" = true := by first | (simp [plainName, overriddenIn]; done) | decide +kernel
theorem ef_setJr (m : MethodId) (x0 : Addr) (x1 : Addr) (x2 : Addr) (x3 : Int32) (x4 : Int64) : entryFrame m #[(.ref x0), (.ref x1), (.ref x2), (.int x3), (.long x4)] 6 = mkF m 0 #[.val (.ref x0), .val (.ref x1), .val (.ref x2), .val (.int x3), .val (.long x4), .second] [] := by first | (simp [entryFrame, mkF, argsToLocals, Value.category]; done) | rfl
def QsetJr (Z : State) (a : Addr) (ar : Addr) (mk : Addr) (ix : Int32) (vl : Int64) (ia : Addr) (la : Addr) (si : Addr) (ov : Addr) (ls : Addr) (os : Addr) (en : Int32) (lv : Int32) (sp : Int64) (lsp : Int64) (k : Nat) (gi : Nat → Value) (gl : Nat → Value) (fx : Nat → Int32) (fo : Nat → Int64) (i : Nat) (fa : Nat → Int64) (fm : Nat → Int64) (h0 : Heap) (n0 : Nat) (rv_ : Option Value) (h : Heap) (LL_ : List Loc) : Prop := rv_ = none ∧ Fr n0 LL_ ∧ Keep h0 h [a, ia, la, si, ov, ar, mk] ∧ Fld Z h a "com/example/tablewise/tablewise/propagation/Trail" "intArrays" "[[I" (.ref ia) ∧ Fld Z h a "com/example/tablewise/tablewise/propagation/Trail" "longArrays" "[[J" (.ref la) ∧ Fld Z h a "com/example/tablewise/tablewise/propagation/Trail" "slotIndices" "[I" (.ref si) ∧ Fld Z h a "com/example/tablewise/tablewise/propagation/Trail" "oldValues" "[J" (.ref ov) ∧ Fld Z h a "com/example/tablewise/tablewise/propagation/Trail" "levelStarts" "[I" (.ref ls) ∧ Fld Z h a "com/example/tablewise/tablewise/propagation/Trail" "outerStamps" "[J" (.ref os) ∧ Fld Z h a "com/example/tablewise/tablewise/propagation/Trail" "level" "I" (.int lv) ∧ Fld Z h a "com/example/tablewise/tablewise/propagation/Trail" "stamp" "J" (.long sp) ∧ Fld Z h a "com/example/tablewise/tablewise/propagation/Trail" "lastStamp" "J" (.long lsp) ∧ Fld Z h a "com/example/tablewise/tablewise/propagation/Trail" "entries" "I" (.int (en + (1 : Int32))) ∧ own_AR Z h ia .int "[I" 64 (own_upd gi k .null) ∧ own_AR Z h la .long "[J" 64 (own_upd gl k (.ref ar)) ∧ own_AI Z h si .int 64 (own_upd fx k ix) ∧ own_AL Z h ov 64 (own_upd fo k (fa i)) ∧ own_AL Z h ar 2 (own_upd fa i vl) ∧ own_AL Z h mk 2 (own_upd fm i sp)
set_option maxRecDepth 65536 in
set_option maxHeartbeats 40000000 in
theorem rmsetJr (l : Launch) (Z : State) (a0 : Array Value) (hw : ∀ d ∈ tables_1, d.before a0 Z = true) (ws : List Jvm.Cond) (a : Addr) (ar : Addr) (mk : Addr) (ix : Int32) (vl : Int64) (ia : Addr) (la : Addr) (si : Addr) (ov : Addr) (ls : Addr) (os : Addr) (en : Int32) (lv : Int32) (sp : Int64) (lsp : Int64) (k : Nat) (gi : Nat → Value) (gl : Nat → Value) (fx : Nat → Int32) (fo : Nat → Int64) (i : Nat) (fa : Nat → Int64) (fm : Nat → Int64) (h0 : Heap) (n0 : Nat) (Z0 : n0 ≤ h0.size) (E_a : Exa Z h0 a "com/example/tablewise/tablewise/propagation/Trail") (E_ar : Exa Z h0 ar "[J") (F_a_intArrays : Fld Z h0 a "com/example/tablewise/tablewise/propagation/Trail" "intArrays" "[[I" (.ref ia)) (F_a_longArrays : Fld Z h0 a "com/example/tablewise/tablewise/propagation/Trail" "longArrays" "[[J" (.ref la)) (F_a_slotIndices : Fld Z h0 a "com/example/tablewise/tablewise/propagation/Trail" "slotIndices" "[I" (.ref si)) (F_a_oldValues : Fld Z h0 a "com/example/tablewise/tablewise/propagation/Trail" "oldValues" "[J" (.ref ov)) (F_a_entries : Fld Z h0 a "com/example/tablewise/tablewise/propagation/Trail" "entries" "I" (.int en)) (F_a_levelStarts : Fld Z h0 a "com/example/tablewise/tablewise/propagation/Trail" "levelStarts" "[I" (.ref ls)) (F_a_outerStamps : Fld Z h0 a "com/example/tablewise/tablewise/propagation/Trail" "outerStamps" "[J" (.ref os)) (F_a_level : Fld Z h0 a "com/example/tablewise/tablewise/propagation/Trail" "level" "I" (.int lv)) (F_a_stamp : Fld Z h0 a "com/example/tablewise/tablewise/propagation/Trail" "stamp" "J" (.long sp)) (F_a_lastStamp : Fld Z h0 a "com/example/tablewise/tablewise/propagation/Trail" "lastStamp" "J" (.long lsp)) (V_ia : own_AR Z h0 ia .int "[I" 64 gi) (V_la : own_AR Z h0 la .long "[J" 64 gl) (V_si : own_AI Z h0 si .int 64 fx) (V_ov : own_AL Z h0 ov 64 fo) (V_ar : own_AL Z h0 ar 2 fa) (V_mk : own_AL Z h0 mk 2 fm) (g_a : n0 ≤ a) (g_ia : n0 ≤ ia) (g_la : n0 ≤ la) (g_si : n0 ≤ si) (g_ov : n0 ≤ ov) (g_ar : n0 ≤ ar) (g_mk : n0 ≤ mk) (ne_a_ia : a ≠ ia) (ne_a_la : a ≠ la) (ne_a_si : a ≠ si) (ne_a_ov : a ≠ ov) (ne_a_ar : a ≠ ar) (ne_a_mk : a ≠ mk) (ne_ia_la : ia ≠ la) (ne_ia_si : ia ≠ si) (ne_ia_ov : ia ≠ ov) (ne_ia_ar : ia ≠ ar) (ne_ia_mk : ia ≠ mk) (ne_la_si : la ≠ si) (ne_la_ov : la ≠ ov) (ne_la_ar : la ≠ ar) (ne_la_mk : la ≠ mk) (ne_si_ov : si ≠ ov) (ne_si_ar : si ≠ ar) (ne_si_mk : si ≠ mk) (ne_ov_ar : ov ≠ ar) (ne_ov_mk : ov ≠ mk) (ne_ar_mk : ar ≠ mk) (hen : en.toInt = (k : Int)) (hben : k < 64) (hix : ix.toInt = (i : Int)) (hbix : i < 2) (hms : ¬ (fm i) = sp) :
    MetFree l (⟨"com/example/tablewise/tablewise/propagation/Trail", "set", "([J[JIJ)V"⟩ : MethodName) (head1 (Jvm.Cond.code (⟨"com/example/tablewise/tablewise/propagation/Trail", "set", "([J[JIJ)V"⟩ : MethodName) prog_23_method_6_code 6 none :: ws) ({ frames := 1, cells := 0, slots := 0, locals := 17 } : Room)) (fun aa UU => aa = #[(.ref a), (.ref ar), (.ref mk), (.int ix), (.long vl)] ∧ Z.Warmed39 UU.vm ∧ UU.heap = h0) (fun _ _ _ _ _ => True) (fun _ UU oo UV => ∃ vv LL, oo = .returned vv ∧ QsetJr Z a ar mk ix vl ia la si ov ls os en lv sp lsp k gi gl fx fo i fa fm h0 n0 vv UV.heap LL ∧ FrameEnd UU oo UV LL ({ frames := 1, cells := 0, slots := 0, locals := 17 } : Room).cells ({ frames := 1, cells := 0, slots := 0, locals := 17 } : Room).slots) := by
  refine MetFree.of_bodySF (plainFor_of_name pn_6) hisR ?_
  intro p e s m args below meth c s₁ Bd hml0 hP hK
  obtain ⟨rfl, hZ, hh⟩ := hP
  have hx := Bd.exec
  have hby := Bd.bytes
  have hml : c.maxLocals = 6 := hml0
  have hown : s.vm.findClass "com/example/tablewise/tablewise/propagation/Trail" = some m.cls := findClass_of_methodNamed Bd.named
  have hnm := (name_of_methodNamed Bd.named Bd.method).1
  have X0 : Stand p l e ({ frames := 1, cells := 0, slots := 0, locals := 17 } : Room) s m #[(.ref a), (.ref ar), (.ref mk), (.int ix), (.long vl)] below meth c s₁ [] 0 0 := Stand.of_body Bd
  have e0 : s₁.heap = h0 := by rw [← hh, Bd.state]; rfl
  have N0 := Fr.nil n0
  have k0 : ∀ tg_, Steps p.tables e below (s₁.setTop (mkF m 0 #[.val (.ref a), .val (.ref ar), .val (.ref mk), .val (.int ix), .val (.long vl), .second] [])) tg_ → Steps p.tables e below (s₁.setTop (entryFrame m #[(.ref a), (.ref ar), (.ref mk), (.int ix), (.long vl)] 6)) tg_ := fun tg_ k => castTop (ef_setJr m a ar mk ix vl) k
  obtain ⟨T234, X234, e234, st234⟩ := getF X0 hx hZ hown (host := "") (Or.inl (hw _ (List.mem_of_getElem? (i := 36) rfl))) Via.refl e0 F_a_stamp (g := (mkF m 4 #[.val (.ref a), .val (.ref ar), .val (.ref mk), .val (.int ix), .val (.long vl), .second] [(.ref a), (.long (fm i))])) rfl rfl (hb hby d6_4)
  have hc8_235 : ¬ ((fm i) = sp) := hms
  obtain ⟨cq236, q236, q236'⟩ := Exa.cell E_a
  obtain ⟨_, _, ⟨T236, L236, kc236, nc236⟩, -, X236, ⟨Lc236, hQ236, l236, y236, z236⟩, st236⟩ := X234.privateBack hx (y := (⟨"com/example/tablewise/tablewise/propagation/Trail", "record", "([I[JIJ)V"⟩ : MethodName)) hown (mvT hZ (hw _ (List.mem_of_getElem? (i := 45) rfl))) (mvT hZ (hw _ (List.mem_of_getElem? (i := 46) rfl))) (own_selP (y' := (⟨"com/example/tablewise/tablewise/propagation/Trail", "openLevel", "()V"⟩ : MethodName)) rfl (mvT hZ (hw _ (List.mem_of_getElem? (i := 30) rfl))) (mvT hZ (hw _ (List.mem_of_getElem? (i := 29) rfl))) (mvP hZ (hw _ (List.mem_of_getElem? (i := 47) rfl))) (mvT hZ (hw _ (List.mem_of_getElem? (i := 46) rfl))) (by decide)) (Cond.privateMethod_at (mvP hZ (hw _ (List.mem_of_getElem? (i := 47) rfl)) (args := #[]))) (mvT hZ (hw _ (List.mem_of_getElem? (i := 48) rfl))) (by decide) (backOf (W := 0) (rmrecJ l Z a0 hw [] a ar ix (fa i) ia la si ov ls os en lv sp lsp k gi gl fx fo h0 n0 Z0 E_a E_ar F_a_intArrays F_a_longArrays F_a_slotIndices F_a_oldValues F_a_entries F_a_levelStarts F_a_outerStamps F_a_level F_a_stamp F_a_lastStamp V_ia V_la V_si V_ov g_a g_ia g_la g_si g_ov ne_a_ia ne_a_la ne_a_si ne_a_ov ne_ia_la ne_ia_si ne_ia_ov ne_la_si ne_la_ov ne_si_ov hen hben) hZ (hw _ (List.mem_of_getElem? (i := 48) rfl)) (hw _ (List.mem_of_getElem? (i := 2) rfl)) (by decide) (by decide)) (g := (mkF m 18 #[.val (.ref a), .val (.ref ar), .val (.ref mk), .val (.int ix), .val (.long vl), .second] [(.long (fa i)), (.int ix), (.ref ar), .null, (.ref a)])) rfl (by rw [hml]; rfl) (Steps.refl _) (a := a) (by rw [e234]; exact q236) q236' (argsL := [.null, (.ref ar), (.int ix), (.long (fa i))]) (rest := []) (lenOf pd_2 rfl) rfl (by show 2 * 0 + _ ≤ _; exact Nat.le_of_eq rfl) (hb hby d6_18) (fun _ _ => ⟨rfl, e234, (by decide : 0 + 0 ≤ _), (by decide : 0 + 0 ≤ _)⟩)
  dsimp only [Pt.U, Pt.locs, Pt.cells, Pt.slots] at X236 l236 y236 z236 st236 hQ236
  rw [l236, y236, z236] at X236
  replace X236 : Stand p l e ({ frames := 1, cells := 0, slots := 0, locals := 17 } : Room) s m #[(.ref a), (.ref ar), (.ref mk), (.int ix), (.long vl)] below meth c T236 _ 0 0 := X236
  obtain ⟨rfl, Nq236, oK236, oFaintArrays236, oFalongArrays236, oFaslotIndices236, oFaoldValues236, oFalevelStarts236, oFaouterStamps236, oFalevel236, oFastamp236, oFalastStamp236, oFaentries236, oAia236, oAla236, oAsi236, oAov236⟩ := hQ236
  have N236 := Fr.app N0 Nq236
  obtain ⟨T237, X237, e237, st237⟩ := getF X236 hx hZ hown (host := "") (Or.inl (hw _ (List.mem_of_getElem? (i := 36) rfl))) Via.refl rfl oFastamp236 (g := (mkF m 24 #[.val (.ref a), .val (.ref ar), .val (.ref mk), .val (.int ix), .val (.long vl), .second] [(.ref a), (.int ix), (.ref mk)])) rfl rfl (hb hby d6_24)
  have f238 := (V_mk.keep oK236 (ninS (Ne.symm ne_a_mk) (ninS (Ne.symm ne_ia_mk) (ninS (Ne.symm ne_la_mk) (ninS (Ne.symm ne_si_mk) (ninS (Ne.symm ne_ov_mk) nin0))))))
  obtain ⟨T239, h239, X239, e239, W239, V239, st239⟩ := own_stJ X237 hx hZ e237 f238 (i := i) hix hbix (g := (mkF m 27 #[.val (.ref a), .val (.ref ar), .val (.ref mk), .val (.int ix), .val (.long vl), .second] [(.long sp), (.int ix), (.ref mk)])) rfl rfl (hb hby d6_27)
  have N239 := Fr.snoc X239 N236 g_mk
  have f240 := ((V_ar.keep oK236 (ninS (Ne.symm ne_a_ar) (ninS (Ne.symm ne_ia_ar) (ninS (Ne.symm ne_la_ar) (ninS (Ne.symm ne_si_ar) (ninS (Ne.symm ne_ov_ar) nin0)))))).keep (Keep.of_wr W239) (ninS ne_ar_mk nin0))
  obtain ⟨T241, h241, X241, e241, W241, V241, st241⟩ := own_stJ X239 hx hZ e239 f240 (i := i) hix hbix (g := (mkF m 32 #[.val (.ref a), .val (.ref ar), .val (.ref mk), .val (.int ix), .val (.long vl), .second] [(.long vl), (.int ix), (.ref ar)])) rfl rfl (hb hby d6_32)
  have N241 := Fr.snoc X241 N239 g_ar
  have k242 : ∀ tg_, Steps p.tables e below (T241.setTop (mkF m 33 #[.val (.ref a), .val (.ref ar), .val (.ref mk), .val (.int ix), .val (.long vl), .second] [])) tg_ → Steps p.tables e below (s₁.setTop (entryFrame m #[(.ref a), (.ref ar), (.ref mk), (.int ix), (.long vl)] 6)) tg_ := by
    intro tg_ kt
    refine k0 tg_ ?_
    refine XS.aloadN X0.here hx rfl (hb hby d6_0) rfl rfl ?_
    show Steps p.tables e below (s₁.setTop (mkF m 1 #[.val (.ref a), .val (.ref ar), .val (.ref mk), .val (.int ix), .val (.long vl), .second] [(.ref mk)])) _
    refine XS.iloadN X0.here hx rfl (hb hby d6_1) rfl ?_
    show Steps p.tables e below (s₁.setTop (mkF m 2 #[.val (.ref a), .val (.ref ar), .val (.ref mk), .val (.int ix), .val (.long vl), .second] [(.int ix), (.ref mk)])) _
    refine own_ldJ X0 hx hZ e0 V_mk (i := i) hix hbix rfl (g := (mkF m 2 #[.val (.ref a), .val (.ref ar), .val (.ref mk), .val (.int ix), .val (.long vl), .second] [(.int ix), (.ref mk)])) rfl rfl (hb hby d6_2) _ ?_
    show Steps p.tables e below (s₁.setTop (mkF m 3 #[.val (.ref a), .val (.ref ar), .val (.ref mk), .val (.int ix), .val (.long vl), .second] [(.long (fm i))])) _
    refine XS.aloadN X0.here hx rfl (hb hby d6_3) rfl rfl ?_
    show Steps p.tables e below (s₁.setTop (mkF m 4 #[.val (.ref a), .val (.ref ar), .val (.ref mk), .val (.int ix), .val (.long vl), .second] [(.ref a), (.long (fm i))])) _
    refine st234 _ ?_
    show Steps p.tables e below (T234.setTop (mkF m 7 #[.val (.ref a), .val (.ref ar), .val (.ref mk), .val (.int ix), .val (.long vl), .second] [(.long sp), (.long (fm i))])) _
    refine XS.lcmp X234.here hx rfl (hb hby d6_7) rfl ?_
    show Steps p.tables e below (T234.setTop (mkF m 8 #[.val (.ref a), .val (.ref ar), .val (.ref mk), .val (.int ix), .val (.long vl), .second] [(.int (lcmpW (fm i) sp))])) _
    refine XS.ifNo X234.here hx rfl (hb hby d6_8) rfl ((if0 _ _).trans (feq (fun qq_ => hc8_235 ((show ((lcmpW (fm i) sp) = 0) ↔ ((fm i) = sp) from lw_eq (fm i) sp).mp qq_))).1) ?_
    show Steps p.tables e below (T234.setTop (mkF m 11 #[.val (.ref a), .val (.ref ar), .val (.ref mk), .val (.int ix), .val (.long vl), .second] [])) _
    refine XS.aloadN X234.here hx rfl (hb hby d6_11) rfl rfl ?_
    show Steps p.tables e below (T234.setTop (mkF m 12 #[.val (.ref a), .val (.ref ar), .val (.ref mk), .val (.int ix), .val (.long vl), .second] [(.ref a)])) _
    refine XS.aconstNull X234.here hx rfl (hb hby d6_12) ?_
    show Steps p.tables e below (T234.setTop (mkF m 13 #[.val (.ref a), .val (.ref ar), .val (.ref mk), .val (.int ix), .val (.long vl), .second] [.null, (.ref a)])) _
    refine XS.aloadN X234.here hx rfl (hb hby d6_13) rfl rfl ?_
    show Steps p.tables e below (T234.setTop (mkF m 14 #[.val (.ref a), .val (.ref ar), .val (.ref mk), .val (.int ix), .val (.long vl), .second] [(.ref ar), .null, (.ref a)])) _
    refine XS.iloadN X234.here hx rfl (hb hby d6_14) rfl ?_
    show Steps p.tables e below (T234.setTop (mkF m 15 #[.val (.ref a), .val (.ref ar), .val (.ref mk), .val (.int ix), .val (.long vl), .second] [(.int ix), (.ref ar), .null, (.ref a)])) _
    refine XS.aloadN X234.here hx rfl (hb hby d6_15) rfl rfl ?_
    show Steps p.tables e below (T234.setTop (mkF m 16 #[.val (.ref a), .val (.ref ar), .val (.ref mk), .val (.int ix), .val (.long vl), .second] [(.ref ar), (.int ix), (.ref ar), .null, (.ref a)])) _
    refine XS.iloadN X234.here hx rfl (hb hby d6_16) rfl ?_
    show Steps p.tables e below (T234.setTop (mkF m 17 #[.val (.ref a), .val (.ref ar), .val (.ref mk), .val (.int ix), .val (.long vl), .second] [(.int ix), (.ref ar), (.int ix), (.ref ar), .null, (.ref a)])) _
    refine own_ldJ X234 hx hZ e234 V_ar (i := i) hix hbix rfl (g := (mkF m 17 #[.val (.ref a), .val (.ref ar), .val (.ref mk), .val (.int ix), .val (.long vl), .second] [(.int ix), (.ref ar), (.int ix), (.ref ar), .null, (.ref a)])) rfl rfl (hb hby d6_17) _ ?_
    show Steps p.tables e below (T234.setTop (mkF m 18 #[.val (.ref a), .val (.ref ar), .val (.ref mk), .val (.int ix), .val (.long vl), .second] [(.long (fa i)), (.int ix), (.ref ar), .null, (.ref a)])) _
    refine st236.trans ?_
    show Steps p.tables e below (T236.setTop (mkF m 21 #[.val (.ref a), .val (.ref ar), .val (.ref mk), .val (.int ix), .val (.long vl), .second] [])) _
    refine XS.aloadN X236.here hx rfl (hb hby d6_21) rfl rfl ?_
    show Steps p.tables e below (T236.setTop (mkF m 22 #[.val (.ref a), .val (.ref ar), .val (.ref mk), .val (.int ix), .val (.long vl), .second] [(.ref mk)])) _
    refine XS.iloadN X236.here hx rfl (hb hby d6_22) rfl ?_
    show Steps p.tables e below (T236.setTop (mkF m 23 #[.val (.ref a), .val (.ref ar), .val (.ref mk), .val (.int ix), .val (.long vl), .second] [(.int ix), (.ref mk)])) _
    refine XS.aloadN X236.here hx rfl (hb hby d6_23) rfl rfl ?_
    show Steps p.tables e below (T236.setTop (mkF m 24 #[.val (.ref a), .val (.ref ar), .val (.ref mk), .val (.int ix), .val (.long vl), .second] [(.ref a), (.int ix), (.ref mk)])) _
    refine st237 _ ?_
    show Steps p.tables e below (T237.setTop (mkF m 27 #[.val (.ref a), .val (.ref ar), .val (.ref mk), .val (.int ix), .val (.long vl), .second] [(.long sp), (.int ix), (.ref mk)])) _
    refine st239 _ ?_
    show Steps p.tables e below (T239.setTop (mkF m 28 #[.val (.ref a), .val (.ref ar), .val (.ref mk), .val (.int ix), .val (.long vl), .second] [])) _
    refine XS.aloadN X239.here hx rfl (hb hby d6_28) rfl rfl ?_
    show Steps p.tables e below (T239.setTop (mkF m 29 #[.val (.ref a), .val (.ref ar), .val (.ref mk), .val (.int ix), .val (.long vl), .second] [(.ref ar)])) _
    refine XS.iloadN X239.here hx rfl (hb hby d6_29) rfl ?_
    show Steps p.tables e below (T239.setTop (mkF m 30 #[.val (.ref a), .val (.ref ar), .val (.ref mk), .val (.int ix), .val (.long vl), .second] [(.int ix), (.ref ar)])) _
    refine XS.lload X239.here hx rfl (hb hby d6_30) rfl ?_
    show Steps p.tables e below (T239.setTop (mkF m 32 #[.val (.ref a), .val (.ref ar), .val (.ref mk), .val (.int ix), .val (.long vl), .second] [(.long vl), (.int ix), (.ref ar)])) _
    refine st241 _ ?_
    show Steps p.tables e below (T241.setTop (mkF m 33 #[.val (.ref a), .val (.ref ar), .val (.ref mk), .val (.int ix), .val (.long vl), .second] [])) _
    exact kt
  have f243 := ((((Keep.refl h0 [a, ia, la, si, ov, ar, mk]).trans oK236 (allS (Or.inl (List.mem_of_getElem? (i := 0) rfl)) (allS (Or.inl (List.mem_of_getElem? (i := 1) rfl)) (allS (Or.inl (List.mem_of_getElem? (i := 2) rfl)) (allS (Or.inl (List.mem_of_getElem? (i := 3) rfl)) (allS (Or.inl (List.mem_of_getElem? (i := 4) rfl)) all0)))))).trans (Keep.of_wr W239) (allS (Or.inl (List.mem_of_getElem? (i := 6) rfl)) all0)).trans (Keep.of_wr W241) (allS (Or.inl (List.mem_of_getElem? (i := 5) rfl)) all0))
  have f244 := ((oFaintArrays236.keep (Keep.of_wr W239) (ninS ne_a_mk nin0)).keep (Keep.of_wr W241) (ninS ne_a_ar nin0))
  have f245 := ((oFalongArrays236.keep (Keep.of_wr W239) (ninS ne_a_mk nin0)).keep (Keep.of_wr W241) (ninS ne_a_ar nin0))
  have f246 := ((oFaslotIndices236.keep (Keep.of_wr W239) (ninS ne_a_mk nin0)).keep (Keep.of_wr W241) (ninS ne_a_ar nin0))
  have f247 := ((oFaoldValues236.keep (Keep.of_wr W239) (ninS ne_a_mk nin0)).keep (Keep.of_wr W241) (ninS ne_a_ar nin0))
  have f248 := ((oFalevelStarts236.keep (Keep.of_wr W239) (ninS ne_a_mk nin0)).keep (Keep.of_wr W241) (ninS ne_a_ar nin0))
  have f249 := ((oFaouterStamps236.keep (Keep.of_wr W239) (ninS ne_a_mk nin0)).keep (Keep.of_wr W241) (ninS ne_a_ar nin0))
  have f250 := ((oFalevel236.keep (Keep.of_wr W239) (ninS ne_a_mk nin0)).keep (Keep.of_wr W241) (ninS ne_a_ar nin0))
  have f251 := ((oFastamp236.keep (Keep.of_wr W239) (ninS ne_a_mk nin0)).keep (Keep.of_wr W241) (ninS ne_a_ar nin0))
  have f252 := ((oFalastStamp236.keep (Keep.of_wr W239) (ninS ne_a_mk nin0)).keep (Keep.of_wr W241) (ninS ne_a_ar nin0))
  have f253 := ((oFaentries236.keep (Keep.of_wr W239) (ninS ne_a_mk nin0)).keep (Keep.of_wr W241) (ninS ne_a_ar nin0))
  have f254 := ((oAia236.keep (Keep.of_wr W239) (ninS ne_ia_mk nin0)).keep (Keep.of_wr W241) (ninS ne_ia_ar nin0))
  have f255 := ((oAla236.keep (Keep.of_wr W239) (ninS ne_la_mk nin0)).keep (Keep.of_wr W241) (ninS ne_la_ar nin0))
  have f256 := ((oAsi236.keep (Keep.of_wr W239) (ninS ne_si_mk nin0)).keep (Keep.of_wr W241) (ninS ne_si_ar nin0))
  have f257 := ((oAov236.keep (Keep.of_wr W239) (ninS ne_ov_mk nin0)).keep (Keep.of_wr W241) (ninS ne_ov_ar nin0))
  have f258 := (V239.keep (Keep.of_wr W241) (ninS (Ne.symm ne_ar_mk) nin0))
  obtain ⟨fs, hr, hrun, hended, hW, hsame⟩ := X241.leave (v := none) (fun _ => rfl) (hlocks := by first | exact BodyLoose.notSynchronized Bd | exact Body.notSynchronized Bd)
  refine ⟨_, _, k242 _ (X241.returnOut hx Bd.returns (hb hby d6_33) hr), hrun, hended, _, _, rfl, ?_, ⟨_, rfl⟩, hW, hsame.mono (by decide) (by decide)⟩
  show QsetJr Z a ar mk ix vl ia la si ov ls os en lv sp lsp k gi gl fx fo i fa fm h0 n0 _ T241.heap _
  rw [e241]
  exact ⟨rfl, N241, f243, f244, f245, f246, f247, f248, f249, f250, f251, f252, f253, f254, f255, f256, f257, V241, f258⟩
theorem ef_setJs (m : MethodId) (x0 : Addr) (x1 : Addr) (x2 : Addr) (x3 : Int32) (x4 : Int64) : entryFrame m #[(.ref x0), (.ref x1), (.ref x2), (.int x3), (.long x4)] 6 = mkF m 0 #[.val (.ref x0), .val (.ref x1), .val (.ref x2), .val (.int x3), .val (.long x4), .second] [] := by first | (simp [entryFrame, mkF, argsToLocals, Value.category]; done) | rfl
def QsetJs (Z : State) (a : Addr) (ar : Addr) (mk : Addr) (ix : Int32) (vl : Int64) (sp : Int64) (i : Nat) (fa : Nat → Int64) (fm : Nat → Int64) (h0 : Heap) (n0 : Nat) (rv_ : Option Value) (h : Heap) (LL_ : List Loc) : Prop := rv_ = none ∧ Fr n0 LL_ ∧ Keep h0 h [ar] ∧ own_AL Z h ar 2 (own_upd fa i vl)
set_option maxRecDepth 65536 in
set_option maxHeartbeats 40000000 in
theorem rmsetJs (l : Launch) (Z : State) (a0 : Array Value) (hw : ∀ d ∈ tables_1, d.before a0 Z = true) (ws : List Jvm.Cond) (a : Addr) (ar : Addr) (mk : Addr) (ix : Int32) (vl : Int64) (sp : Int64) (i : Nat) (fa : Nat → Int64) (fm : Nat → Int64) (h0 : Heap) (n0 : Nat) (Z0 : n0 ≤ h0.size) (E_a : Exa Z h0 a "com/example/tablewise/tablewise/propagation/Trail") (F_a_stamp : Fld Z h0 a "com/example/tablewise/tablewise/propagation/Trail" "stamp" "J" (.long sp)) (V_ar : own_AL Z h0 ar 2 fa) (V_mk : own_AL Z h0 mk 2 fm) (g_ar : n0 ≤ ar) (ne_ar_mk : ar ≠ mk) (ne_a_ar : a ≠ ar) (ne_a_mk : a ≠ mk) (hix : ix.toInt = (i : Int)) (hbix : i < 2) (hms : (fm i) = sp) :
    MetFree l (⟨"com/example/tablewise/tablewise/propagation/Trail", "set", "([J[JIJ)V"⟩ : MethodName) (head1 (Jvm.Cond.code (⟨"com/example/tablewise/tablewise/propagation/Trail", "set", "([J[JIJ)V"⟩ : MethodName) prog_23_method_6_code 6 none :: ws) ({ frames := 0, cells := 0, slots := 0, locals := 0 } : Room)) (fun aa UU => aa = #[(.ref a), (.ref ar), (.ref mk), (.int ix), (.long vl)] ∧ Z.Warmed39 UU.vm ∧ UU.heap = h0) (fun _ _ _ _ _ => True) (fun _ UU oo UV => ∃ vv LL, oo = .returned vv ∧ QsetJs Z a ar mk ix vl sp i fa fm h0 n0 vv UV.heap LL ∧ FrameEnd UU oo UV LL ({ frames := 0, cells := 0, slots := 0, locals := 0 } : Room).cells ({ frames := 0, cells := 0, slots := 0, locals := 0 } : Room).slots) := by
  refine MetFree.of_bodySF (plainFor_of_name pn_6) hisR ?_
  intro p e s m args below meth c s₁ Bd hml0 hP hK
  obtain ⟨rfl, hZ, hh⟩ := hP
  have hx := Bd.exec
  have hby := Bd.bytes
  have hml : c.maxLocals = 6 := hml0
  have hown : s.vm.findClass "com/example/tablewise/tablewise/propagation/Trail" = some m.cls := findClass_of_methodNamed Bd.named
  have hnm := (name_of_methodNamed Bd.named Bd.method).1
  have X0 : Stand p l e ({ frames := 0, cells := 0, slots := 0, locals := 0 } : Room) s m #[(.ref a), (.ref ar), (.ref mk), (.int ix), (.long vl)] below meth c s₁ [] 0 0 := Stand.of_body Bd
  have e0 : s₁.heap = h0 := by rw [← hh, Bd.state]; rfl
  have N0 := Fr.nil n0
  have k0 : ∀ tg_, Steps p.tables e below (s₁.setTop (mkF m 0 #[.val (.ref a), .val (.ref ar), .val (.ref mk), .val (.int ix), .val (.long vl), .second] [])) tg_ → Steps p.tables e below (s₁.setTop (entryFrame m #[(.ref a), (.ref ar), (.ref mk), (.int ix), (.long vl)] 6)) tg_ := fun tg_ k => castTop (ef_setJs m a ar mk ix vl) k
  obtain ⟨T259, X259, e259, st259⟩ := getF X0 hx hZ hown (host := "") (Or.inl (hw _ (List.mem_of_getElem? (i := 36) rfl))) Via.refl e0 F_a_stamp (g := (mkF m 4 #[.val (.ref a), .val (.ref ar), .val (.ref mk), .val (.int ix), .val (.long vl), .second] [(.ref a), (.long (fm i))])) rfl rfl (hb hby d6_4)
  have hc8_260 : (fm i) = sp := hms
  obtain ⟨T261, h261, X261, e261, W261, V261, st261⟩ := own_stJ X259 hx hZ e259 V_ar (i := i) hix hbix (g := (mkF m 32 #[.val (.ref a), .val (.ref ar), .val (.ref mk), .val (.int ix), .val (.long vl), .second] [(.long vl), (.int ix), (.ref ar)])) rfl rfl (hb hby d6_32)
  have N261 := Fr.snoc X261 N0 g_ar
  have k262 : ∀ tg_, Steps p.tables e below (T261.setTop (mkF m 33 #[.val (.ref a), .val (.ref ar), .val (.ref mk), .val (.int ix), .val (.long vl), .second] [])) tg_ → Steps p.tables e below (s₁.setTop (entryFrame m #[(.ref a), (.ref ar), (.ref mk), (.int ix), (.long vl)] 6)) tg_ := by
    intro tg_ kt
    refine k0 tg_ ?_
    refine XS.aloadN X0.here hx rfl (hb hby d6_0) rfl rfl ?_
    show Steps p.tables e below (s₁.setTop (mkF m 1 #[.val (.ref a), .val (.ref ar), .val (.ref mk), .val (.int ix), .val (.long vl), .second] [(.ref mk)])) _
    refine XS.iloadN X0.here hx rfl (hb hby d6_1) rfl ?_
    show Steps p.tables e below (s₁.setTop (mkF m 2 #[.val (.ref a), .val (.ref ar), .val (.ref mk), .val (.int ix), .val (.long vl), .second] [(.int ix), (.ref mk)])) _
    refine own_ldJ X0 hx hZ e0 V_mk (i := i) hix hbix rfl (g := (mkF m 2 #[.val (.ref a), .val (.ref ar), .val (.ref mk), .val (.int ix), .val (.long vl), .second] [(.int ix), (.ref mk)])) rfl rfl (hb hby d6_2) _ ?_
    show Steps p.tables e below (s₁.setTop (mkF m 3 #[.val (.ref a), .val (.ref ar), .val (.ref mk), .val (.int ix), .val (.long vl), .second] [(.long (fm i))])) _
    refine XS.aloadN X0.here hx rfl (hb hby d6_3) rfl rfl ?_
    show Steps p.tables e below (s₁.setTop (mkF m 4 #[.val (.ref a), .val (.ref ar), .val (.ref mk), .val (.int ix), .val (.long vl), .second] [(.ref a), (.long (fm i))])) _
    refine st259 _ ?_
    show Steps p.tables e below (T259.setTop (mkF m 7 #[.val (.ref a), .val (.ref ar), .val (.ref mk), .val (.int ix), .val (.long vl), .second] [(.long sp), (.long (fm i))])) _
    refine XS.lcmp X259.here hx rfl (hb hby d6_7) rfl ?_
    show Steps p.tables e below (T259.setTop (mkF m 8 #[.val (.ref a), .val (.ref ar), .val (.ref mk), .val (.int ix), .val (.long vl), .second] [(.int (lcmpW (fm i) sp))])) _
    refine XS.ifYes X259.here hx rfl (pc0 := 8) (pc' := 28) rfl (hb hby d6_8) rfl ((if0 _ _).trans (teq ((show ((lcmpW (fm i) sp) = 0) ↔ ((fm i) = sp) from lw_eq (fm i) sp).mpr hc8_260)).1) (by decide) (by decide) ?_
    show Steps p.tables e below (T259.setTop (mkF m 28 #[.val (.ref a), .val (.ref ar), .val (.ref mk), .val (.int ix), .val (.long vl), .second] [])) _
    refine XS.aloadN X259.here hx rfl (hb hby d6_28) rfl rfl ?_
    show Steps p.tables e below (T259.setTop (mkF m 29 #[.val (.ref a), .val (.ref ar), .val (.ref mk), .val (.int ix), .val (.long vl), .second] [(.ref ar)])) _
    refine XS.iloadN X259.here hx rfl (hb hby d6_29) rfl ?_
    show Steps p.tables e below (T259.setTop (mkF m 30 #[.val (.ref a), .val (.ref ar), .val (.ref mk), .val (.int ix), .val (.long vl), .second] [(.int ix), (.ref ar)])) _
    refine XS.lload X259.here hx rfl (hb hby d6_30) rfl ?_
    show Steps p.tables e below (T259.setTop (mkF m 32 #[.val (.ref a), .val (.ref ar), .val (.ref mk), .val (.int ix), .val (.long vl), .second] [(.long vl), (.int ix), (.ref ar)])) _
    refine st261 _ ?_
    show Steps p.tables e below (T261.setTop (mkF m 33 #[.val (.ref a), .val (.ref ar), .val (.ref mk), .val (.int ix), .val (.long vl), .second] [])) _
    exact kt
  have f263 := ((Keep.refl h0 [ar]).trans (Keep.of_wr W261) (allS (Or.inl (List.mem_of_getElem? (i := 0) rfl)) all0))
  obtain ⟨fs, hr, hrun, hended, hW, hsame⟩ := X261.leave (v := none) (fun _ => rfl) (hlocks := by first | exact BodyLoose.notSynchronized Bd | exact Body.notSynchronized Bd)
  refine ⟨_, _, k262 _ (X261.returnOut hx Bd.returns (hb hby d6_33) hr), hrun, hended, _, _, rfl, ?_, ⟨_, rfl⟩, hW, hsame.mono (by decide) (by decide)⟩
  show QsetJs Z a ar mk ix vl sp i fa fm h0 n0 _ T261.heap _
  rw [e261]
  exact ⟨rfl, N261, f263, V261⟩
theorem d7_0 : decode prog_23_method_3_code 0 = .ok (.aload_n 0, 1) := by decide +kernel
theorem d7_1 : decode prog_23_method_3_code 1 = .ok (.dup, 1) := by decide +kernel
theorem d7_2 : decode prog_23_method_3_code 2 = .ok (.getfield 33, 3) := by decide +kernel
theorem d7_5 : decode prog_23_method_3_code 5 = .ok (.iconst 1, 1) := by decide +kernel
theorem d7_6 : decode prog_23_method_3_code 6 = .ok (.isub, 1) := by decide +kernel
theorem d7_7 : decode prog_23_method_3_code 7 = .ok (.putfield 33, 3) := by decide +kernel
theorem d7_10 : decode prog_23_method_3_code 10 = .ok (.aload_n 0, 1) := by decide +kernel
theorem d7_11 : decode prog_23_method_3_code 11 = .ok (.getfield 27, 3) := by decide +kernel
theorem d7_14 : decode prog_23_method_3_code 14 = .ok (.aload_n 0, 1) := by decide +kernel
theorem d7_15 : decode prog_23_method_3_code 15 = .ok (.getfield 33, 3) := by decide +kernel
theorem d7_18 : decode prog_23_method_3_code 18 = .ok (.iaload, 1) := by decide +kernel
theorem d7_19 : decode prog_23_method_3_code 19 = .ok (.istore_n 1, 1) := by decide +kernel
theorem d7_20 : decode prog_23_method_3_code 20 = .ok (.aload_n 0, 1) := by decide +kernel
theorem d7_21 : decode prog_23_method_3_code 21 = .ok (.getfield 46, 3) := by decide +kernel
theorem d7_24 : decode prog_23_method_3_code 24 = .ok (.iconst 1, 1) := by decide +kernel
theorem d7_25 : decode prog_23_method_3_code 25 = .ok (.isub, 1) := by decide +kernel
theorem d7_26 : decode prog_23_method_3_code 26 = .ok (.istore_n 2, 1) := by decide +kernel
theorem d7_27 : decode prog_23_method_3_code 27 = .ok (.iload_n 2, 1) := by decide +kernel
theorem d7_28 : decode prog_23_method_3_code 28 = .ok (.iload_n 1, 1) := by decide +kernel
theorem d7_29 : decode prog_23_method_3_code 29 = .ok (.if_icmp .lt 74, 3) := by decide +kernel
theorem d7_32 : decode prog_23_method_3_code 32 = .ok (.aload_n 0, 1) := by decide +kernel
theorem d7_33 : decode prog_23_method_3_code 33 = .ok (.getfield 9, 3) := by decide +kernel
theorem d7_36 : decode prog_23_method_3_code 36 = .ok (.iload_n 2, 1) := by decide +kernel
theorem d7_37 : decode prog_23_method_3_code 37 = .ok (.aaload, 1) := by decide +kernel
theorem d7_38 : decode prog_23_method_3_code 38 = .ok (.ifnull 33, 3) := by decide +kernel
theorem d7_41 : decode prog_23_method_3_code 41 = .ok (.aload_n 0, 1) := by decide +kernel
theorem d7_42 : decode prog_23_method_3_code 42 = .ok (.getfield 9, 3) := by decide +kernel
theorem d7_45 : decode prog_23_method_3_code 45 = .ok (.iload_n 2, 1) := by decide +kernel
theorem d7_46 : decode prog_23_method_3_code 46 = .ok (.aaload, 1) := by decide +kernel
theorem d7_47 : decode prog_23_method_3_code 47 = .ok (.aload_n 0, 1) := by decide +kernel
theorem d7_48 : decode prog_23_method_3_code 48 = .ok (.getfield 21, 3) := by decide +kernel
theorem d7_51 : decode prog_23_method_3_code 51 = .ok (.iload_n 2, 1) := by decide +kernel
theorem d7_52 : decode prog_23_method_3_code 52 = .ok (.iaload, 1) := by decide +kernel
theorem d7_53 : decode prog_23_method_3_code 53 = .ok (.aload_n 0, 1) := by decide +kernel
theorem d7_54 : decode prog_23_method_3_code 54 = .ok (.getfield 24, 3) := by decide +kernel
theorem d7_57 : decode prog_23_method_3_code 57 = .ok (.iload_n 2, 1) := by decide +kernel
theorem d7_58 : decode prog_23_method_3_code 58 = .ok (.laload, 1) := by decide +kernel
theorem d7_59 : decode prog_23_method_3_code 59 = .ok (.l2i, 1) := by decide +kernel
theorem d7_60 : decode prog_23_method_3_code 60 = .ok (.iastore, 1) := by decide +kernel
theorem d7_61 : decode prog_23_method_3_code 61 = .ok (.aload_n 0, 1) := by decide +kernel
theorem d7_62 : decode prog_23_method_3_code 62 = .ok (.getfield 9, 3) := by decide +kernel
theorem d7_65 : decode prog_23_method_3_code 65 = .ok (.iload_n 2, 1) := by decide +kernel
theorem d7_66 : decode prog_23_method_3_code 66 = .ok (.aconst_null, 1) := by decide +kernel
theorem d7_67 : decode prog_23_method_3_code 67 = .ok (.aastore, 1) := by decide +kernel
theorem d7_68 : decode prog_23_method_3_code 68 = .ok (.goto 29, 3) := by decide +kernel
theorem d7_71 : decode prog_23_method_3_code 71 = .ok (.aload_n 0, 1) := by decide +kernel
theorem d7_72 : decode prog_23_method_3_code 72 = .ok (.getfield 17, 3) := by decide +kernel
theorem d7_75 : decode prog_23_method_3_code 75 = .ok (.iload_n 2, 1) := by decide +kernel
theorem d7_76 : decode prog_23_method_3_code 76 = .ok (.aaload, 1) := by decide +kernel
theorem d7_77 : decode prog_23_method_3_code 77 = .ok (.aload_n 0, 1) := by decide +kernel
theorem d7_78 : decode prog_23_method_3_code 78 = .ok (.getfield 21, 3) := by decide +kernel
theorem d7_81 : decode prog_23_method_3_code 81 = .ok (.iload_n 2, 1) := by decide +kernel
theorem d7_82 : decode prog_23_method_3_code 82 = .ok (.iaload, 1) := by decide +kernel
theorem d7_83 : decode prog_23_method_3_code 83 = .ok (.aload_n 0, 1) := by decide +kernel
theorem d7_84 : decode prog_23_method_3_code 84 = .ok (.getfield 24, 3) := by decide +kernel
theorem d7_87 : decode prog_23_method_3_code 87 = .ok (.iload_n 2, 1) := by decide +kernel
theorem d7_88 : decode prog_23_method_3_code 88 = .ok (.laload, 1) := by decide +kernel
theorem d7_89 : decode prog_23_method_3_code 89 = .ok (.lastore, 1) := by decide +kernel
theorem d7_90 : decode prog_23_method_3_code 90 = .ok (.aload_n 0, 1) := by decide +kernel
theorem d7_91 : decode prog_23_method_3_code 91 = .ok (.getfield 17, 3) := by decide +kernel
theorem d7_94 : decode prog_23_method_3_code 94 = .ok (.iload_n 2, 1) := by decide +kernel
theorem d7_95 : decode prog_23_method_3_code 95 = .ok (.aconst_null, 1) := by decide +kernel
theorem d7_96 : decode prog_23_method_3_code 96 = .ok (.aastore, 1) := by decide +kernel
theorem d7_97 : decode prog_23_method_3_code 97 = .ok (.iinc 2 (-1), 3) := by decide +kernel
theorem d7_100 : decode prog_23_method_3_code 100 = .ok (.goto (-73), 3) := by decide +kernel
theorem d7_103 : decode prog_23_method_3_code 103 = .ok (.aload_n 0, 1) := by decide +kernel
theorem d7_104 : decode prog_23_method_3_code 104 = .ok (.iload_n 1, 1) := by decide +kernel
theorem d7_105 : decode prog_23_method_3_code 105 = .ok (.putfield 46, 3) := by decide +kernel
theorem d7_108 : decode prog_23_method_3_code 108 = .ok (.aload_n 0, 1) := by decide +kernel
theorem d7_109 : decode prog_23_method_3_code 109 = .ok (.aload_n 0, 1) := by decide +kernel
theorem d7_110 : decode prog_23_method_3_code 110 = .ok (.getfield 30, 3) := by decide +kernel
theorem d7_113 : decode prog_23_method_3_code 113 = .ok (.aload_n 0, 1) := by decide +kernel
theorem d7_114 : decode prog_23_method_3_code 114 = .ok (.getfield 33, 3) := by decide +kernel
theorem d7_117 : decode prog_23_method_3_code 117 = .ok (.laload, 1) := by decide +kernel
theorem d7_118 : decode prog_23_method_3_code 118 = .ok (.putfield 49, 3) := by decide +kernel
theorem d7_121 : decode prog_23_method_3_code 121 = .ok (.return_, 1) := by decide +kernel
theorem pn_7 : plainName "com/example/tablewise/tablewise/propagation/Trail" = true := by first | (simp [plainName, overriddenIn]; done) | decide +kernel
theorem ef_clA (m : MethodId) (x0 : Addr) : entryFrame m #[(.ref x0)] 3 = mkF m 0 #[.val (.ref x0), .unset, .unset] [] := by first | (simp [entryFrame, mkF, argsToLocals, Value.category]; done) | rfl
def QclA (Z : State) (a : Addr) (ia : Addr) (la : Addr) (si : Addr) (ov : Addr) (ls : Addr) (os : Addr) (en : Int32) (lv : Int32) (sp : Int64) (lsp : Int64) (gi : Nat → Value) (gl : Nat → Value) (fx : Nat → Int32) (fo : Nat → Int64) (xi : Addr) (xj : Addr) (k : Nat) (fl : Nat → Int32) (fq : Nat → Int64) (fi : Nat → Int32) (fj : Nat → Int64) (h0 : Heap) (n0 : Nat) (rv_ : Option Value) (h : Heap) (LL_ : List Loc) : Prop := rv_ = none ∧ Fr n0 LL_ ∧ Keep h0 h [a, ia, la, xi, xj] ∧ Fld Z h a "com/example/tablewise/tablewise/propagation/Trail" "intArrays" "[[I" (.ref ia) ∧ Fld Z h a "com/example/tablewise/tablewise/propagation/Trail" "longArrays" "[[J" (.ref la) ∧ Fld Z h a "com/example/tablewise/tablewise/propagation/Trail" "slotIndices" "[I" (.ref si) ∧ Fld Z h a "com/example/tablewise/tablewise/propagation/Trail" "oldValues" "[J" (.ref ov) ∧ Fld Z h a "com/example/tablewise/tablewise/propagation/Trail" "levelStarts" "[I" (.ref ls) ∧ Fld Z h a "com/example/tablewise/tablewise/propagation/Trail" "outerStamps" "[J" (.ref os) ∧ Fld Z h a "com/example/tablewise/tablewise/propagation/Trail" "lastStamp" "J" (.long lsp) ∧ Fld Z h a "com/example/tablewise/tablewise/propagation/Trail" "entries" "I" (.int (2 : Int32)) ∧ Fld Z h a "com/example/tablewise/tablewise/propagation/Trail" "level" "I" (.int (lv - (1 : Int32))) ∧ Fld Z h a "com/example/tablewise/tablewise/propagation/Trail" "stamp" "J" (.long (fq k)) ∧ own_AR Z h ia .int "[I" 64 (own_upd gi 3 .null) ∧ own_AR Z h la .long "[J" 64 (own_upd gl 2 .null) ∧ own_AI Z h xi .int 2 (own_upd fi 1 ((fo 3).toInt32)) ∧ own_AL Z h xj 2 (own_upd fj 1 (fo 2))
set_option maxRecDepth 65536 in
set_option maxHeartbeats 40000000 in
theorem rmclA (l : Launch) (Z : State) (a0 : Array Value) (hw : ∀ d ∈ tables_1, d.before a0 Z = true) (ws : List Jvm.Cond) (a : Addr) (ia : Addr) (la : Addr) (si : Addr) (ov : Addr) (ls : Addr) (os : Addr) (en : Int32) (lv : Int32) (sp : Int64) (lsp : Int64) (gi : Nat → Value) (gl : Nat → Value) (fx : Nat → Int32) (fo : Nat → Int64) (xi : Addr) (xj : Addr) (k : Nat) (fl : Nat → Int32) (fq : Nat → Int64) (fi : Nat → Int32) (fj : Nat → Int64) (h0 : Heap) (n0 : Nat) (Z0 : n0 ≤ h0.size) (E_a : Exa Z h0 a "com/example/tablewise/tablewise/propagation/Trail") (F_a_intArrays : Fld Z h0 a "com/example/tablewise/tablewise/propagation/Trail" "intArrays" "[[I" (.ref ia)) (F_a_longArrays : Fld Z h0 a "com/example/tablewise/tablewise/propagation/Trail" "longArrays" "[[J" (.ref la)) (F_a_slotIndices : Fld Z h0 a "com/example/tablewise/tablewise/propagation/Trail" "slotIndices" "[I" (.ref si)) (F_a_oldValues : Fld Z h0 a "com/example/tablewise/tablewise/propagation/Trail" "oldValues" "[J" (.ref ov)) (F_a_entries : Fld Z h0 a "com/example/tablewise/tablewise/propagation/Trail" "entries" "I" (.int en)) (F_a_levelStarts : Fld Z h0 a "com/example/tablewise/tablewise/propagation/Trail" "levelStarts" "[I" (.ref ls)) (F_a_outerStamps : Fld Z h0 a "com/example/tablewise/tablewise/propagation/Trail" "outerStamps" "[J" (.ref os)) (F_a_level : Fld Z h0 a "com/example/tablewise/tablewise/propagation/Trail" "level" "I" (.int lv)) (F_a_stamp : Fld Z h0 a "com/example/tablewise/tablewise/propagation/Trail" "stamp" "J" (.long sp)) (F_a_lastStamp : Fld Z h0 a "com/example/tablewise/tablewise/propagation/Trail" "lastStamp" "J" (.long lsp)) (V_ia : own_AR Z h0 ia .int "[I" 64 gi) (V_la : own_AR Z h0 la .long "[J" 64 gl) (V_si : own_AI Z h0 si .int 64 fx) (V_ov : own_AL Z h0 ov 64 fo) (V_ls : own_AI Z h0 ls .int 16 fl) (V_os : own_AL Z h0 os 16 fq) (V_xi : own_AI Z h0 xi .int 2 fi) (V_xj : own_AL Z h0 xj 2 fj) (g_a : n0 ≤ a) (g_ia : n0 ≤ ia) (g_la : n0 ≤ la) (g_xi : n0 ≤ xi) (g_xj : n0 ≤ xj) (ne_a_ia : a ≠ ia) (ne_a_la : a ≠ la) (ne_a_si : a ≠ si) (ne_a_ov : a ≠ ov) (ne_a_ls : a ≠ ls) (ne_a_os : a ≠ os) (ne_a_xi : a ≠ xi) (ne_a_xj : a ≠ xj) (ne_ia_la : ia ≠ la) (ne_ia_si : ia ≠ si) (ne_ia_ov : ia ≠ ov) (ne_ia_ls : ia ≠ ls) (ne_ia_os : ia ≠ os) (ne_ia_xi : ia ≠ xi) (ne_ia_xj : ia ≠ xj) (ne_la_si : la ≠ si) (ne_la_ov : la ≠ ov) (ne_la_ls : la ≠ ls) (ne_la_os : la ≠ os) (ne_la_xi : la ≠ xi) (ne_la_xj : la ≠ xj) (ne_si_ov : si ≠ ov) (ne_si_ls : si ≠ ls) (ne_si_os : si ≠ os) (ne_si_xi : si ≠ xi) (ne_si_xj : si ≠ xj) (ne_ov_ls : ov ≠ ls) (ne_ov_os : ov ≠ os) (ne_ov_xi : ov ≠ xi) (ne_ov_xj : ov ≠ xj) (ne_ls_os : ls ≠ os) (ne_ls_xi : ls ≠ xi) (ne_ls_xj : ls ≠ xj) (ne_os_xi : os ≠ xi) (ne_os_xj : os ≠ xj) (ne_xi_xj : xi ≠ xj) (hlv : (lv - (1 : Int32)).toInt = (k : Int)) (hbk : k < 16) (hen : en = (4 : Int32)) (hst : fl k = (2 : Int32)) (hgi3 : gi 3 = (.ref xi)) (hfx3 : fx 3 = (1 : Int32)) (hgi2 : gi 2 = .null) (hgl2 : gl 2 = (.ref xj)) (hfx2 : fx 2 = (1 : Int32)) :
    MetFree l (⟨"com/example/tablewise/tablewise/propagation/Trail", "closeLevel", "()V"⟩ : MethodName) (head1 (Jvm.Cond.code (⟨"com/example/tablewise/tablewise/propagation/Trail", "closeLevel", "()V"⟩ : MethodName) prog_23_method_3_code 3 none :: ws) ({ frames := 0, cells := 0, slots := 0, locals := 0 } : Room)) (fun aa UU => aa = #[(.ref a)] ∧ Z.Warmed39 UU.vm ∧ UU.heap = h0) (fun _ _ _ _ _ => True) (fun _ UU oo UV => ∃ vv LL, oo = .returned vv ∧ QclA Z a ia la si ov ls os en lv sp lsp gi gl fx fo xi xj k fl fq fi fj h0 n0 vv UV.heap LL ∧ FrameEnd UU oo UV LL ({ frames := 0, cells := 0, slots := 0, locals := 0 } : Room).cells ({ frames := 0, cells := 0, slots := 0, locals := 0 } : Room).slots) := by
  refine MetFree.of_bodySF (plainFor_of_name pn_7) hisR ?_
  intro p e s m args below meth c s₁ Bd hml0 hP hK
  obtain ⟨rfl, hZ, hh⟩ := hP
  have hx := Bd.exec
  have hby := Bd.bytes
  have hml : c.maxLocals = 3 := hml0
  have hown : s.vm.findClass "com/example/tablewise/tablewise/propagation/Trail" = some m.cls := findClass_of_methodNamed Bd.named
  have hnm := (name_of_methodNamed Bd.named Bd.method).1
  have X0 : Stand p l e ({ frames := 0, cells := 0, slots := 0, locals := 0 } : Room) s m #[(.ref a)] below meth c s₁ [] 0 0 := Stand.of_body Bd
  have e0 : s₁.heap = h0 := by rw [← hh, Bd.state]; rfl
  have N0 := Fr.nil n0
  have k0 : ∀ tg_, Steps p.tables e below (s₁.setTop (mkF m 0 #[.val (.ref a), .unset, .unset] [])) tg_ → Steps p.tables e below (s₁.setTop (entryFrame m #[(.ref a)] 3)) tg_ := fun tg_ k => castTop (ef_clA m a) k
  obtain ⟨T264, X264, e264, st264⟩ := getF X0 hx hZ hown (host := "") (Or.inl (hw _ (List.mem_of_getElem? (i := 32) rfl))) Via.refl e0 F_a_level (g := (mkF m 2 #[.val (.ref a), .unset, .unset] [(.ref a), (.ref a)])) rfl rfl (hb hby d7_2)
  obtain ⟨T265, h265, X265, e265, W265, st265⟩ := putF X264 hx hZ hown (host := "") (Or.inl (hw _ (List.mem_of_getElem? (i := 32) rfl))) Via.refl e264 F_a_level E_a (Or.inl (hw _ (List.mem_of_getElem? (i := 33) rfl))) (hw _ (List.mem_of_getElem? (i := 1) rfl)) (ty := .int) (by decide) rfl rfl (g := (mkF m 7 #[.val (.ref a), .unset, .unset] [(.int (lv - (1 : Int32))), (.ref a)])) rfl rfl (hb hby d7_7)
  have N265 := Fr.snoc X265 N0 g_a
  have F265 := Fld.same W265 F_a_level
  have f266 := (Fld.other W265 F_a_levelStarts (Or.inr (slot_ne (Or.inl (hw _ (List.mem_of_getElem? (i := 24) rfl))) (Or.inl (hw _ (List.mem_of_getElem? (i := 33) rfl))) (by decide) (t := (.array .int)) (t' := .int) (by decide) (by decide))))
  obtain ⟨T267, X267, e267, st267⟩ := getF X265 hx hZ hown (host := "") (Or.inl (hw _ (List.mem_of_getElem? (i := 23) rfl))) Via.refl e265 f266 (g := (mkF m 11 #[.val (.ref a), .unset, .unset] [(.ref a)])) rfl rfl (hb hby d7_11)
  obtain ⟨T268, X268, e268, st268⟩ := getF X267 hx hZ hown (host := "") (Or.inl (hw _ (List.mem_of_getElem? (i := 32) rfl))) Via.refl e267 F265 (g := (mkF m 15 #[.val (.ref a), .unset, .unset] [(.ref a), (.ref ls)])) rfl rfl (hb hby d7_15)
  have f269 := (V_ls.keep (Keep.of_wr W265) (ninS (Ne.symm ne_a_ls) nin0))
  have f270 := (Fld.other W265 F_a_entries (Or.inr (slot_ne (Or.inl (hw _ (List.mem_of_getElem? (i := 35) rfl))) (Or.inl (hw _ (List.mem_of_getElem? (i := 33) rfl))) (by decide) (t := .int) (t' := .int) (by decide) (by decide))))
  obtain ⟨T271, X271, e271, st271⟩ := getF X268 hx hZ hown (host := "") (Or.inl (hw _ (List.mem_of_getElem? (i := 34) rfl))) Via.refl e268 f270 (g := (mkF m 21 #[.val (.ref a), .val (.int (2 : Int32)), .unset] [(.ref a)])) rfl rfl (hb hby d7_21)
  have hc29_272 : ¬ ((en - (1 : Int32)) < (2 : Int32)) := (by rw [hen]; decide)
  have f273 := (Fld.other W265 F_a_intArrays (Or.inr (slot_ne (Or.inl (hw _ (List.mem_of_getElem? (i := 12) rfl))) (Or.inl (hw _ (List.mem_of_getElem? (i := 33) rfl))) (by decide) (t := (.array (.array .int))) (t' := .int) (by decide) (by decide))))
  obtain ⟨T274, X274, e274, st274⟩ := getF X271 hx hZ hown (host := "") (Or.inl (hw _ (List.mem_of_getElem? (i := 11) rfl))) Via.refl e271 f273 (g := (mkF m 33 #[.val (.ref a), .val (.int (2 : Int32)), .val (.int (en - (1 : Int32)))] [(.ref a)])) rfl rfl (hb hby d7_33)
  have f275 := (V_ia.keep (Keep.of_wr W265) (ninS (Ne.symm ne_a_ia) nin0))
  have k276 : ∀ tg_, Steps p.tables e below (T274.setTop (mkF m 42 #[.val (.ref a), .val (.int (2 : Int32)), .val (.int (en - (1 : Int32)))] [(.ref a)])) tg_ → Steps p.tables e below (s₁.setTop (entryFrame m #[(.ref a)] 3)) tg_ := by
    intro tg_ kt
    refine k0 tg_ ?_
    refine XS.aloadN X0.here hx rfl (hb hby d7_0) rfl rfl ?_
    show Steps p.tables e below (s₁.setTop (mkF m 1 #[.val (.ref a), .unset, .unset] [(.ref a)])) _
    refine XS.dup X0.here hx rfl (hb hby d7_1) rfl rfl ?_
    show Steps p.tables e below (s₁.setTop (mkF m 2 #[.val (.ref a), .unset, .unset] [(.ref a), (.ref a)])) _
    refine st264 _ ?_
    show Steps p.tables e below (T264.setTop (mkF m 5 #[.val (.ref a), .unset, .unset] [(.int lv), (.ref a)])) _
    refine XS.iconst X264.here hx rfl (hb hby d7_5) ?_
    show Steps p.tables e below (T264.setTop (mkF m 6 #[.val (.ref a), .unset, .unset] [(.int (1 : Int32)), (.int lv), (.ref a)])) _
    refine XS.isub X264.here hx rfl (hb hby d7_6) rfl ?_
    show Steps p.tables e below (T264.setTop (mkF m 7 #[.val (.ref a), .unset, .unset] [(.int (lv - (1 : Int32))), (.ref a)])) _
    refine st265 _ ?_
    show Steps p.tables e below (T265.setTop (mkF m 10 #[.val (.ref a), .unset, .unset] [])) _
    refine XS.aloadN X265.here hx rfl (hb hby d7_10) rfl rfl ?_
    show Steps p.tables e below (T265.setTop (mkF m 11 #[.val (.ref a), .unset, .unset] [(.ref a)])) _
    refine st267 _ ?_
    show Steps p.tables e below (T267.setTop (mkF m 14 #[.val (.ref a), .unset, .unset] [(.ref ls)])) _
    refine XS.aloadN X267.here hx rfl (hb hby d7_14) rfl rfl ?_
    show Steps p.tables e below (T267.setTop (mkF m 15 #[.val (.ref a), .unset, .unset] [(.ref a), (.ref ls)])) _
    refine st268 _ ?_
    show Steps p.tables e below (T268.setTop (mkF m 18 #[.val (.ref a), .unset, .unset] [(.int (lv - (1 : Int32))), (.ref ls)])) _
    refine own_ldI X268 hx hZ e268 f269 (i := k) hlv hbk hst (g := (mkF m 18 #[.val (.ref a), .unset, .unset] [(.int (lv - (1 : Int32))), (.ref ls)])) rfl rfl (hb hby d7_18) _ ?_
    show Steps p.tables e below (T268.setTop (mkF m 19 #[.val (.ref a), .unset, .unset] [(.int (2 : Int32))])) _
    refine XS.istoreN X268.here hx rfl (hb hby d7_19) rfl (l' := #[.val (.ref a), .val (.int (2 : Int32)), .unset]) rfl ?_
    show Steps p.tables e below (T268.setTop (mkF m 20 #[.val (.ref a), .val (.int (2 : Int32)), .unset] [])) _
    refine XS.aloadN X268.here hx rfl (hb hby d7_20) rfl rfl ?_
    show Steps p.tables e below (T268.setTop (mkF m 21 #[.val (.ref a), .val (.int (2 : Int32)), .unset] [(.ref a)])) _
    refine st271 _ ?_
    show Steps p.tables e below (T271.setTop (mkF m 24 #[.val (.ref a), .val (.int (2 : Int32)), .unset] [(.int en)])) _
    refine XS.iconst X271.here hx rfl (hb hby d7_24) ?_
    show Steps p.tables e below (T271.setTop (mkF m 25 #[.val (.ref a), .val (.int (2 : Int32)), .unset] [(.int (1 : Int32)), (.int en)])) _
    refine XS.isub X271.here hx rfl (hb hby d7_25) rfl ?_
    show Steps p.tables e below (T271.setTop (mkF m 26 #[.val (.ref a), .val (.int (2 : Int32)), .unset] [(.int (en - (1 : Int32)))])) _
    refine XS.istoreN X271.here hx rfl (hb hby d7_26) rfl (l' := #[.val (.ref a), .val (.int (2 : Int32)), .val (.int (en - (1 : Int32)))]) rfl ?_
    show Steps p.tables e below (T271.setTop (mkF m 27 #[.val (.ref a), .val (.int (2 : Int32)), .val (.int (en - (1 : Int32)))] [])) _
    refine XS.iloadN X271.here hx rfl (hb hby d7_27) rfl ?_
    show Steps p.tables e below (T271.setTop (mkF m 28 #[.val (.ref a), .val (.int (2 : Int32)), .val (.int (en - (1 : Int32)))] [(.int (en - (1 : Int32)))])) _
    refine XS.iloadN X271.here hx rfl (hb hby d7_28) rfl ?_
    show Steps p.tables e below (T271.setTop (mkF m 29 #[.val (.ref a), .val (.int (2 : Int32)), .val (.int (en - (1 : Int32)))] [(.int (2 : Int32)), (.int (en - (1 : Int32)))])) _
    refine XS.icmpNo X271.here hx rfl (hb hby d7_29) rfl (flt hc29_272).1 ?_
    show Steps p.tables e below (T271.setTop (mkF m 32 #[.val (.ref a), .val (.int (2 : Int32)), .val (.int (en - (1 : Int32)))] [])) _
    refine XS.aloadN X271.here hx rfl (hb hby d7_32) rfl rfl ?_
    show Steps p.tables e below (T271.setTop (mkF m 33 #[.val (.ref a), .val (.int (2 : Int32)), .val (.int (en - (1 : Int32)))] [(.ref a)])) _
    refine st274 _ ?_
    show Steps p.tables e below (T274.setTop (mkF m 36 #[.val (.ref a), .val (.int (2 : Int32)), .val (.int (en - (1 : Int32)))] [(.ref ia)])) _
    refine XS.iloadN X274.here hx rfl (hb hby d7_36) rfl ?_
    show Steps p.tables e below (T274.setTop (mkF m 37 #[.val (.ref a), .val (.int (2 : Int32)), .val (.int (en - (1 : Int32)))] [(.int (en - (1 : Int32))), (.ref ia)])) _
    refine own_ldAR X274 hx hZ e274 f275 (i := 3) (by rw [hen]; decide) (by decide) (by first | exact hgi3 | (simp only [own_upd]; exact hgi3)) (g := (mkF m 37 #[.val (.ref a), .val (.int (2 : Int32)), .val (.int (en - (1 : Int32)))] [(.int (en - (1 : Int32))), (.ref ia)])) rfl rfl (hb hby d7_37) _ ?_
    show Steps p.tables e below (T274.setTop (mkF m 38 #[.val (.ref a), .val (.int (2 : Int32)), .val (.int (en - (1 : Int32)))] [(.ref xi)])) _
    refine XS.ifnullNo X274.here hx rfl (hb hby d7_38) rfl ?_
    show Steps p.tables e below (T274.setTop (mkF m 41 #[.val (.ref a), .val (.int (2 : Int32)), .val (.int (en - (1 : Int32)))] [])) _
    refine XS.aloadN X274.here hx rfl (hb hby d7_41) rfl rfl ?_
    show Steps p.tables e below (T274.setTop (mkF m 42 #[.val (.ref a), .val (.int (2 : Int32)), .val (.int (en - (1 : Int32)))] [(.ref a)])) _
    exact kt
  obtain ⟨T277, X277, e277, st277⟩ := getF X274 hx hZ hown (host := "") (Or.inl (hw _ (List.mem_of_getElem? (i := 11) rfl))) Via.refl e274 f273 (g := (mkF m 42 #[.val (.ref a), .val (.int (2 : Int32)), .val (.int (en - (1 : Int32)))] [(.ref a)])) rfl rfl (hb hby d7_42)
  have f278 := (Fld.other W265 F_a_slotIndices (Or.inr (slot_ne (Or.inl (hw _ (List.mem_of_getElem? (i := 19) rfl))) (Or.inl (hw _ (List.mem_of_getElem? (i := 33) rfl))) (by decide) (t := (.array .int)) (t' := .int) (by decide) (by decide))))
  obtain ⟨T279, X279, e279, st279⟩ := getF X277 hx hZ hown (host := "") (Or.inl (hw _ (List.mem_of_getElem? (i := 18) rfl))) Via.refl e277 f278 (g := (mkF m 48 #[.val (.ref a), .val (.int (2 : Int32)), .val (.int (en - (1 : Int32)))] [(.ref a), (.ref xi)])) rfl rfl (hb hby d7_48)
  have f280 := (V_si.keep (Keep.of_wr W265) (ninS (Ne.symm ne_a_si) nin0))
  have f281 := (Fld.other W265 F_a_oldValues (Or.inr (slot_ne (Or.inl (hw _ (List.mem_of_getElem? (i := 22) rfl))) (Or.inl (hw _ (List.mem_of_getElem? (i := 33) rfl))) (by decide) (t := (.array .long)) (t' := .int) (by decide) (by decide))))
  obtain ⟨T282, X282, e282, st282⟩ := getF X279 hx hZ hown (host := "") (Or.inl (hw _ (List.mem_of_getElem? (i := 21) rfl))) Via.refl e279 f281 (g := (mkF m 54 #[.val (.ref a), .val (.int (2 : Int32)), .val (.int (en - (1 : Int32)))] [(.ref a), (.int (1 : Int32)), (.ref xi)])) rfl rfl (hb hby d7_54)
  have f283 := (V_ov.keep (Keep.of_wr W265) (ninS (Ne.symm ne_a_ov) nin0))
  have f284 := (V_xi.keep (Keep.of_wr W265) (ninS (Ne.symm ne_a_xi) nin0))
  obtain ⟨T285, h285, X285, e285, W285, V285, st285⟩ := own_stI X282 hx hZ e282 f284 (i := 1) (by decide : (1 : Int32).toInt = ((1 : Nat) : Int)) (by decide) (g := (mkF m 60 #[.val (.ref a), .val (.int (2 : Int32)), .val (.int (en - (1 : Int32)))] [(.int ((fo 3).toInt32)), (.int (1 : Int32)), (.ref xi)])) rfl rfl (hb hby d7_60)
  have N285 := Fr.snoc X285 N265 g_xi
  have f286 := (f273.keep (Keep.of_wr W285) (ninS ne_a_xi nin0))
  obtain ⟨T287, X287, e287, st287⟩ := getF X285 hx hZ hown (host := "") (Or.inl (hw _ (List.mem_of_getElem? (i := 11) rfl))) Via.refl e285 f286 (g := (mkF m 62 #[.val (.ref a), .val (.int (2 : Int32)), .val (.int (en - (1 : Int32)))] [(.ref a)])) rfl rfl (hb hby d7_62)
  have f288 := (f275.keep (Keep.of_wr W285) (ninS ne_ia_xi nin0))
  obtain ⟨T289, h289, X289, e289, W289, V289, st289⟩ := own_stAR X287 hx hZ e287 f288 (i := 3) (by rw [hen]; decide) (by decide) (Or.inl rfl) (g := (mkF m 67 #[.val (.ref a), .val (.int (2 : Int32)), .val (.int (en - (1 : Int32)))] [.null, (.int (en - (1 : Int32))), (.ref ia)])) rfl rfl (hb hby d7_67)
  have N289 := Fr.snoc X289 N285 g_ia
  have hc29_290 : ¬ (((en - (1 : Int32)) + (-1 : Int32)) < (2 : Int32)) := (by rw [hen]; decide)
  have f291 := (f286.keep (Keep.of_wr W289) (ninS ne_a_ia nin0))
  obtain ⟨T292, X292, e292, st292⟩ := getF X289 hx hZ hown (host := "") (Or.inl (hw _ (List.mem_of_getElem? (i := 11) rfl))) Via.refl e289 f291 (g := (mkF m 33 #[.val (.ref a), .val (.int (2 : Int32)), .val (.int ((en - (1 : Int32)) + (-1 : Int32)))] [(.ref a)])) rfl rfl (hb hby d7_33)
  have k293 : ∀ tg_, Steps p.tables e below (T292.setTop (mkF m 36 #[.val (.ref a), .val (.int (2 : Int32)), .val (.int ((en - (1 : Int32)) + (-1 : Int32)))] [(.ref ia)])) tg_ → Steps p.tables e below (s₁.setTop (entryFrame m #[(.ref a)] 3)) tg_ := by
    intro tg_ kt
    refine k276 tg_ ?_
    refine st277 _ ?_
    show Steps p.tables e below (T277.setTop (mkF m 45 #[.val (.ref a), .val (.int (2 : Int32)), .val (.int (en - (1 : Int32)))] [(.ref ia)])) _
    refine XS.iloadN X277.here hx rfl (hb hby d7_45) rfl ?_
    show Steps p.tables e below (T277.setTop (mkF m 46 #[.val (.ref a), .val (.int (2 : Int32)), .val (.int (en - (1 : Int32)))] [(.int (en - (1 : Int32))), (.ref ia)])) _
    refine own_ldAR X277 hx hZ e277 f275 (i := 3) (by rw [hen]; decide) (by decide) (by first | exact hgi3 | (simp only [own_upd]; exact hgi3)) (g := (mkF m 46 #[.val (.ref a), .val (.int (2 : Int32)), .val (.int (en - (1 : Int32)))] [(.int (en - (1 : Int32))), (.ref ia)])) rfl rfl (hb hby d7_46) _ ?_
    show Steps p.tables e below (T277.setTop (mkF m 47 #[.val (.ref a), .val (.int (2 : Int32)), .val (.int (en - (1 : Int32)))] [(.ref xi)])) _
    refine XS.aloadN X277.here hx rfl (hb hby d7_47) rfl rfl ?_
    show Steps p.tables e below (T277.setTop (mkF m 48 #[.val (.ref a), .val (.int (2 : Int32)), .val (.int (en - (1 : Int32)))] [(.ref a), (.ref xi)])) _
    refine st279 _ ?_
    show Steps p.tables e below (T279.setTop (mkF m 51 #[.val (.ref a), .val (.int (2 : Int32)), .val (.int (en - (1 : Int32)))] [(.ref si), (.ref xi)])) _
    refine XS.iloadN X279.here hx rfl (hb hby d7_51) rfl ?_
    show Steps p.tables e below (T279.setTop (mkF m 52 #[.val (.ref a), .val (.int (2 : Int32)), .val (.int (en - (1 : Int32)))] [(.int (en - (1 : Int32))), (.ref si), (.ref xi)])) _
    refine own_ldI X279 hx hZ e279 f280 (i := 3) (by rw [hen]; decide) (by decide) hfx3 (g := (mkF m 52 #[.val (.ref a), .val (.int (2 : Int32)), .val (.int (en - (1 : Int32)))] [(.int (en - (1 : Int32))), (.ref si), (.ref xi)])) rfl rfl (hb hby d7_52) _ ?_
    show Steps p.tables e below (T279.setTop (mkF m 53 #[.val (.ref a), .val (.int (2 : Int32)), .val (.int (en - (1 : Int32)))] [(.int (1 : Int32)), (.ref xi)])) _
    refine XS.aloadN X279.here hx rfl (hb hby d7_53) rfl rfl ?_
    show Steps p.tables e below (T279.setTop (mkF m 54 #[.val (.ref a), .val (.int (2 : Int32)), .val (.int (en - (1 : Int32)))] [(.ref a), (.int (1 : Int32)), (.ref xi)])) _
    refine st282 _ ?_
    show Steps p.tables e below (T282.setTop (mkF m 57 #[.val (.ref a), .val (.int (2 : Int32)), .val (.int (en - (1 : Int32)))] [(.ref ov), (.int (1 : Int32)), (.ref xi)])) _
    refine XS.iloadN X282.here hx rfl (hb hby d7_57) rfl ?_
    show Steps p.tables e below (T282.setTop (mkF m 58 #[.val (.ref a), .val (.int (2 : Int32)), .val (.int (en - (1 : Int32)))] [(.int (en - (1 : Int32))), (.ref ov), (.int (1 : Int32)), (.ref xi)])) _
    refine own_ldJ X282 hx hZ e282 f283 (i := 3) (by rw [hen]; decide) (by decide) rfl (g := (mkF m 58 #[.val (.ref a), .val (.int (2 : Int32)), .val (.int (en - (1 : Int32)))] [(.int (en - (1 : Int32))), (.ref ov), (.int (1 : Int32)), (.ref xi)])) rfl rfl (hb hby d7_58) _ ?_
    show Steps p.tables e below (T282.setTop (mkF m 59 #[.val (.ref a), .val (.int (2 : Int32)), .val (.int (en - (1 : Int32)))] [(.long (fo 3)), (.int (1 : Int32)), (.ref xi)])) _
    refine XS.l2i X282.here hx rfl (hb hby d7_59) rfl ?_
    show Steps p.tables e below (T282.setTop (mkF m 60 #[.val (.ref a), .val (.int (2 : Int32)), .val (.int (en - (1 : Int32)))] [(.int ((fo 3).toInt32)), (.int (1 : Int32)), (.ref xi)])) _
    refine st285 _ ?_
    show Steps p.tables e below (T285.setTop (mkF m 61 #[.val (.ref a), .val (.int (2 : Int32)), .val (.int (en - (1 : Int32)))] [])) _
    refine XS.aloadN X285.here hx rfl (hb hby d7_61) rfl rfl ?_
    show Steps p.tables e below (T285.setTop (mkF m 62 #[.val (.ref a), .val (.int (2 : Int32)), .val (.int (en - (1 : Int32)))] [(.ref a)])) _
    refine st287 _ ?_
    show Steps p.tables e below (T287.setTop (mkF m 65 #[.val (.ref a), .val (.int (2 : Int32)), .val (.int (en - (1 : Int32)))] [(.ref ia)])) _
    refine XS.iloadN X287.here hx rfl (hb hby d7_65) rfl ?_
    show Steps p.tables e below (T287.setTop (mkF m 66 #[.val (.ref a), .val (.int (2 : Int32)), .val (.int (en - (1 : Int32)))] [(.int (en - (1 : Int32))), (.ref ia)])) _
    refine XS.aconstNull X287.here hx rfl (hb hby d7_66) ?_
    show Steps p.tables e below (T287.setTop (mkF m 67 #[.val (.ref a), .val (.int (2 : Int32)), .val (.int (en - (1 : Int32)))] [.null, (.int (en - (1 : Int32))), (.ref ia)])) _
    refine st289 _ ?_
    show Steps p.tables e below (T289.setTop (mkF m 68 #[.val (.ref a), .val (.int (2 : Int32)), .val (.int (en - (1 : Int32)))] [])) _
    refine XS.goto X289.here hx rfl (pc0 := 68) (pc' := 97) rfl (hb hby d7_68) (by decide) (by decide) ?_
    show Steps p.tables e below (T289.setTop (mkF m 97 #[.val (.ref a), .val (.int (2 : Int32)), .val (.int (en - (1 : Int32)))] [])) _
    refine XS.iinc X289.here hx rfl (hb hby d7_97) rfl (l' := #[.val (.ref a), .val (.int (2 : Int32)), .val (.int ((en - (1 : Int32)) + (-1 : Int32)))]) rfl ?_
    show Steps p.tables e below (T289.setTop (mkF m 100 #[.val (.ref a), .val (.int (2 : Int32)), .val (.int ((en - (1 : Int32)) + (-1 : Int32)))] [])) _
    refine XS.goto X289.here hx rfl (pc0 := 100) (pc' := 27) rfl (hb hby d7_100) (by decide) (by decide) ?_
    show Steps p.tables e below (T289.setTop (mkF m 27 #[.val (.ref a), .val (.int (2 : Int32)), .val (.int ((en - (1 : Int32)) + (-1 : Int32)))] [])) _
    refine XS.iloadN X289.here hx rfl (hb hby d7_27) rfl ?_
    show Steps p.tables e below (T289.setTop (mkF m 28 #[.val (.ref a), .val (.int (2 : Int32)), .val (.int ((en - (1 : Int32)) + (-1 : Int32)))] [(.int ((en - (1 : Int32)) + (-1 : Int32)))])) _
    refine XS.iloadN X289.here hx rfl (hb hby d7_28) rfl ?_
    show Steps p.tables e below (T289.setTop (mkF m 29 #[.val (.ref a), .val (.int (2 : Int32)), .val (.int ((en - (1 : Int32)) + (-1 : Int32)))] [(.int (2 : Int32)), (.int ((en - (1 : Int32)) + (-1 : Int32)))])) _
    refine XS.icmpNo X289.here hx rfl (hb hby d7_29) rfl (flt hc29_290).1 ?_
    show Steps p.tables e below (T289.setTop (mkF m 32 #[.val (.ref a), .val (.int (2 : Int32)), .val (.int ((en - (1 : Int32)) + (-1 : Int32)))] [])) _
    refine XS.aloadN X289.here hx rfl (hb hby d7_32) rfl rfl ?_
    show Steps p.tables e below (T289.setTop (mkF m 33 #[.val (.ref a), .val (.int (2 : Int32)), .val (.int ((en - (1 : Int32)) + (-1 : Int32)))] [(.ref a)])) _
    refine st292 _ ?_
    show Steps p.tables e below (T292.setTop (mkF m 36 #[.val (.ref a), .val (.int (2 : Int32)), .val (.int ((en - (1 : Int32)) + (-1 : Int32)))] [(.ref ia)])) _
    exact kt
  have f294 := (((Fld.other W265 F_a_longArrays (Or.inr (slot_ne (Or.inl (hw _ (List.mem_of_getElem? (i := 16) rfl))) (Or.inl (hw _ (List.mem_of_getElem? (i := 33) rfl))) (by decide) (t := (.array (.array .long))) (t' := .int) (by decide) (by decide)))).keep (Keep.of_wr W285) (ninS ne_a_xi nin0)).keep (Keep.of_wr W289) (ninS ne_a_ia nin0))
  obtain ⟨T295, X295, e295, st295⟩ := getF X292 hx hZ hown (host := "") (Or.inl (hw _ (List.mem_of_getElem? (i := 15) rfl))) Via.refl e292 f294 (g := (mkF m 72 #[.val (.ref a), .val (.int (2 : Int32)), .val (.int ((en - (1 : Int32)) + (-1 : Int32)))] [(.ref a)])) rfl rfl (hb hby d7_72)
  have f296 := (((V_la.keep (Keep.of_wr W265) (ninS (Ne.symm ne_a_la) nin0)).keep (Keep.of_wr W285) (ninS ne_la_xi nin0)).keep (Keep.of_wr W289) (ninS (Ne.symm ne_ia_la) nin0))
  have f297 := ((f278.keep (Keep.of_wr W285) (ninS ne_a_xi nin0)).keep (Keep.of_wr W289) (ninS ne_a_ia nin0))
  obtain ⟨T298, X298, e298, st298⟩ := getF X295 hx hZ hown (host := "") (Or.inl (hw _ (List.mem_of_getElem? (i := 18) rfl))) Via.refl e295 f297 (g := (mkF m 78 #[.val (.ref a), .val (.int (2 : Int32)), .val (.int ((en - (1 : Int32)) + (-1 : Int32)))] [(.ref a), (.ref xj)])) rfl rfl (hb hby d7_78)
  have f299 := ((f280.keep (Keep.of_wr W285) (ninS ne_si_xi nin0)).keep (Keep.of_wr W289) (ninS (Ne.symm ne_ia_si) nin0))
  have f300 := ((f281.keep (Keep.of_wr W285) (ninS ne_a_xi nin0)).keep (Keep.of_wr W289) (ninS ne_a_ia nin0))
  obtain ⟨T301, X301, e301, st301⟩ := getF X298 hx hZ hown (host := "") (Or.inl (hw _ (List.mem_of_getElem? (i := 21) rfl))) Via.refl e298 f300 (g := (mkF m 84 #[.val (.ref a), .val (.int (2 : Int32)), .val (.int ((en - (1 : Int32)) + (-1 : Int32)))] [(.ref a), (.int (1 : Int32)), (.ref xj)])) rfl rfl (hb hby d7_84)
  have f302 := ((f283.keep (Keep.of_wr W285) (ninS ne_ov_xi nin0)).keep (Keep.of_wr W289) (ninS (Ne.symm ne_ia_ov) nin0))
  have f303 := (((V_xj.keep (Keep.of_wr W265) (ninS (Ne.symm ne_a_xj) nin0)).keep (Keep.of_wr W285) (ninS (Ne.symm ne_xi_xj) nin0)).keep (Keep.of_wr W289) (ninS (Ne.symm ne_ia_xj) nin0))
  obtain ⟨T304, h304, X304, e304, W304, V304, st304⟩ := own_stJ X301 hx hZ e301 f303 (i := 1) (by decide : (1 : Int32).toInt = ((1 : Nat) : Int)) (by decide) (g := (mkF m 89 #[.val (.ref a), .val (.int (2 : Int32)), .val (.int ((en - (1 : Int32)) + (-1 : Int32)))] [(.long (fo 2)), (.int (1 : Int32)), (.ref xj)])) rfl rfl (hb hby d7_89)
  have N304 := Fr.snoc X304 N289 g_xj
  have f305 := (f294.keep (Keep.of_wr W304) (ninS ne_a_xj nin0))
  obtain ⟨T306, X306, e306, st306⟩ := getF X304 hx hZ hown (host := "") (Or.inl (hw _ (List.mem_of_getElem? (i := 15) rfl))) Via.refl e304 f305 (g := (mkF m 91 #[.val (.ref a), .val (.int (2 : Int32)), .val (.int ((en - (1 : Int32)) + (-1 : Int32)))] [(.ref a)])) rfl rfl (hb hby d7_91)
  have f307 := (f296.keep (Keep.of_wr W304) (ninS ne_la_xj nin0))
  obtain ⟨T308, h308, X308, e308, W308, V308, st308⟩ := own_stAR X306 hx hZ e306 f307 (i := 2) (by rw [hen]; decide) (by decide) (Or.inl rfl) (g := (mkF m 96 #[.val (.ref a), .val (.int (2 : Int32)), .val (.int ((en - (1 : Int32)) + (-1 : Int32)))] [.null, (.int ((en - (1 : Int32)) + (-1 : Int32))), (.ref la)])) rfl rfl (hb hby d7_96)
  have N308 := Fr.snoc X308 N304 g_la
  have hc29_309 : (((en - (1 : Int32)) + (-1 : Int32)) + (-1 : Int32)) < (2 : Int32) := (by rw [hen]; decide)
  have k310 : ∀ tg_, Steps p.tables e below (T308.setTop (mkF m 104 #[.val (.ref a), .val (.int (2 : Int32)), .val (.int (((en - (1 : Int32)) + (-1 : Int32)) + (-1 : Int32)))] [(.ref a)])) tg_ → Steps p.tables e below (s₁.setTop (entryFrame m #[(.ref a)] 3)) tg_ := by
    intro tg_ kt
    refine k293 tg_ ?_
    refine XS.iloadN X292.here hx rfl (hb hby d7_36) rfl ?_
    show Steps p.tables e below (T292.setTop (mkF m 37 #[.val (.ref a), .val (.int (2 : Int32)), .val (.int ((en - (1 : Int32)) + (-1 : Int32)))] [(.int ((en - (1 : Int32)) + (-1 : Int32))), (.ref ia)])) _
    refine own_ldAR X292 hx hZ e292 V289 (i := 2) (by rw [hen]; decide) (by decide) (by first | exact hgi2 | (simp only [own_upd]; exact hgi2)) (g := (mkF m 37 #[.val (.ref a), .val (.int (2 : Int32)), .val (.int ((en - (1 : Int32)) + (-1 : Int32)))] [(.int ((en - (1 : Int32)) + (-1 : Int32))), (.ref ia)])) rfl rfl (hb hby d7_37) _ ?_
    show Steps p.tables e below (T292.setTop (mkF m 38 #[.val (.ref a), .val (.int (2 : Int32)), .val (.int ((en - (1 : Int32)) + (-1 : Int32)))] [.null])) _
    refine XS.ifnullYes X292.here hx rfl (pc0 := 38) (pc' := 71) rfl (hb hby d7_38) rfl (by decide) (by decide) ?_
    show Steps p.tables e below (T292.setTop (mkF m 71 #[.val (.ref a), .val (.int (2 : Int32)), .val (.int ((en - (1 : Int32)) + (-1 : Int32)))] [])) _
    refine XS.aloadN X292.here hx rfl (hb hby d7_71) rfl rfl ?_
    show Steps p.tables e below (T292.setTop (mkF m 72 #[.val (.ref a), .val (.int (2 : Int32)), .val (.int ((en - (1 : Int32)) + (-1 : Int32)))] [(.ref a)])) _
    refine st295 _ ?_
    show Steps p.tables e below (T295.setTop (mkF m 75 #[.val (.ref a), .val (.int (2 : Int32)), .val (.int ((en - (1 : Int32)) + (-1 : Int32)))] [(.ref la)])) _
    refine XS.iloadN X295.here hx rfl (hb hby d7_75) rfl ?_
    show Steps p.tables e below (T295.setTop (mkF m 76 #[.val (.ref a), .val (.int (2 : Int32)), .val (.int ((en - (1 : Int32)) + (-1 : Int32)))] [(.int ((en - (1 : Int32)) + (-1 : Int32))), (.ref la)])) _
    refine own_ldAR X295 hx hZ e295 f296 (i := 2) (by rw [hen]; decide) (by decide) (by first | exact hgl2 | (simp only [own_upd]; exact hgl2)) (g := (mkF m 76 #[.val (.ref a), .val (.int (2 : Int32)), .val (.int ((en - (1 : Int32)) + (-1 : Int32)))] [(.int ((en - (1 : Int32)) + (-1 : Int32))), (.ref la)])) rfl rfl (hb hby d7_76) _ ?_
    show Steps p.tables e below (T295.setTop (mkF m 77 #[.val (.ref a), .val (.int (2 : Int32)), .val (.int ((en - (1 : Int32)) + (-1 : Int32)))] [(.ref xj)])) _
    refine XS.aloadN X295.here hx rfl (hb hby d7_77) rfl rfl ?_
    show Steps p.tables e below (T295.setTop (mkF m 78 #[.val (.ref a), .val (.int (2 : Int32)), .val (.int ((en - (1 : Int32)) + (-1 : Int32)))] [(.ref a), (.ref xj)])) _
    refine st298 _ ?_
    show Steps p.tables e below (T298.setTop (mkF m 81 #[.val (.ref a), .val (.int (2 : Int32)), .val (.int ((en - (1 : Int32)) + (-1 : Int32)))] [(.ref si), (.ref xj)])) _
    refine XS.iloadN X298.here hx rfl (hb hby d7_81) rfl ?_
    show Steps p.tables e below (T298.setTop (mkF m 82 #[.val (.ref a), .val (.int (2 : Int32)), .val (.int ((en - (1 : Int32)) + (-1 : Int32)))] [(.int ((en - (1 : Int32)) + (-1 : Int32))), (.ref si), (.ref xj)])) _
    refine own_ldI X298 hx hZ e298 f299 (i := 2) (by rw [hen]; decide) (by decide) hfx2 (g := (mkF m 82 #[.val (.ref a), .val (.int (2 : Int32)), .val (.int ((en - (1 : Int32)) + (-1 : Int32)))] [(.int ((en - (1 : Int32)) + (-1 : Int32))), (.ref si), (.ref xj)])) rfl rfl (hb hby d7_82) _ ?_
    show Steps p.tables e below (T298.setTop (mkF m 83 #[.val (.ref a), .val (.int (2 : Int32)), .val (.int ((en - (1 : Int32)) + (-1 : Int32)))] [(.int (1 : Int32)), (.ref xj)])) _
    refine XS.aloadN X298.here hx rfl (hb hby d7_83) rfl rfl ?_
    show Steps p.tables e below (T298.setTop (mkF m 84 #[.val (.ref a), .val (.int (2 : Int32)), .val (.int ((en - (1 : Int32)) + (-1 : Int32)))] [(.ref a), (.int (1 : Int32)), (.ref xj)])) _
    refine st301 _ ?_
    show Steps p.tables e below (T301.setTop (mkF m 87 #[.val (.ref a), .val (.int (2 : Int32)), .val (.int ((en - (1 : Int32)) + (-1 : Int32)))] [(.ref ov), (.int (1 : Int32)), (.ref xj)])) _
    refine XS.iloadN X301.here hx rfl (hb hby d7_87) rfl ?_
    show Steps p.tables e below (T301.setTop (mkF m 88 #[.val (.ref a), .val (.int (2 : Int32)), .val (.int ((en - (1 : Int32)) + (-1 : Int32)))] [(.int ((en - (1 : Int32)) + (-1 : Int32))), (.ref ov), (.int (1 : Int32)), (.ref xj)])) _
    refine own_ldJ X301 hx hZ e301 f302 (i := 2) (by rw [hen]; decide) (by decide) rfl (g := (mkF m 88 #[.val (.ref a), .val (.int (2 : Int32)), .val (.int ((en - (1 : Int32)) + (-1 : Int32)))] [(.int ((en - (1 : Int32)) + (-1 : Int32))), (.ref ov), (.int (1 : Int32)), (.ref xj)])) rfl rfl (hb hby d7_88) _ ?_
    show Steps p.tables e below (T301.setTop (mkF m 89 #[.val (.ref a), .val (.int (2 : Int32)), .val (.int ((en - (1 : Int32)) + (-1 : Int32)))] [(.long (fo 2)), (.int (1 : Int32)), (.ref xj)])) _
    refine st304 _ ?_
    show Steps p.tables e below (T304.setTop (mkF m 90 #[.val (.ref a), .val (.int (2 : Int32)), .val (.int ((en - (1 : Int32)) + (-1 : Int32)))] [])) _
    refine XS.aloadN X304.here hx rfl (hb hby d7_90) rfl rfl ?_
    show Steps p.tables e below (T304.setTop (mkF m 91 #[.val (.ref a), .val (.int (2 : Int32)), .val (.int ((en - (1 : Int32)) + (-1 : Int32)))] [(.ref a)])) _
    refine st306 _ ?_
    show Steps p.tables e below (T306.setTop (mkF m 94 #[.val (.ref a), .val (.int (2 : Int32)), .val (.int ((en - (1 : Int32)) + (-1 : Int32)))] [(.ref la)])) _
    refine XS.iloadN X306.here hx rfl (hb hby d7_94) rfl ?_
    show Steps p.tables e below (T306.setTop (mkF m 95 #[.val (.ref a), .val (.int (2 : Int32)), .val (.int ((en - (1 : Int32)) + (-1 : Int32)))] [(.int ((en - (1 : Int32)) + (-1 : Int32))), (.ref la)])) _
    refine XS.aconstNull X306.here hx rfl (hb hby d7_95) ?_
    show Steps p.tables e below (T306.setTop (mkF m 96 #[.val (.ref a), .val (.int (2 : Int32)), .val (.int ((en - (1 : Int32)) + (-1 : Int32)))] [.null, (.int ((en - (1 : Int32)) + (-1 : Int32))), (.ref la)])) _
    refine st308 _ ?_
    show Steps p.tables e below (T308.setTop (mkF m 97 #[.val (.ref a), .val (.int (2 : Int32)), .val (.int ((en - (1 : Int32)) + (-1 : Int32)))] [])) _
    refine XS.iinc X308.here hx rfl (hb hby d7_97) rfl (l' := #[.val (.ref a), .val (.int (2 : Int32)), .val (.int (((en - (1 : Int32)) + (-1 : Int32)) + (-1 : Int32)))]) rfl ?_
    show Steps p.tables e below (T308.setTop (mkF m 100 #[.val (.ref a), .val (.int (2 : Int32)), .val (.int (((en - (1 : Int32)) + (-1 : Int32)) + (-1 : Int32)))] [])) _
    refine XS.goto X308.here hx rfl (pc0 := 100) (pc' := 27) rfl (hb hby d7_100) (by decide) (by decide) ?_
    show Steps p.tables e below (T308.setTop (mkF m 27 #[.val (.ref a), .val (.int (2 : Int32)), .val (.int (((en - (1 : Int32)) + (-1 : Int32)) + (-1 : Int32)))] [])) _
    refine XS.iloadN X308.here hx rfl (hb hby d7_27) rfl ?_
    show Steps p.tables e below (T308.setTop (mkF m 28 #[.val (.ref a), .val (.int (2 : Int32)), .val (.int (((en - (1 : Int32)) + (-1 : Int32)) + (-1 : Int32)))] [(.int (((en - (1 : Int32)) + (-1 : Int32)) + (-1 : Int32)))])) _
    refine XS.iloadN X308.here hx rfl (hb hby d7_28) rfl ?_
    show Steps p.tables e below (T308.setTop (mkF m 29 #[.val (.ref a), .val (.int (2 : Int32)), .val (.int (((en - (1 : Int32)) + (-1 : Int32)) + (-1 : Int32)))] [(.int (2 : Int32)), (.int (((en - (1 : Int32)) + (-1 : Int32)) + (-1 : Int32)))])) _
    refine XS.icmpYes X308.here hx rfl (pc0 := 29) (pc' := 103) rfl (hb hby d7_29) rfl (tlt hc29_309).1 (by decide) (by decide) ?_
    show Steps p.tables e below (T308.setTop (mkF m 103 #[.val (.ref a), .val (.int (2 : Int32)), .val (.int (((en - (1 : Int32)) + (-1 : Int32)) + (-1 : Int32)))] [])) _
    refine XS.aloadN X308.here hx rfl (hb hby d7_103) rfl rfl ?_
    show Steps p.tables e below (T308.setTop (mkF m 104 #[.val (.ref a), .val (.int (2 : Int32)), .val (.int (((en - (1 : Int32)) + (-1 : Int32)) + (-1 : Int32)))] [(.ref a)])) _
    exact kt
  have f311 := ((((f270.keep (Keep.of_wr W285) (ninS ne_a_xi nin0)).keep (Keep.of_wr W289) (ninS ne_a_ia nin0)).keep (Keep.of_wr W304) (ninS ne_a_xj nin0)).keep (Keep.of_wr W308) (ninS ne_a_la nin0))
  have f312 := (((((E_a.keep (Keep.of_wr W265)).keep (Keep.of_wr W285)).keep (Keep.of_wr W289)).keep (Keep.of_wr W304)).keep (Keep.of_wr W308))
  obtain ⟨T313, h313, X313, e313, W313, st313⟩ := putF X308 hx hZ hown (host := "") (Or.inl (hw _ (List.mem_of_getElem? (i := 34) rfl))) Via.refl e308 f311 f312 (Or.inl (hw _ (List.mem_of_getElem? (i := 35) rfl))) (hw _ (List.mem_of_getElem? (i := 1) rfl)) (ty := .int) (by decide) rfl rfl (g := (mkF m 105 #[.val (.ref a), .val (.int (2 : Int32)), .val (.int (((en - (1 : Int32)) + (-1 : Int32)) + (-1 : Int32)))] [(.int (2 : Int32)), (.ref a)])) rfl rfl (hb hby d7_105)
  have N313 := Fr.snoc X313 N308 g_a
  have F313 := Fld.same W313 f311
  have f314 := (Fld.other W313 (((((Fld.other W265 F_a_outerStamps (Or.inr (slot_ne (Or.inl (hw _ (List.mem_of_getElem? (i := 26) rfl))) (Or.inl (hw _ (List.mem_of_getElem? (i := 33) rfl))) (by decide) (t := (.array .long)) (t' := .int) (by decide) (by decide)))).keep (Keep.of_wr W285) (ninS ne_a_xi nin0)).keep (Keep.of_wr W289) (ninS ne_a_ia nin0)).keep (Keep.of_wr W304) (ninS ne_a_xj nin0)).keep (Keep.of_wr W308) (ninS ne_a_la nin0)) (Or.inr (slot_ne (Or.inl (hw _ (List.mem_of_getElem? (i := 26) rfl))) (Or.inl (hw _ (List.mem_of_getElem? (i := 35) rfl))) (by decide) (t := (.array .long)) (t' := .int) (by decide) (by decide))))
  obtain ⟨T315, X315, e315, st315⟩ := getF X313 hx hZ hown (host := "") (Or.inl (hw _ (List.mem_of_getElem? (i := 25) rfl))) Via.refl e313 f314 (g := (mkF m 110 #[.val (.ref a), .val (.int (2 : Int32)), .val (.int (((en - (1 : Int32)) + (-1 : Int32)) + (-1 : Int32)))] [(.ref a), (.ref a)])) rfl rfl (hb hby d7_110)
  have f316 := (Fld.other W313 ((((F265.keep (Keep.of_wr W285) (ninS ne_a_xi nin0)).keep (Keep.of_wr W289) (ninS ne_a_ia nin0)).keep (Keep.of_wr W304) (ninS ne_a_xj nin0)).keep (Keep.of_wr W308) (ninS ne_a_la nin0)) (Or.inr (slot_ne (Or.inl (hw _ (List.mem_of_getElem? (i := 33) rfl))) (Or.inl (hw _ (List.mem_of_getElem? (i := 35) rfl))) (by decide) (t := .int) (t' := .int) (by decide) (by decide))))
  obtain ⟨T317, X317, e317, st317⟩ := getF X315 hx hZ hown (host := "") (Or.inl (hw _ (List.mem_of_getElem? (i := 32) rfl))) Via.refl e315 f316 (g := (mkF m 114 #[.val (.ref a), .val (.int (2 : Int32)), .val (.int (((en - (1 : Int32)) + (-1 : Int32)) + (-1 : Int32)))] [(.ref a), (.ref os), (.ref a)])) rfl rfl (hb hby d7_114)
  have f318 := ((((((V_os.keep (Keep.of_wr W265) (ninS (Ne.symm ne_a_os) nin0)).keep (Keep.of_wr W285) (ninS ne_os_xi nin0)).keep (Keep.of_wr W289) (ninS (Ne.symm ne_ia_os) nin0)).keep (Keep.of_wr W304) (ninS ne_os_xj nin0)).keep (Keep.of_wr W308) (ninS (Ne.symm ne_la_os) nin0)).keep (Keep.of_wr W313) (ninS (Ne.symm ne_a_os) nin0))
  have f319 := (Fld.other W313 (((((Fld.other W265 F_a_stamp (Or.inr (slot_ne (Or.inl (hw _ (List.mem_of_getElem? (i := 37) rfl))) (Or.inl (hw _ (List.mem_of_getElem? (i := 33) rfl))) (by decide) (t := .long) (t' := .int) (by decide) (by decide)))).keep (Keep.of_wr W285) (ninS ne_a_xi nin0)).keep (Keep.of_wr W289) (ninS ne_a_ia nin0)).keep (Keep.of_wr W304) (ninS ne_a_xj nin0)).keep (Keep.of_wr W308) (ninS ne_a_la nin0)) (Or.inr (slot_ne (Or.inl (hw _ (List.mem_of_getElem? (i := 37) rfl))) (Or.inl (hw _ (List.mem_of_getElem? (i := 35) rfl))) (by decide) (t := .long) (t' := .int) (by decide) (by decide))))
  have f320 := (f312.keep (Keep.of_wr W313))
  obtain ⟨T321, h321, X321, e321, W321, st321⟩ := putF X317 hx hZ hown (host := "") (Or.inl (hw _ (List.mem_of_getElem? (i := 36) rfl))) Via.refl e317 f319 f320 (Or.inl (hw _ (List.mem_of_getElem? (i := 37) rfl))) (hw _ (List.mem_of_getElem? (i := 1) rfl)) (ty := .long) (by decide) rfl rfl (g := (mkF m 118 #[.val (.ref a), .val (.int (2 : Int32)), .val (.int (((en - (1 : Int32)) + (-1 : Int32)) + (-1 : Int32)))] [(.long (fq k)), (.ref a)])) rfl rfl (hb hby d7_118)
  have N321 := Fr.snoc X321 N313 g_a
  have F321 := Fld.same W321 f319
  have k322 : ∀ tg_, Steps p.tables e below (T321.setTop (mkF m 121 #[.val (.ref a), .val (.int (2 : Int32)), .val (.int (((en - (1 : Int32)) + (-1 : Int32)) + (-1 : Int32)))] [])) tg_ → Steps p.tables e below (s₁.setTop (entryFrame m #[(.ref a)] 3)) tg_ := by
    intro tg_ kt
    refine k310 tg_ ?_
    refine XS.iloadN X308.here hx rfl (hb hby d7_104) rfl ?_
    show Steps p.tables e below (T308.setTop (mkF m 105 #[.val (.ref a), .val (.int (2 : Int32)), .val (.int (((en - (1 : Int32)) + (-1 : Int32)) + (-1 : Int32)))] [(.int (2 : Int32)), (.ref a)])) _
    refine st313 _ ?_
    show Steps p.tables e below (T313.setTop (mkF m 108 #[.val (.ref a), .val (.int (2 : Int32)), .val (.int (((en - (1 : Int32)) + (-1 : Int32)) + (-1 : Int32)))] [])) _
    refine XS.aloadN X313.here hx rfl (hb hby d7_108) rfl rfl ?_
    show Steps p.tables e below (T313.setTop (mkF m 109 #[.val (.ref a), .val (.int (2 : Int32)), .val (.int (((en - (1 : Int32)) + (-1 : Int32)) + (-1 : Int32)))] [(.ref a)])) _
    refine XS.aloadN X313.here hx rfl (hb hby d7_109) rfl rfl ?_
    show Steps p.tables e below (T313.setTop (mkF m 110 #[.val (.ref a), .val (.int (2 : Int32)), .val (.int (((en - (1 : Int32)) + (-1 : Int32)) + (-1 : Int32)))] [(.ref a), (.ref a)])) _
    refine st315 _ ?_
    show Steps p.tables e below (T315.setTop (mkF m 113 #[.val (.ref a), .val (.int (2 : Int32)), .val (.int (((en - (1 : Int32)) + (-1 : Int32)) + (-1 : Int32)))] [(.ref os), (.ref a)])) _
    refine XS.aloadN X315.here hx rfl (hb hby d7_113) rfl rfl ?_
    show Steps p.tables e below (T315.setTop (mkF m 114 #[.val (.ref a), .val (.int (2 : Int32)), .val (.int (((en - (1 : Int32)) + (-1 : Int32)) + (-1 : Int32)))] [(.ref a), (.ref os), (.ref a)])) _
    refine st317 _ ?_
    show Steps p.tables e below (T317.setTop (mkF m 117 #[.val (.ref a), .val (.int (2 : Int32)), .val (.int (((en - (1 : Int32)) + (-1 : Int32)) + (-1 : Int32)))] [(.int (lv - (1 : Int32))), (.ref os), (.ref a)])) _
    refine own_ldJ X317 hx hZ e317 f318 (i := k) hlv hbk rfl (g := (mkF m 117 #[.val (.ref a), .val (.int (2 : Int32)), .val (.int (((en - (1 : Int32)) + (-1 : Int32)) + (-1 : Int32)))] [(.int (lv - (1 : Int32))), (.ref os), (.ref a)])) rfl rfl (hb hby d7_117) _ ?_
    show Steps p.tables e below (T317.setTop (mkF m 118 #[.val (.ref a), .val (.int (2 : Int32)), .val (.int (((en - (1 : Int32)) + (-1 : Int32)) + (-1 : Int32)))] [(.long (fq k)), (.ref a)])) _
    refine st321 _ ?_
    show Steps p.tables e below (T321.setTop (mkF m 121 #[.val (.ref a), .val (.int (2 : Int32)), .val (.int (((en - (1 : Int32)) + (-1 : Int32)) + (-1 : Int32)))] [])) _
    exact kt
  have f323 := ((((((((Keep.refl h0 [a, ia, la, xi, xj]).trans (Keep.of_wr W265) (allS (Or.inl (List.mem_of_getElem? (i := 0) rfl)) all0)).trans (Keep.of_wr W285) (allS (Or.inl (List.mem_of_getElem? (i := 3) rfl)) all0)).trans (Keep.of_wr W289) (allS (Or.inl (List.mem_of_getElem? (i := 1) rfl)) all0)).trans (Keep.of_wr W304) (allS (Or.inl (List.mem_of_getElem? (i := 4) rfl)) all0)).trans (Keep.of_wr W308) (allS (Or.inl (List.mem_of_getElem? (i := 2) rfl)) all0)).trans (Keep.of_wr W313) (allS (Or.inl (List.mem_of_getElem? (i := 0) rfl)) all0)).trans (Keep.of_wr W321) (allS (Or.inl (List.mem_of_getElem? (i := 0) rfl)) all0))
  have f324 := (Fld.other W321 (Fld.other W313 ((f291.keep (Keep.of_wr W304) (ninS ne_a_xj nin0)).keep (Keep.of_wr W308) (ninS ne_a_la nin0)) (Or.inr (slot_ne (Or.inl (hw _ (List.mem_of_getElem? (i := 12) rfl))) (Or.inl (hw _ (List.mem_of_getElem? (i := 35) rfl))) (by decide) (t := (.array (.array .int))) (t' := .int) (by decide) (by decide)))) (Or.inr (slot_ne (Or.inl (hw _ (List.mem_of_getElem? (i := 12) rfl))) (Or.inl (hw _ (List.mem_of_getElem? (i := 37) rfl))) (by decide) (t := (.array (.array .int))) (t' := .long) (by decide) (by decide))))
  have f325 := (Fld.other W321 (Fld.other W313 (f305.keep (Keep.of_wr W308) (ninS ne_a_la nin0)) (Or.inr (slot_ne (Or.inl (hw _ (List.mem_of_getElem? (i := 16) rfl))) (Or.inl (hw _ (List.mem_of_getElem? (i := 35) rfl))) (by decide) (t := (.array (.array .long))) (t' := .int) (by decide) (by decide)))) (Or.inr (slot_ne (Or.inl (hw _ (List.mem_of_getElem? (i := 16) rfl))) (Or.inl (hw _ (List.mem_of_getElem? (i := 37) rfl))) (by decide) (t := (.array (.array .long))) (t' := .long) (by decide) (by decide))))
  have f326 := (Fld.other W321 (Fld.other W313 ((f297.keep (Keep.of_wr W304) (ninS ne_a_xj nin0)).keep (Keep.of_wr W308) (ninS ne_a_la nin0)) (Or.inr (slot_ne (Or.inl (hw _ (List.mem_of_getElem? (i := 19) rfl))) (Or.inl (hw _ (List.mem_of_getElem? (i := 35) rfl))) (by decide) (t := (.array .int)) (t' := .int) (by decide) (by decide)))) (Or.inr (slot_ne (Or.inl (hw _ (List.mem_of_getElem? (i := 19) rfl))) (Or.inl (hw _ (List.mem_of_getElem? (i := 37) rfl))) (by decide) (t := (.array .int)) (t' := .long) (by decide) (by decide))))
  have f327 := (Fld.other W321 (Fld.other W313 ((f300.keep (Keep.of_wr W304) (ninS ne_a_xj nin0)).keep (Keep.of_wr W308) (ninS ne_a_la nin0)) (Or.inr (slot_ne (Or.inl (hw _ (List.mem_of_getElem? (i := 22) rfl))) (Or.inl (hw _ (List.mem_of_getElem? (i := 35) rfl))) (by decide) (t := (.array .long)) (t' := .int) (by decide) (by decide)))) (Or.inr (slot_ne (Or.inl (hw _ (List.mem_of_getElem? (i := 22) rfl))) (Or.inl (hw _ (List.mem_of_getElem? (i := 37) rfl))) (by decide) (t := (.array .long)) (t' := .long) (by decide) (by decide))))
  have f328 := (Fld.other W321 (Fld.other W313 ((((f266.keep (Keep.of_wr W285) (ninS ne_a_xi nin0)).keep (Keep.of_wr W289) (ninS ne_a_ia nin0)).keep (Keep.of_wr W304) (ninS ne_a_xj nin0)).keep (Keep.of_wr W308) (ninS ne_a_la nin0)) (Or.inr (slot_ne (Or.inl (hw _ (List.mem_of_getElem? (i := 24) rfl))) (Or.inl (hw _ (List.mem_of_getElem? (i := 35) rfl))) (by decide) (t := (.array .int)) (t' := .int) (by decide) (by decide)))) (Or.inr (slot_ne (Or.inl (hw _ (List.mem_of_getElem? (i := 24) rfl))) (Or.inl (hw _ (List.mem_of_getElem? (i := 37) rfl))) (by decide) (t := (.array .int)) (t' := .long) (by decide) (by decide))))
  have f329 := (Fld.other W321 f314 (Or.inr (slot_ne (Or.inl (hw _ (List.mem_of_getElem? (i := 26) rfl))) (Or.inl (hw _ (List.mem_of_getElem? (i := 37) rfl))) (by decide) (t := (.array .long)) (t' := .long) (by decide) (by decide))))
  have f330 := (Fld.other W321 (Fld.other W313 (((((Fld.other W265 F_a_lastStamp (Or.inr (slot_ne (Or.inl (hw _ (List.mem_of_getElem? (i := 39) rfl))) (Or.inl (hw _ (List.mem_of_getElem? (i := 33) rfl))) (by decide) (t := .long) (t' := .int) (by decide) (by decide)))).keep (Keep.of_wr W285) (ninS ne_a_xi nin0)).keep (Keep.of_wr W289) (ninS ne_a_ia nin0)).keep (Keep.of_wr W304) (ninS ne_a_xj nin0)).keep (Keep.of_wr W308) (ninS ne_a_la nin0)) (Or.inr (slot_ne (Or.inl (hw _ (List.mem_of_getElem? (i := 39) rfl))) (Or.inl (hw _ (List.mem_of_getElem? (i := 35) rfl))) (by decide) (t := .long) (t' := .int) (by decide) (by decide)))) (Or.inr (slot_ne (Or.inl (hw _ (List.mem_of_getElem? (i := 39) rfl))) (Or.inl (hw _ (List.mem_of_getElem? (i := 37) rfl))) (by decide) (t := .long) (t' := .long) (by decide) (by decide))))
  have f331 := (Fld.other W321 F313 (Or.inr (slot_ne (Or.inl (hw _ (List.mem_of_getElem? (i := 35) rfl))) (Or.inl (hw _ (List.mem_of_getElem? (i := 37) rfl))) (by decide) (t := .int) (t' := .long) (by decide) (by decide))))
  have f332 := (Fld.other W321 f316 (Or.inr (slot_ne (Or.inl (hw _ (List.mem_of_getElem? (i := 33) rfl))) (Or.inl (hw _ (List.mem_of_getElem? (i := 37) rfl))) (by decide) (t := .int) (t' := .long) (by decide) (by decide))))
  have f333 := ((((V289.keep (Keep.of_wr W304) (ninS ne_ia_xj nin0)).keep (Keep.of_wr W308) (ninS ne_ia_la nin0)).keep (Keep.of_wr W313) (ninS (Ne.symm ne_a_ia) nin0)).keep (Keep.of_wr W321) (ninS (Ne.symm ne_a_ia) nin0))
  have f334 := ((V308.keep (Keep.of_wr W313) (ninS (Ne.symm ne_a_la) nin0)).keep (Keep.of_wr W321) (ninS (Ne.symm ne_a_la) nin0))
  have f335 := (((((V285.keep (Keep.of_wr W289) (ninS (Ne.symm ne_ia_xi) nin0)).keep (Keep.of_wr W304) (ninS ne_xi_xj nin0)).keep (Keep.of_wr W308) (ninS (Ne.symm ne_la_xi) nin0)).keep (Keep.of_wr W313) (ninS (Ne.symm ne_a_xi) nin0)).keep (Keep.of_wr W321) (ninS (Ne.symm ne_a_xi) nin0))
  have f336 := (((V304.keep (Keep.of_wr W308) (ninS (Ne.symm ne_la_xj) nin0)).keep (Keep.of_wr W313) (ninS (Ne.symm ne_a_xj) nin0)).keep (Keep.of_wr W321) (ninS (Ne.symm ne_a_xj) nin0))
  obtain ⟨fs, hr, hrun, hended, hW, hsame⟩ := X321.leave (v := none) (fun _ => rfl) (hlocks := by first | exact BodyLoose.notSynchronized Bd | exact Body.notSynchronized Bd)
  refine ⟨_, _, k322 _ (X321.returnOut hx Bd.returns (hb hby d7_121) hr), hrun, hended, _, _, rfl, ?_, ⟨_, rfl⟩, hW, hsame.mono (by decide) (by decide)⟩
  show QclA Z a ia la si ov ls os en lv sp lsp gi gl fx fo xi xj k fl fq fi fj h0 n0 _ T321.heap _
  rw [e321]
  exact ⟨rfl, N321, f323, f324, f325, f326, f327, f328, f329, f330, f331, f332, F321, f333, f334, f335, f336⟩
theorem ef_clB (m : MethodId) (x0 : Addr) : entryFrame m #[(.ref x0)] 3 = mkF m 0 #[.val (.ref x0), .unset, .unset] [] := by first | (simp [entryFrame, mkF, argsToLocals, Value.category]; done) | rfl
def QclB (Z : State) (a : Addr) (ia : Addr) (la : Addr) (si : Addr) (ov : Addr) (ls : Addr) (os : Addr) (en : Int32) (lv : Int32) (sp : Int64) (lsp : Int64) (gi : Nat → Value) (gl : Nat → Value) (fx : Nat → Int32) (fo : Nat → Int64) (xi : Addr) (xj : Addr) (k : Nat) (fl : Nat → Int32) (fq : Nat → Int64) (fi : Nat → Int32) (fj : Nat → Int64) (h0 : Heap) (n0 : Nat) (rv_ : Option Value) (h : Heap) (LL_ : List Loc) : Prop := rv_ = none ∧ Fr n0 LL_ ∧ Keep h0 h [a, ia, la, xi, xj] ∧ Fld Z h a "com/example/tablewise/tablewise/propagation/Trail" "intArrays" "[[I" (.ref ia) ∧ Fld Z h a "com/example/tablewise/tablewise/propagation/Trail" "longArrays" "[[J" (.ref la) ∧ Fld Z h a "com/example/tablewise/tablewise/propagation/Trail" "slotIndices" "[I" (.ref si) ∧ Fld Z h a "com/example/tablewise/tablewise/propagation/Trail" "oldValues" "[J" (.ref ov) ∧ Fld Z h a "com/example/tablewise/tablewise/propagation/Trail" "levelStarts" "[I" (.ref ls) ∧ Fld Z h a "com/example/tablewise/tablewise/propagation/Trail" "outerStamps" "[J" (.ref os) ∧ Fld Z h a "com/example/tablewise/tablewise/propagation/Trail" "lastStamp" "J" (.long lsp) ∧ Fld Z h a "com/example/tablewise/tablewise/propagation/Trail" "entries" "I" (.int (0 : Int32)) ∧ Fld Z h a "com/example/tablewise/tablewise/propagation/Trail" "level" "I" (.int (lv - (1 : Int32))) ∧ Fld Z h a "com/example/tablewise/tablewise/propagation/Trail" "stamp" "J" (.long (fq k)) ∧ own_AR Z h ia .int "[I" 64 (own_upd gi 0 .null) ∧ own_AR Z h la .long "[J" 64 (own_upd (own_upd gl 2 .null) 1 .null) ∧ own_AI Z h xi .int 2 (own_upd fi 0 ((fo 0).toInt32)) ∧ own_AL Z h xj 2 (own_upd (own_upd fj 0 (fo 2)) 1 (fo 1))
set_option maxRecDepth 65536 in
set_option maxHeartbeats 40000000 in
theorem rmclB (l : Launch) (Z : State) (a0 : Array Value) (hw : ∀ d ∈ tables_1, d.before a0 Z = true) (ws : List Jvm.Cond) (a : Addr) (ia : Addr) (la : Addr) (si : Addr) (ov : Addr) (ls : Addr) (os : Addr) (en : Int32) (lv : Int32) (sp : Int64) (lsp : Int64) (gi : Nat → Value) (gl : Nat → Value) (fx : Nat → Int32) (fo : Nat → Int64) (xi : Addr) (xj : Addr) (k : Nat) (fl : Nat → Int32) (fq : Nat → Int64) (fi : Nat → Int32) (fj : Nat → Int64) (h0 : Heap) (n0 : Nat) (Z0 : n0 ≤ h0.size) (E_a : Exa Z h0 a "com/example/tablewise/tablewise/propagation/Trail") (F_a_intArrays : Fld Z h0 a "com/example/tablewise/tablewise/propagation/Trail" "intArrays" "[[I" (.ref ia)) (F_a_longArrays : Fld Z h0 a "com/example/tablewise/tablewise/propagation/Trail" "longArrays" "[[J" (.ref la)) (F_a_slotIndices : Fld Z h0 a "com/example/tablewise/tablewise/propagation/Trail" "slotIndices" "[I" (.ref si)) (F_a_oldValues : Fld Z h0 a "com/example/tablewise/tablewise/propagation/Trail" "oldValues" "[J" (.ref ov)) (F_a_entries : Fld Z h0 a "com/example/tablewise/tablewise/propagation/Trail" "entries" "I" (.int en)) (F_a_levelStarts : Fld Z h0 a "com/example/tablewise/tablewise/propagation/Trail" "levelStarts" "[I" (.ref ls)) (F_a_outerStamps : Fld Z h0 a "com/example/tablewise/tablewise/propagation/Trail" "outerStamps" "[J" (.ref os)) (F_a_level : Fld Z h0 a "com/example/tablewise/tablewise/propagation/Trail" "level" "I" (.int lv)) (F_a_stamp : Fld Z h0 a "com/example/tablewise/tablewise/propagation/Trail" "stamp" "J" (.long sp)) (F_a_lastStamp : Fld Z h0 a "com/example/tablewise/tablewise/propagation/Trail" "lastStamp" "J" (.long lsp)) (V_ia : own_AR Z h0 ia .int "[I" 64 gi) (V_la : own_AR Z h0 la .long "[J" 64 gl) (V_si : own_AI Z h0 si .int 64 fx) (V_ov : own_AL Z h0 ov 64 fo) (V_ls : own_AI Z h0 ls .int 16 fl) (V_os : own_AL Z h0 os 16 fq) (V_xi : own_AI Z h0 xi .int 2 fi) (V_xj : own_AL Z h0 xj 2 fj) (g_a : n0 ≤ a) (g_ia : n0 ≤ ia) (g_la : n0 ≤ la) (g_xi : n0 ≤ xi) (g_xj : n0 ≤ xj) (ne_a_ia : a ≠ ia) (ne_a_la : a ≠ la) (ne_a_si : a ≠ si) (ne_a_ov : a ≠ ov) (ne_a_ls : a ≠ ls) (ne_a_os : a ≠ os) (ne_a_xi : a ≠ xi) (ne_a_xj : a ≠ xj) (ne_ia_la : ia ≠ la) (ne_ia_si : ia ≠ si) (ne_ia_ov : ia ≠ ov) (ne_ia_ls : ia ≠ ls) (ne_ia_os : ia ≠ os) (ne_ia_xi : ia ≠ xi) (ne_ia_xj : ia ≠ xj) (ne_la_si : la ≠ si) (ne_la_ov : la ≠ ov) (ne_la_ls : la ≠ ls) (ne_la_os : la ≠ os) (ne_la_xi : la ≠ xi) (ne_la_xj : la ≠ xj) (ne_si_ov : si ≠ ov) (ne_si_ls : si ≠ ls) (ne_si_os : si ≠ os) (ne_si_xi : si ≠ xi) (ne_si_xj : si ≠ xj) (ne_ov_ls : ov ≠ ls) (ne_ov_os : ov ≠ os) (ne_ov_xi : ov ≠ xi) (ne_ov_xj : ov ≠ xj) (ne_ls_os : ls ≠ os) (ne_ls_xi : ls ≠ xi) (ne_ls_xj : ls ≠ xj) (ne_os_xi : os ≠ xi) (ne_os_xj : os ≠ xj) (ne_xi_xj : xi ≠ xj) (hlv : (lv - (1 : Int32)).toInt = (k : Int)) (hbk : k < 16) (hen : en = (3 : Int32)) (hst : fl k = (0 : Int32)) (hgi2 : gi 2 = .null) (hgl2 : gl 2 = (.ref xj)) (hfx2 : fx 2 = (0 : Int32)) (hgi1 : gi 1 = .null) (hgl1 : gl 1 = (.ref xj)) (hfx1 : fx 1 = (1 : Int32)) (hgi0 : gi 0 = (.ref xi)) (hfx0 : fx 0 = (0 : Int32)) :
    MetFree l (⟨"com/example/tablewise/tablewise/propagation/Trail", "closeLevel", "()V"⟩ : MethodName) (head1 (Jvm.Cond.code (⟨"com/example/tablewise/tablewise/propagation/Trail", "closeLevel", "()V"⟩ : MethodName) prog_23_method_3_code 3 none :: ws) ({ frames := 0, cells := 0, slots := 0, locals := 0 } : Room)) (fun aa UU => aa = #[(.ref a)] ∧ Z.Warmed39 UU.vm ∧ UU.heap = h0) (fun _ _ _ _ _ => True) (fun _ UU oo UV => ∃ vv LL, oo = .returned vv ∧ QclB Z a ia la si ov ls os en lv sp lsp gi gl fx fo xi xj k fl fq fi fj h0 n0 vv UV.heap LL ∧ FrameEnd UU oo UV LL ({ frames := 0, cells := 0, slots := 0, locals := 0 } : Room).cells ({ frames := 0, cells := 0, slots := 0, locals := 0 } : Room).slots) := by
  refine MetFree.of_bodySF (plainFor_of_name pn_7) hisR ?_
  intro p e s m args below meth c s₁ Bd hml0 hP hK
  obtain ⟨rfl, hZ, hh⟩ := hP
  have hx := Bd.exec
  have hby := Bd.bytes
  have hml : c.maxLocals = 3 := hml0
  have hown : s.vm.findClass "com/example/tablewise/tablewise/propagation/Trail" = some m.cls := findClass_of_methodNamed Bd.named
  have hnm := (name_of_methodNamed Bd.named Bd.method).1
  have X0 : Stand p l e ({ frames := 0, cells := 0, slots := 0, locals := 0 } : Room) s m #[(.ref a)] below meth c s₁ [] 0 0 := Stand.of_body Bd
  have e0 : s₁.heap = h0 := by rw [← hh, Bd.state]; rfl
  have N0 := Fr.nil n0
  have k0 : ∀ tg_, Steps p.tables e below (s₁.setTop (mkF m 0 #[.val (.ref a), .unset, .unset] [])) tg_ → Steps p.tables e below (s₁.setTop (entryFrame m #[(.ref a)] 3)) tg_ := fun tg_ k => castTop (ef_clB m a) k
  obtain ⟨T337, X337, e337, st337⟩ := getF X0 hx hZ hown (host := "") (Or.inl (hw _ (List.mem_of_getElem? (i := 32) rfl))) Via.refl e0 F_a_level (g := (mkF m 2 #[.val (.ref a), .unset, .unset] [(.ref a), (.ref a)])) rfl rfl (hb hby d7_2)
  obtain ⟨T338, h338, X338, e338, W338, st338⟩ := putF X337 hx hZ hown (host := "") (Or.inl (hw _ (List.mem_of_getElem? (i := 32) rfl))) Via.refl e337 F_a_level E_a (Or.inl (hw _ (List.mem_of_getElem? (i := 33) rfl))) (hw _ (List.mem_of_getElem? (i := 1) rfl)) (ty := .int) (by decide) rfl rfl (g := (mkF m 7 #[.val (.ref a), .unset, .unset] [(.int (lv - (1 : Int32))), (.ref a)])) rfl rfl (hb hby d7_7)
  have N338 := Fr.snoc X338 N0 g_a
  have F338 := Fld.same W338 F_a_level
  have f339 := (Fld.other W338 F_a_levelStarts (Or.inr (slot_ne (Or.inl (hw _ (List.mem_of_getElem? (i := 24) rfl))) (Or.inl (hw _ (List.mem_of_getElem? (i := 33) rfl))) (by decide) (t := (.array .int)) (t' := .int) (by decide) (by decide))))
  obtain ⟨T340, X340, e340, st340⟩ := getF X338 hx hZ hown (host := "") (Or.inl (hw _ (List.mem_of_getElem? (i := 23) rfl))) Via.refl e338 f339 (g := (mkF m 11 #[.val (.ref a), .unset, .unset] [(.ref a)])) rfl rfl (hb hby d7_11)
  obtain ⟨T341, X341, e341, st341⟩ := getF X340 hx hZ hown (host := "") (Or.inl (hw _ (List.mem_of_getElem? (i := 32) rfl))) Via.refl e340 F338 (g := (mkF m 15 #[.val (.ref a), .unset, .unset] [(.ref a), (.ref ls)])) rfl rfl (hb hby d7_15)
  have f342 := (V_ls.keep (Keep.of_wr W338) (ninS (Ne.symm ne_a_ls) nin0))
  have f343 := (Fld.other W338 F_a_entries (Or.inr (slot_ne (Or.inl (hw _ (List.mem_of_getElem? (i := 35) rfl))) (Or.inl (hw _ (List.mem_of_getElem? (i := 33) rfl))) (by decide) (t := .int) (t' := .int) (by decide) (by decide))))
  obtain ⟨T344, X344, e344, st344⟩ := getF X341 hx hZ hown (host := "") (Or.inl (hw _ (List.mem_of_getElem? (i := 34) rfl))) Via.refl e341 f343 (g := (mkF m 21 #[.val (.ref a), .val (.int (0 : Int32)), .unset] [(.ref a)])) rfl rfl (hb hby d7_21)
  have hc29_345 : ¬ ((en - (1 : Int32)) < (0 : Int32)) := (by rw [hen]; decide)
  have f346 := (Fld.other W338 F_a_intArrays (Or.inr (slot_ne (Or.inl (hw _ (List.mem_of_getElem? (i := 12) rfl))) (Or.inl (hw _ (List.mem_of_getElem? (i := 33) rfl))) (by decide) (t := (.array (.array .int))) (t' := .int) (by decide) (by decide))))
  obtain ⟨T347, X347, e347, st347⟩ := getF X344 hx hZ hown (host := "") (Or.inl (hw _ (List.mem_of_getElem? (i := 11) rfl))) Via.refl e344 f346 (g := (mkF m 33 #[.val (.ref a), .val (.int (0 : Int32)), .val (.int (en - (1 : Int32)))] [(.ref a)])) rfl rfl (hb hby d7_33)
  have f348 := (V_ia.keep (Keep.of_wr W338) (ninS (Ne.symm ne_a_ia) nin0))
  have k349 : ∀ tg_, Steps p.tables e below (T347.setTop (mkF m 72 #[.val (.ref a), .val (.int (0 : Int32)), .val (.int (en - (1 : Int32)))] [(.ref a)])) tg_ → Steps p.tables e below (s₁.setTop (entryFrame m #[(.ref a)] 3)) tg_ := by
    intro tg_ kt
    refine k0 tg_ ?_
    refine XS.aloadN X0.here hx rfl (hb hby d7_0) rfl rfl ?_
    show Steps p.tables e below (s₁.setTop (mkF m 1 #[.val (.ref a), .unset, .unset] [(.ref a)])) _
    refine XS.dup X0.here hx rfl (hb hby d7_1) rfl rfl ?_
    show Steps p.tables e below (s₁.setTop (mkF m 2 #[.val (.ref a), .unset, .unset] [(.ref a), (.ref a)])) _
    refine st337 _ ?_
    show Steps p.tables e below (T337.setTop (mkF m 5 #[.val (.ref a), .unset, .unset] [(.int lv), (.ref a)])) _
    refine XS.iconst X337.here hx rfl (hb hby d7_5) ?_
    show Steps p.tables e below (T337.setTop (mkF m 6 #[.val (.ref a), .unset, .unset] [(.int (1 : Int32)), (.int lv), (.ref a)])) _
    refine XS.isub X337.here hx rfl (hb hby d7_6) rfl ?_
    show Steps p.tables e below (T337.setTop (mkF m 7 #[.val (.ref a), .unset, .unset] [(.int (lv - (1 : Int32))), (.ref a)])) _
    refine st338 _ ?_
    show Steps p.tables e below (T338.setTop (mkF m 10 #[.val (.ref a), .unset, .unset] [])) _
    refine XS.aloadN X338.here hx rfl (hb hby d7_10) rfl rfl ?_
    show Steps p.tables e below (T338.setTop (mkF m 11 #[.val (.ref a), .unset, .unset] [(.ref a)])) _
    refine st340 _ ?_
    show Steps p.tables e below (T340.setTop (mkF m 14 #[.val (.ref a), .unset, .unset] [(.ref ls)])) _
    refine XS.aloadN X340.here hx rfl (hb hby d7_14) rfl rfl ?_
    show Steps p.tables e below (T340.setTop (mkF m 15 #[.val (.ref a), .unset, .unset] [(.ref a), (.ref ls)])) _
    refine st341 _ ?_
    show Steps p.tables e below (T341.setTop (mkF m 18 #[.val (.ref a), .unset, .unset] [(.int (lv - (1 : Int32))), (.ref ls)])) _
    refine own_ldI X341 hx hZ e341 f342 (i := k) hlv hbk hst (g := (mkF m 18 #[.val (.ref a), .unset, .unset] [(.int (lv - (1 : Int32))), (.ref ls)])) rfl rfl (hb hby d7_18) _ ?_
    show Steps p.tables e below (T341.setTop (mkF m 19 #[.val (.ref a), .unset, .unset] [(.int (0 : Int32))])) _
    refine XS.istoreN X341.here hx rfl (hb hby d7_19) rfl (l' := #[.val (.ref a), .val (.int (0 : Int32)), .unset]) rfl ?_
    show Steps p.tables e below (T341.setTop (mkF m 20 #[.val (.ref a), .val (.int (0 : Int32)), .unset] [])) _
    refine XS.aloadN X341.here hx rfl (hb hby d7_20) rfl rfl ?_
    show Steps p.tables e below (T341.setTop (mkF m 21 #[.val (.ref a), .val (.int (0 : Int32)), .unset] [(.ref a)])) _
    refine st344 _ ?_
    show Steps p.tables e below (T344.setTop (mkF m 24 #[.val (.ref a), .val (.int (0 : Int32)), .unset] [(.int en)])) _
    refine XS.iconst X344.here hx rfl (hb hby d7_24) ?_
    show Steps p.tables e below (T344.setTop (mkF m 25 #[.val (.ref a), .val (.int (0 : Int32)), .unset] [(.int (1 : Int32)), (.int en)])) _
    refine XS.isub X344.here hx rfl (hb hby d7_25) rfl ?_
    show Steps p.tables e below (T344.setTop (mkF m 26 #[.val (.ref a), .val (.int (0 : Int32)), .unset] [(.int (en - (1 : Int32)))])) _
    refine XS.istoreN X344.here hx rfl (hb hby d7_26) rfl (l' := #[.val (.ref a), .val (.int (0 : Int32)), .val (.int (en - (1 : Int32)))]) rfl ?_
    show Steps p.tables e below (T344.setTop (mkF m 27 #[.val (.ref a), .val (.int (0 : Int32)), .val (.int (en - (1 : Int32)))] [])) _
    refine XS.iloadN X344.here hx rfl (hb hby d7_27) rfl ?_
    show Steps p.tables e below (T344.setTop (mkF m 28 #[.val (.ref a), .val (.int (0 : Int32)), .val (.int (en - (1 : Int32)))] [(.int (en - (1 : Int32)))])) _
    refine XS.iloadN X344.here hx rfl (hb hby d7_28) rfl ?_
    show Steps p.tables e below (T344.setTop (mkF m 29 #[.val (.ref a), .val (.int (0 : Int32)), .val (.int (en - (1 : Int32)))] [(.int (0 : Int32)), (.int (en - (1 : Int32)))])) _
    refine XS.icmpNo X344.here hx rfl (hb hby d7_29) rfl (flt hc29_345).1 ?_
    show Steps p.tables e below (T344.setTop (mkF m 32 #[.val (.ref a), .val (.int (0 : Int32)), .val (.int (en - (1 : Int32)))] [])) _
    refine XS.aloadN X344.here hx rfl (hb hby d7_32) rfl rfl ?_
    show Steps p.tables e below (T344.setTop (mkF m 33 #[.val (.ref a), .val (.int (0 : Int32)), .val (.int (en - (1 : Int32)))] [(.ref a)])) _
    refine st347 _ ?_
    show Steps p.tables e below (T347.setTop (mkF m 36 #[.val (.ref a), .val (.int (0 : Int32)), .val (.int (en - (1 : Int32)))] [(.ref ia)])) _
    refine XS.iloadN X347.here hx rfl (hb hby d7_36) rfl ?_
    show Steps p.tables e below (T347.setTop (mkF m 37 #[.val (.ref a), .val (.int (0 : Int32)), .val (.int (en - (1 : Int32)))] [(.int (en - (1 : Int32))), (.ref ia)])) _
    refine own_ldAR X347 hx hZ e347 f348 (i := 2) (by rw [hen]; decide) (by decide) (by first | exact hgi2 | (simp only [own_upd]; exact hgi2)) (g := (mkF m 37 #[.val (.ref a), .val (.int (0 : Int32)), .val (.int (en - (1 : Int32)))] [(.int (en - (1 : Int32))), (.ref ia)])) rfl rfl (hb hby d7_37) _ ?_
    show Steps p.tables e below (T347.setTop (mkF m 38 #[.val (.ref a), .val (.int (0 : Int32)), .val (.int (en - (1 : Int32)))] [.null])) _
    refine XS.ifnullYes X347.here hx rfl (pc0 := 38) (pc' := 71) rfl (hb hby d7_38) rfl (by decide) (by decide) ?_
    show Steps p.tables e below (T347.setTop (mkF m 71 #[.val (.ref a), .val (.int (0 : Int32)), .val (.int (en - (1 : Int32)))] [])) _
    refine XS.aloadN X347.here hx rfl (hb hby d7_71) rfl rfl ?_
    show Steps p.tables e below (T347.setTop (mkF m 72 #[.val (.ref a), .val (.int (0 : Int32)), .val (.int (en - (1 : Int32)))] [(.ref a)])) _
    exact kt
  have f350 := (Fld.other W338 F_a_longArrays (Or.inr (slot_ne (Or.inl (hw _ (List.mem_of_getElem? (i := 16) rfl))) (Or.inl (hw _ (List.mem_of_getElem? (i := 33) rfl))) (by decide) (t := (.array (.array .long))) (t' := .int) (by decide) (by decide))))
  obtain ⟨T351, X351, e351, st351⟩ := getF X347 hx hZ hown (host := "") (Or.inl (hw _ (List.mem_of_getElem? (i := 15) rfl))) Via.refl e347 f350 (g := (mkF m 72 #[.val (.ref a), .val (.int (0 : Int32)), .val (.int (en - (1 : Int32)))] [(.ref a)])) rfl rfl (hb hby d7_72)
  have f352 := (V_la.keep (Keep.of_wr W338) (ninS (Ne.symm ne_a_la) nin0))
  have f353 := (Fld.other W338 F_a_slotIndices (Or.inr (slot_ne (Or.inl (hw _ (List.mem_of_getElem? (i := 19) rfl))) (Or.inl (hw _ (List.mem_of_getElem? (i := 33) rfl))) (by decide) (t := (.array .int)) (t' := .int) (by decide) (by decide))))
  obtain ⟨T354, X354, e354, st354⟩ := getF X351 hx hZ hown (host := "") (Or.inl (hw _ (List.mem_of_getElem? (i := 18) rfl))) Via.refl e351 f353 (g := (mkF m 78 #[.val (.ref a), .val (.int (0 : Int32)), .val (.int (en - (1 : Int32)))] [(.ref a), (.ref xj)])) rfl rfl (hb hby d7_78)
  have f355 := (V_si.keep (Keep.of_wr W338) (ninS (Ne.symm ne_a_si) nin0))
  have f356 := (Fld.other W338 F_a_oldValues (Or.inr (slot_ne (Or.inl (hw _ (List.mem_of_getElem? (i := 22) rfl))) (Or.inl (hw _ (List.mem_of_getElem? (i := 33) rfl))) (by decide) (t := (.array .long)) (t' := .int) (by decide) (by decide))))
  obtain ⟨T357, X357, e357, st357⟩ := getF X354 hx hZ hown (host := "") (Or.inl (hw _ (List.mem_of_getElem? (i := 21) rfl))) Via.refl e354 f356 (g := (mkF m 84 #[.val (.ref a), .val (.int (0 : Int32)), .val (.int (en - (1 : Int32)))] [(.ref a), (.int (0 : Int32)), (.ref xj)])) rfl rfl (hb hby d7_84)
  have f358 := (V_ov.keep (Keep.of_wr W338) (ninS (Ne.symm ne_a_ov) nin0))
  have f359 := (V_xj.keep (Keep.of_wr W338) (ninS (Ne.symm ne_a_xj) nin0))
  obtain ⟨T360, h360, X360, e360, W360, V360, st360⟩ := own_stJ X357 hx hZ e357 f359 (i := 0) (by decide : (0 : Int32).toInt = ((0 : Nat) : Int)) (by decide) (g := (mkF m 89 #[.val (.ref a), .val (.int (0 : Int32)), .val (.int (en - (1 : Int32)))] [(.long (fo 2)), (.int (0 : Int32)), (.ref xj)])) rfl rfl (hb hby d7_89)
  have N360 := Fr.snoc X360 N338 g_xj
  have f361 := (f350.keep (Keep.of_wr W360) (ninS ne_a_xj nin0))
  obtain ⟨T362, X362, e362, st362⟩ := getF X360 hx hZ hown (host := "") (Or.inl (hw _ (List.mem_of_getElem? (i := 15) rfl))) Via.refl e360 f361 (g := (mkF m 91 #[.val (.ref a), .val (.int (0 : Int32)), .val (.int (en - (1 : Int32)))] [(.ref a)])) rfl rfl (hb hby d7_91)
  have f363 := (f352.keep (Keep.of_wr W360) (ninS ne_la_xj nin0))
  obtain ⟨T364, h364, X364, e364, W364, V364, st364⟩ := own_stAR X362 hx hZ e362 f363 (i := 2) (by rw [hen]; decide) (by decide) (Or.inl rfl) (g := (mkF m 96 #[.val (.ref a), .val (.int (0 : Int32)), .val (.int (en - (1 : Int32)))] [.null, (.int (en - (1 : Int32))), (.ref la)])) rfl rfl (hb hby d7_96)
  have N364 := Fr.snoc X364 N360 g_la
  have hc29_365 : ¬ (((en - (1 : Int32)) + (-1 : Int32)) < (0 : Int32)) := (by rw [hen]; decide)
  have f366 := ((f346.keep (Keep.of_wr W360) (ninS ne_a_xj nin0)).keep (Keep.of_wr W364) (ninS ne_a_la nin0))
  obtain ⟨T367, X367, e367, st367⟩ := getF X364 hx hZ hown (host := "") (Or.inl (hw _ (List.mem_of_getElem? (i := 11) rfl))) Via.refl e364 f366 (g := (mkF m 33 #[.val (.ref a), .val (.int (0 : Int32)), .val (.int ((en - (1 : Int32)) + (-1 : Int32)))] [(.ref a)])) rfl rfl (hb hby d7_33)
  have f368 := ((f348.keep (Keep.of_wr W360) (ninS ne_ia_xj nin0)).keep (Keep.of_wr W364) (ninS ne_ia_la nin0))
  have k369 : ∀ tg_, Steps p.tables e below (T367.setTop (mkF m 38 #[.val (.ref a), .val (.int (0 : Int32)), .val (.int ((en - (1 : Int32)) + (-1 : Int32)))] [.null])) tg_ → Steps p.tables e below (s₁.setTop (entryFrame m #[(.ref a)] 3)) tg_ := by
    intro tg_ kt
    refine k349 tg_ ?_
    refine st351 _ ?_
    show Steps p.tables e below (T351.setTop (mkF m 75 #[.val (.ref a), .val (.int (0 : Int32)), .val (.int (en - (1 : Int32)))] [(.ref la)])) _
    refine XS.iloadN X351.here hx rfl (hb hby d7_75) rfl ?_
    show Steps p.tables e below (T351.setTop (mkF m 76 #[.val (.ref a), .val (.int (0 : Int32)), .val (.int (en - (1 : Int32)))] [(.int (en - (1 : Int32))), (.ref la)])) _
    refine own_ldAR X351 hx hZ e351 f352 (i := 2) (by rw [hen]; decide) (by decide) (by first | exact hgl2 | (simp only [own_upd]; exact hgl2)) (g := (mkF m 76 #[.val (.ref a), .val (.int (0 : Int32)), .val (.int (en - (1 : Int32)))] [(.int (en - (1 : Int32))), (.ref la)])) rfl rfl (hb hby d7_76) _ ?_
    show Steps p.tables e below (T351.setTop (mkF m 77 #[.val (.ref a), .val (.int (0 : Int32)), .val (.int (en - (1 : Int32)))] [(.ref xj)])) _
    refine XS.aloadN X351.here hx rfl (hb hby d7_77) rfl rfl ?_
    show Steps p.tables e below (T351.setTop (mkF m 78 #[.val (.ref a), .val (.int (0 : Int32)), .val (.int (en - (1 : Int32)))] [(.ref a), (.ref xj)])) _
    refine st354 _ ?_
    show Steps p.tables e below (T354.setTop (mkF m 81 #[.val (.ref a), .val (.int (0 : Int32)), .val (.int (en - (1 : Int32)))] [(.ref si), (.ref xj)])) _
    refine XS.iloadN X354.here hx rfl (hb hby d7_81) rfl ?_
    show Steps p.tables e below (T354.setTop (mkF m 82 #[.val (.ref a), .val (.int (0 : Int32)), .val (.int (en - (1 : Int32)))] [(.int (en - (1 : Int32))), (.ref si), (.ref xj)])) _
    refine own_ldI X354 hx hZ e354 f355 (i := 2) (by rw [hen]; decide) (by decide) hfx2 (g := (mkF m 82 #[.val (.ref a), .val (.int (0 : Int32)), .val (.int (en - (1 : Int32)))] [(.int (en - (1 : Int32))), (.ref si), (.ref xj)])) rfl rfl (hb hby d7_82) _ ?_
    show Steps p.tables e below (T354.setTop (mkF m 83 #[.val (.ref a), .val (.int (0 : Int32)), .val (.int (en - (1 : Int32)))] [(.int (0 : Int32)), (.ref xj)])) _
    refine XS.aloadN X354.here hx rfl (hb hby d7_83) rfl rfl ?_
    show Steps p.tables e below (T354.setTop (mkF m 84 #[.val (.ref a), .val (.int (0 : Int32)), .val (.int (en - (1 : Int32)))] [(.ref a), (.int (0 : Int32)), (.ref xj)])) _
    refine st357 _ ?_
    show Steps p.tables e below (T357.setTop (mkF m 87 #[.val (.ref a), .val (.int (0 : Int32)), .val (.int (en - (1 : Int32)))] [(.ref ov), (.int (0 : Int32)), (.ref xj)])) _
    refine XS.iloadN X357.here hx rfl (hb hby d7_87) rfl ?_
    show Steps p.tables e below (T357.setTop (mkF m 88 #[.val (.ref a), .val (.int (0 : Int32)), .val (.int (en - (1 : Int32)))] [(.int (en - (1 : Int32))), (.ref ov), (.int (0 : Int32)), (.ref xj)])) _
    refine own_ldJ X357 hx hZ e357 f358 (i := 2) (by rw [hen]; decide) (by decide) rfl (g := (mkF m 88 #[.val (.ref a), .val (.int (0 : Int32)), .val (.int (en - (1 : Int32)))] [(.int (en - (1 : Int32))), (.ref ov), (.int (0 : Int32)), (.ref xj)])) rfl rfl (hb hby d7_88) _ ?_
    show Steps p.tables e below (T357.setTop (mkF m 89 #[.val (.ref a), .val (.int (0 : Int32)), .val (.int (en - (1 : Int32)))] [(.long (fo 2)), (.int (0 : Int32)), (.ref xj)])) _
    refine st360 _ ?_
    show Steps p.tables e below (T360.setTop (mkF m 90 #[.val (.ref a), .val (.int (0 : Int32)), .val (.int (en - (1 : Int32)))] [])) _
    refine XS.aloadN X360.here hx rfl (hb hby d7_90) rfl rfl ?_
    show Steps p.tables e below (T360.setTop (mkF m 91 #[.val (.ref a), .val (.int (0 : Int32)), .val (.int (en - (1 : Int32)))] [(.ref a)])) _
    refine st362 _ ?_
    show Steps p.tables e below (T362.setTop (mkF m 94 #[.val (.ref a), .val (.int (0 : Int32)), .val (.int (en - (1 : Int32)))] [(.ref la)])) _
    refine XS.iloadN X362.here hx rfl (hb hby d7_94) rfl ?_
    show Steps p.tables e below (T362.setTop (mkF m 95 #[.val (.ref a), .val (.int (0 : Int32)), .val (.int (en - (1 : Int32)))] [(.int (en - (1 : Int32))), (.ref la)])) _
    refine XS.aconstNull X362.here hx rfl (hb hby d7_95) ?_
    show Steps p.tables e below (T362.setTop (mkF m 96 #[.val (.ref a), .val (.int (0 : Int32)), .val (.int (en - (1 : Int32)))] [.null, (.int (en - (1 : Int32))), (.ref la)])) _
    refine st364 _ ?_
    show Steps p.tables e below (T364.setTop (mkF m 97 #[.val (.ref a), .val (.int (0 : Int32)), .val (.int (en - (1 : Int32)))] [])) _
    refine XS.iinc X364.here hx rfl (hb hby d7_97) rfl (l' := #[.val (.ref a), .val (.int (0 : Int32)), .val (.int ((en - (1 : Int32)) + (-1 : Int32)))]) rfl ?_
    show Steps p.tables e below (T364.setTop (mkF m 100 #[.val (.ref a), .val (.int (0 : Int32)), .val (.int ((en - (1 : Int32)) + (-1 : Int32)))] [])) _
    refine XS.goto X364.here hx rfl (pc0 := 100) (pc' := 27) rfl (hb hby d7_100) (by decide) (by decide) ?_
    show Steps p.tables e below (T364.setTop (mkF m 27 #[.val (.ref a), .val (.int (0 : Int32)), .val (.int ((en - (1 : Int32)) + (-1 : Int32)))] [])) _
    refine XS.iloadN X364.here hx rfl (hb hby d7_27) rfl ?_
    show Steps p.tables e below (T364.setTop (mkF m 28 #[.val (.ref a), .val (.int (0 : Int32)), .val (.int ((en - (1 : Int32)) + (-1 : Int32)))] [(.int ((en - (1 : Int32)) + (-1 : Int32)))])) _
    refine XS.iloadN X364.here hx rfl (hb hby d7_28) rfl ?_
    show Steps p.tables e below (T364.setTop (mkF m 29 #[.val (.ref a), .val (.int (0 : Int32)), .val (.int ((en - (1 : Int32)) + (-1 : Int32)))] [(.int (0 : Int32)), (.int ((en - (1 : Int32)) + (-1 : Int32)))])) _
    refine XS.icmpNo X364.here hx rfl (hb hby d7_29) rfl (flt hc29_365).1 ?_
    show Steps p.tables e below (T364.setTop (mkF m 32 #[.val (.ref a), .val (.int (0 : Int32)), .val (.int ((en - (1 : Int32)) + (-1 : Int32)))] [])) _
    refine XS.aloadN X364.here hx rfl (hb hby d7_32) rfl rfl ?_
    show Steps p.tables e below (T364.setTop (mkF m 33 #[.val (.ref a), .val (.int (0 : Int32)), .val (.int ((en - (1 : Int32)) + (-1 : Int32)))] [(.ref a)])) _
    refine st367 _ ?_
    show Steps p.tables e below (T367.setTop (mkF m 36 #[.val (.ref a), .val (.int (0 : Int32)), .val (.int ((en - (1 : Int32)) + (-1 : Int32)))] [(.ref ia)])) _
    refine XS.iloadN X367.here hx rfl (hb hby d7_36) rfl ?_
    show Steps p.tables e below (T367.setTop (mkF m 37 #[.val (.ref a), .val (.int (0 : Int32)), .val (.int ((en - (1 : Int32)) + (-1 : Int32)))] [(.int ((en - (1 : Int32)) + (-1 : Int32))), (.ref ia)])) _
    refine own_ldAR X367 hx hZ e367 f368 (i := 1) (by rw [hen]; decide) (by decide) (by first | exact hgi1 | (simp only [own_upd]; exact hgi1)) (g := (mkF m 37 #[.val (.ref a), .val (.int (0 : Int32)), .val (.int ((en - (1 : Int32)) + (-1 : Int32)))] [(.int ((en - (1 : Int32)) + (-1 : Int32))), (.ref ia)])) rfl rfl (hb hby d7_37) _ ?_
    show Steps p.tables e below (T367.setTop (mkF m 38 #[.val (.ref a), .val (.int (0 : Int32)), .val (.int ((en - (1 : Int32)) + (-1 : Int32)))] [.null])) _
    exact kt
  have f370 := (f361.keep (Keep.of_wr W364) (ninS ne_a_la nin0))
  obtain ⟨T371, X371, e371, st371⟩ := getF X367 hx hZ hown (host := "") (Or.inl (hw _ (List.mem_of_getElem? (i := 15) rfl))) Via.refl e367 f370 (g := (mkF m 72 #[.val (.ref a), .val (.int (0 : Int32)), .val (.int ((en - (1 : Int32)) + (-1 : Int32)))] [(.ref a)])) rfl rfl (hb hby d7_72)
  have f372 := ((f353.keep (Keep.of_wr W360) (ninS ne_a_xj nin0)).keep (Keep.of_wr W364) (ninS ne_a_la nin0))
  obtain ⟨T373, X373, e373, st373⟩ := getF X371 hx hZ hown (host := "") (Or.inl (hw _ (List.mem_of_getElem? (i := 18) rfl))) Via.refl e371 f372 (g := (mkF m 78 #[.val (.ref a), .val (.int (0 : Int32)), .val (.int ((en - (1 : Int32)) + (-1 : Int32)))] [(.ref a), (.ref xj)])) rfl rfl (hb hby d7_78)
  have f374 := ((f355.keep (Keep.of_wr W360) (ninS ne_si_xj nin0)).keep (Keep.of_wr W364) (ninS (Ne.symm ne_la_si) nin0))
  have f375 := ((f356.keep (Keep.of_wr W360) (ninS ne_a_xj nin0)).keep (Keep.of_wr W364) (ninS ne_a_la nin0))
  obtain ⟨T376, X376, e376, st376⟩ := getF X373 hx hZ hown (host := "") (Or.inl (hw _ (List.mem_of_getElem? (i := 21) rfl))) Via.refl e373 f375 (g := (mkF m 84 #[.val (.ref a), .val (.int (0 : Int32)), .val (.int ((en - (1 : Int32)) + (-1 : Int32)))] [(.ref a), (.int (1 : Int32)), (.ref xj)])) rfl rfl (hb hby d7_84)
  have f377 := ((f358.keep (Keep.of_wr W360) (ninS ne_ov_xj nin0)).keep (Keep.of_wr W364) (ninS (Ne.symm ne_la_ov) nin0))
  have f378 := (V360.keep (Keep.of_wr W364) (ninS (Ne.symm ne_la_xj) nin0))
  obtain ⟨T379, h379, X379, e379, W379, V379, st379⟩ := own_stJ X376 hx hZ e376 f378 (i := 1) (by decide : (1 : Int32).toInt = ((1 : Nat) : Int)) (by decide) (g := (mkF m 89 #[.val (.ref a), .val (.int (0 : Int32)), .val (.int ((en - (1 : Int32)) + (-1 : Int32)))] [(.long (fo 1)), (.int (1 : Int32)), (.ref xj)])) rfl rfl (hb hby d7_89)
  have N379 := Fr.snoc X379 N364 g_xj
  have f380 := (f370.keep (Keep.of_wr W379) (ninS ne_a_xj nin0))
  obtain ⟨T381, X381, e381, st381⟩ := getF X379 hx hZ hown (host := "") (Or.inl (hw _ (List.mem_of_getElem? (i := 15) rfl))) Via.refl e379 f380 (g := (mkF m 91 #[.val (.ref a), .val (.int (0 : Int32)), .val (.int ((en - (1 : Int32)) + (-1 : Int32)))] [(.ref a)])) rfl rfl (hb hby d7_91)
  have f382 := (V364.keep (Keep.of_wr W379) (ninS ne_la_xj nin0))
  obtain ⟨T383, h383, X383, e383, W383, V383, st383⟩ := own_stAR X381 hx hZ e381 f382 (i := 1) (by rw [hen]; decide) (by decide) (Or.inl rfl) (g := (mkF m 96 #[.val (.ref a), .val (.int (0 : Int32)), .val (.int ((en - (1 : Int32)) + (-1 : Int32)))] [.null, (.int ((en - (1 : Int32)) + (-1 : Int32))), (.ref la)])) rfl rfl (hb hby d7_96)
  have N383 := Fr.snoc X383 N379 g_la
  have hc29_384 : ¬ ((((en - (1 : Int32)) + (-1 : Int32)) + (-1 : Int32)) < (0 : Int32)) := (by rw [hen]; decide)
  have f385 := ((f366.keep (Keep.of_wr W379) (ninS ne_a_xj nin0)).keep (Keep.of_wr W383) (ninS ne_a_la nin0))
  obtain ⟨T386, X386, e386, st386⟩ := getF X383 hx hZ hown (host := "") (Or.inl (hw _ (List.mem_of_getElem? (i := 11) rfl))) Via.refl e383 f385 (g := (mkF m 33 #[.val (.ref a), .val (.int (0 : Int32)), .val (.int (((en - (1 : Int32)) + (-1 : Int32)) + (-1 : Int32)))] [(.ref a)])) rfl rfl (hb hby d7_33)
  have k387 : ∀ tg_, Steps p.tables e below (T386.setTop (mkF m 36 #[.val (.ref a), .val (.int (0 : Int32)), .val (.int (((en - (1 : Int32)) + (-1 : Int32)) + (-1 : Int32)))] [(.ref ia)])) tg_ → Steps p.tables e below (s₁.setTop (entryFrame m #[(.ref a)] 3)) tg_ := by
    intro tg_ kt
    refine k369 tg_ ?_
    refine XS.ifnullYes X367.here hx rfl (pc0 := 38) (pc' := 71) rfl (hb hby d7_38) rfl (by decide) (by decide) ?_
    show Steps p.tables e below (T367.setTop (mkF m 71 #[.val (.ref a), .val (.int (0 : Int32)), .val (.int ((en - (1 : Int32)) + (-1 : Int32)))] [])) _
    refine XS.aloadN X367.here hx rfl (hb hby d7_71) rfl rfl ?_
    show Steps p.tables e below (T367.setTop (mkF m 72 #[.val (.ref a), .val (.int (0 : Int32)), .val (.int ((en - (1 : Int32)) + (-1 : Int32)))] [(.ref a)])) _
    refine st371 _ ?_
    show Steps p.tables e below (T371.setTop (mkF m 75 #[.val (.ref a), .val (.int (0 : Int32)), .val (.int ((en - (1 : Int32)) + (-1 : Int32)))] [(.ref la)])) _
    refine XS.iloadN X371.here hx rfl (hb hby d7_75) rfl ?_
    show Steps p.tables e below (T371.setTop (mkF m 76 #[.val (.ref a), .val (.int (0 : Int32)), .val (.int ((en - (1 : Int32)) + (-1 : Int32)))] [(.int ((en - (1 : Int32)) + (-1 : Int32))), (.ref la)])) _
    refine own_ldAR X371 hx hZ e371 V364 (i := 1) (by rw [hen]; decide) (by decide) (by first | exact hgl1 | (simp only [own_upd]; exact hgl1)) (g := (mkF m 76 #[.val (.ref a), .val (.int (0 : Int32)), .val (.int ((en - (1 : Int32)) + (-1 : Int32)))] [(.int ((en - (1 : Int32)) + (-1 : Int32))), (.ref la)])) rfl rfl (hb hby d7_76) _ ?_
    show Steps p.tables e below (T371.setTop (mkF m 77 #[.val (.ref a), .val (.int (0 : Int32)), .val (.int ((en - (1 : Int32)) + (-1 : Int32)))] [(.ref xj)])) _
    refine XS.aloadN X371.here hx rfl (hb hby d7_77) rfl rfl ?_
    show Steps p.tables e below (T371.setTop (mkF m 78 #[.val (.ref a), .val (.int (0 : Int32)), .val (.int ((en - (1 : Int32)) + (-1 : Int32)))] [(.ref a), (.ref xj)])) _
    refine st373 _ ?_
    show Steps p.tables e below (T373.setTop (mkF m 81 #[.val (.ref a), .val (.int (0 : Int32)), .val (.int ((en - (1 : Int32)) + (-1 : Int32)))] [(.ref si), (.ref xj)])) _
    refine XS.iloadN X373.here hx rfl (hb hby d7_81) rfl ?_
    show Steps p.tables e below (T373.setTop (mkF m 82 #[.val (.ref a), .val (.int (0 : Int32)), .val (.int ((en - (1 : Int32)) + (-1 : Int32)))] [(.int ((en - (1 : Int32)) + (-1 : Int32))), (.ref si), (.ref xj)])) _
    refine own_ldI X373 hx hZ e373 f374 (i := 1) (by rw [hen]; decide) (by decide) hfx1 (g := (mkF m 82 #[.val (.ref a), .val (.int (0 : Int32)), .val (.int ((en - (1 : Int32)) + (-1 : Int32)))] [(.int ((en - (1 : Int32)) + (-1 : Int32))), (.ref si), (.ref xj)])) rfl rfl (hb hby d7_82) _ ?_
    show Steps p.tables e below (T373.setTop (mkF m 83 #[.val (.ref a), .val (.int (0 : Int32)), .val (.int ((en - (1 : Int32)) + (-1 : Int32)))] [(.int (1 : Int32)), (.ref xj)])) _
    refine XS.aloadN X373.here hx rfl (hb hby d7_83) rfl rfl ?_
    show Steps p.tables e below (T373.setTop (mkF m 84 #[.val (.ref a), .val (.int (0 : Int32)), .val (.int ((en - (1 : Int32)) + (-1 : Int32)))] [(.ref a), (.int (1 : Int32)), (.ref xj)])) _
    refine st376 _ ?_
    show Steps p.tables e below (T376.setTop (mkF m 87 #[.val (.ref a), .val (.int (0 : Int32)), .val (.int ((en - (1 : Int32)) + (-1 : Int32)))] [(.ref ov), (.int (1 : Int32)), (.ref xj)])) _
    refine XS.iloadN X376.here hx rfl (hb hby d7_87) rfl ?_
    show Steps p.tables e below (T376.setTop (mkF m 88 #[.val (.ref a), .val (.int (0 : Int32)), .val (.int ((en - (1 : Int32)) + (-1 : Int32)))] [(.int ((en - (1 : Int32)) + (-1 : Int32))), (.ref ov), (.int (1 : Int32)), (.ref xj)])) _
    refine own_ldJ X376 hx hZ e376 f377 (i := 1) (by rw [hen]; decide) (by decide) rfl (g := (mkF m 88 #[.val (.ref a), .val (.int (0 : Int32)), .val (.int ((en - (1 : Int32)) + (-1 : Int32)))] [(.int ((en - (1 : Int32)) + (-1 : Int32))), (.ref ov), (.int (1 : Int32)), (.ref xj)])) rfl rfl (hb hby d7_88) _ ?_
    show Steps p.tables e below (T376.setTop (mkF m 89 #[.val (.ref a), .val (.int (0 : Int32)), .val (.int ((en - (1 : Int32)) + (-1 : Int32)))] [(.long (fo 1)), (.int (1 : Int32)), (.ref xj)])) _
    refine st379 _ ?_
    show Steps p.tables e below (T379.setTop (mkF m 90 #[.val (.ref a), .val (.int (0 : Int32)), .val (.int ((en - (1 : Int32)) + (-1 : Int32)))] [])) _
    refine XS.aloadN X379.here hx rfl (hb hby d7_90) rfl rfl ?_
    show Steps p.tables e below (T379.setTop (mkF m 91 #[.val (.ref a), .val (.int (0 : Int32)), .val (.int ((en - (1 : Int32)) + (-1 : Int32)))] [(.ref a)])) _
    refine st381 _ ?_
    show Steps p.tables e below (T381.setTop (mkF m 94 #[.val (.ref a), .val (.int (0 : Int32)), .val (.int ((en - (1 : Int32)) + (-1 : Int32)))] [(.ref la)])) _
    refine XS.iloadN X381.here hx rfl (hb hby d7_94) rfl ?_
    show Steps p.tables e below (T381.setTop (mkF m 95 #[.val (.ref a), .val (.int (0 : Int32)), .val (.int ((en - (1 : Int32)) + (-1 : Int32)))] [(.int ((en - (1 : Int32)) + (-1 : Int32))), (.ref la)])) _
    refine XS.aconstNull X381.here hx rfl (hb hby d7_95) ?_
    show Steps p.tables e below (T381.setTop (mkF m 96 #[.val (.ref a), .val (.int (0 : Int32)), .val (.int ((en - (1 : Int32)) + (-1 : Int32)))] [.null, (.int ((en - (1 : Int32)) + (-1 : Int32))), (.ref la)])) _
    refine st383 _ ?_
    show Steps p.tables e below (T383.setTop (mkF m 97 #[.val (.ref a), .val (.int (0 : Int32)), .val (.int ((en - (1 : Int32)) + (-1 : Int32)))] [])) _
    refine XS.iinc X383.here hx rfl (hb hby d7_97) rfl (l' := #[.val (.ref a), .val (.int (0 : Int32)), .val (.int (((en - (1 : Int32)) + (-1 : Int32)) + (-1 : Int32)))]) rfl ?_
    show Steps p.tables e below (T383.setTop (mkF m 100 #[.val (.ref a), .val (.int (0 : Int32)), .val (.int (((en - (1 : Int32)) + (-1 : Int32)) + (-1 : Int32)))] [])) _
    refine XS.goto X383.here hx rfl (pc0 := 100) (pc' := 27) rfl (hb hby d7_100) (by decide) (by decide) ?_
    show Steps p.tables e below (T383.setTop (mkF m 27 #[.val (.ref a), .val (.int (0 : Int32)), .val (.int (((en - (1 : Int32)) + (-1 : Int32)) + (-1 : Int32)))] [])) _
    refine XS.iloadN X383.here hx rfl (hb hby d7_27) rfl ?_
    show Steps p.tables e below (T383.setTop (mkF m 28 #[.val (.ref a), .val (.int (0 : Int32)), .val (.int (((en - (1 : Int32)) + (-1 : Int32)) + (-1 : Int32)))] [(.int (((en - (1 : Int32)) + (-1 : Int32)) + (-1 : Int32)))])) _
    refine XS.iloadN X383.here hx rfl (hb hby d7_28) rfl ?_
    show Steps p.tables e below (T383.setTop (mkF m 29 #[.val (.ref a), .val (.int (0 : Int32)), .val (.int (((en - (1 : Int32)) + (-1 : Int32)) + (-1 : Int32)))] [(.int (0 : Int32)), (.int (((en - (1 : Int32)) + (-1 : Int32)) + (-1 : Int32)))])) _
    refine XS.icmpNo X383.here hx rfl (hb hby d7_29) rfl (flt hc29_384).1 ?_
    show Steps p.tables e below (T383.setTop (mkF m 32 #[.val (.ref a), .val (.int (0 : Int32)), .val (.int (((en - (1 : Int32)) + (-1 : Int32)) + (-1 : Int32)))] [])) _
    refine XS.aloadN X383.here hx rfl (hb hby d7_32) rfl rfl ?_
    show Steps p.tables e below (T383.setTop (mkF m 33 #[.val (.ref a), .val (.int (0 : Int32)), .val (.int (((en - (1 : Int32)) + (-1 : Int32)) + (-1 : Int32)))] [(.ref a)])) _
    refine st386 _ ?_
    show Steps p.tables e below (T386.setTop (mkF m 36 #[.val (.ref a), .val (.int (0 : Int32)), .val (.int (((en - (1 : Int32)) + (-1 : Int32)) + (-1 : Int32)))] [(.ref ia)])) _
    exact kt
  have f388 := ((f368.keep (Keep.of_wr W379) (ninS ne_ia_xj nin0)).keep (Keep.of_wr W383) (ninS ne_ia_la nin0))
  obtain ⟨T389, X389, e389, st389⟩ := getF X386 hx hZ hown (host := "") (Or.inl (hw _ (List.mem_of_getElem? (i := 11) rfl))) Via.refl e386 f385 (g := (mkF m 42 #[.val (.ref a), .val (.int (0 : Int32)), .val (.int (((en - (1 : Int32)) + (-1 : Int32)) + (-1 : Int32)))] [(.ref a)])) rfl rfl (hb hby d7_42)
  have f390 := ((f372.keep (Keep.of_wr W379) (ninS ne_a_xj nin0)).keep (Keep.of_wr W383) (ninS ne_a_la nin0))
  obtain ⟨T391, X391, e391, st391⟩ := getF X389 hx hZ hown (host := "") (Or.inl (hw _ (List.mem_of_getElem? (i := 18) rfl))) Via.refl e389 f390 (g := (mkF m 48 #[.val (.ref a), .val (.int (0 : Int32)), .val (.int (((en - (1 : Int32)) + (-1 : Int32)) + (-1 : Int32)))] [(.ref a), (.ref xi)])) rfl rfl (hb hby d7_48)
  have f392 := ((f374.keep (Keep.of_wr W379) (ninS ne_si_xj nin0)).keep (Keep.of_wr W383) (ninS (Ne.symm ne_la_si) nin0))
  have f393 := ((f375.keep (Keep.of_wr W379) (ninS ne_a_xj nin0)).keep (Keep.of_wr W383) (ninS ne_a_la nin0))
  obtain ⟨T394, X394, e394, st394⟩ := getF X391 hx hZ hown (host := "") (Or.inl (hw _ (List.mem_of_getElem? (i := 21) rfl))) Via.refl e391 f393 (g := (mkF m 54 #[.val (.ref a), .val (.int (0 : Int32)), .val (.int (((en - (1 : Int32)) + (-1 : Int32)) + (-1 : Int32)))] [(.ref a), (.int (0 : Int32)), (.ref xi)])) rfl rfl (hb hby d7_54)
  have f395 := ((f377.keep (Keep.of_wr W379) (ninS ne_ov_xj nin0)).keep (Keep.of_wr W383) (ninS (Ne.symm ne_la_ov) nin0))
  have f396 := (((((V_xi.keep (Keep.of_wr W338) (ninS (Ne.symm ne_a_xi) nin0)).keep (Keep.of_wr W360) (ninS ne_xi_xj nin0)).keep (Keep.of_wr W364) (ninS (Ne.symm ne_la_xi) nin0)).keep (Keep.of_wr W379) (ninS ne_xi_xj nin0)).keep (Keep.of_wr W383) (ninS (Ne.symm ne_la_xi) nin0))
  obtain ⟨T397, h397, X397, e397, W397, V397, st397⟩ := own_stI X394 hx hZ e394 f396 (i := 0) (by decide : (0 : Int32).toInt = ((0 : Nat) : Int)) (by decide) (g := (mkF m 60 #[.val (.ref a), .val (.int (0 : Int32)), .val (.int (((en - (1 : Int32)) + (-1 : Int32)) + (-1 : Int32)))] [(.int ((fo 0).toInt32)), (.int (0 : Int32)), (.ref xi)])) rfl rfl (hb hby d7_60)
  have N397 := Fr.snoc X397 N383 g_xi
  have f398 := (f385.keep (Keep.of_wr W397) (ninS ne_a_xi nin0))
  obtain ⟨T399, X399, e399, st399⟩ := getF X397 hx hZ hown (host := "") (Or.inl (hw _ (List.mem_of_getElem? (i := 11) rfl))) Via.refl e397 f398 (g := (mkF m 62 #[.val (.ref a), .val (.int (0 : Int32)), .val (.int (((en - (1 : Int32)) + (-1 : Int32)) + (-1 : Int32)))] [(.ref a)])) rfl rfl (hb hby d7_62)
  have f400 := (f388.keep (Keep.of_wr W397) (ninS ne_ia_xi nin0))
  obtain ⟨T401, h401, X401, e401, W401, V401, st401⟩ := own_stAR X399 hx hZ e399 f400 (i := 0) (by rw [hen]; decide) (by decide) (Or.inl rfl) (g := (mkF m 67 #[.val (.ref a), .val (.int (0 : Int32)), .val (.int (((en - (1 : Int32)) + (-1 : Int32)) + (-1 : Int32)))] [.null, (.int (((en - (1 : Int32)) + (-1 : Int32)) + (-1 : Int32))), (.ref ia)])) rfl rfl (hb hby d7_67)
  have N401 := Fr.snoc X401 N397 g_ia
  have k402 : ∀ tg_, Steps p.tables e below (T401.setTop (mkF m 28 #[.val (.ref a), .val (.int (0 : Int32)), .val (.int ((((en - (1 : Int32)) + (-1 : Int32)) + (-1 : Int32)) + (-1 : Int32)))] [(.int ((((en - (1 : Int32)) + (-1 : Int32)) + (-1 : Int32)) + (-1 : Int32)))])) tg_ → Steps p.tables e below (s₁.setTop (entryFrame m #[(.ref a)] 3)) tg_ := by
    intro tg_ kt
    refine k387 tg_ ?_
    refine XS.iloadN X386.here hx rfl (hb hby d7_36) rfl ?_
    show Steps p.tables e below (T386.setTop (mkF m 37 #[.val (.ref a), .val (.int (0 : Int32)), .val (.int (((en - (1 : Int32)) + (-1 : Int32)) + (-1 : Int32)))] [(.int (((en - (1 : Int32)) + (-1 : Int32)) + (-1 : Int32))), (.ref ia)])) _
    refine own_ldAR X386 hx hZ e386 f388 (i := 0) (by rw [hen]; decide) (by decide) (by first | exact hgi0 | (simp only [own_upd]; exact hgi0)) (g := (mkF m 37 #[.val (.ref a), .val (.int (0 : Int32)), .val (.int (((en - (1 : Int32)) + (-1 : Int32)) + (-1 : Int32)))] [(.int (((en - (1 : Int32)) + (-1 : Int32)) + (-1 : Int32))), (.ref ia)])) rfl rfl (hb hby d7_37) _ ?_
    show Steps p.tables e below (T386.setTop (mkF m 38 #[.val (.ref a), .val (.int (0 : Int32)), .val (.int (((en - (1 : Int32)) + (-1 : Int32)) + (-1 : Int32)))] [(.ref xi)])) _
    refine XS.ifnullNo X386.here hx rfl (hb hby d7_38) rfl ?_
    show Steps p.tables e below (T386.setTop (mkF m 41 #[.val (.ref a), .val (.int (0 : Int32)), .val (.int (((en - (1 : Int32)) + (-1 : Int32)) + (-1 : Int32)))] [])) _
    refine XS.aloadN X386.here hx rfl (hb hby d7_41) rfl rfl ?_
    show Steps p.tables e below (T386.setTop (mkF m 42 #[.val (.ref a), .val (.int (0 : Int32)), .val (.int (((en - (1 : Int32)) + (-1 : Int32)) + (-1 : Int32)))] [(.ref a)])) _
    refine st389 _ ?_
    show Steps p.tables e below (T389.setTop (mkF m 45 #[.val (.ref a), .val (.int (0 : Int32)), .val (.int (((en - (1 : Int32)) + (-1 : Int32)) + (-1 : Int32)))] [(.ref ia)])) _
    refine XS.iloadN X389.here hx rfl (hb hby d7_45) rfl ?_
    show Steps p.tables e below (T389.setTop (mkF m 46 #[.val (.ref a), .val (.int (0 : Int32)), .val (.int (((en - (1 : Int32)) + (-1 : Int32)) + (-1 : Int32)))] [(.int (((en - (1 : Int32)) + (-1 : Int32)) + (-1 : Int32))), (.ref ia)])) _
    refine own_ldAR X389 hx hZ e389 f388 (i := 0) (by rw [hen]; decide) (by decide) (by first | exact hgi0 | (simp only [own_upd]; exact hgi0)) (g := (mkF m 46 #[.val (.ref a), .val (.int (0 : Int32)), .val (.int (((en - (1 : Int32)) + (-1 : Int32)) + (-1 : Int32)))] [(.int (((en - (1 : Int32)) + (-1 : Int32)) + (-1 : Int32))), (.ref ia)])) rfl rfl (hb hby d7_46) _ ?_
    show Steps p.tables e below (T389.setTop (mkF m 47 #[.val (.ref a), .val (.int (0 : Int32)), .val (.int (((en - (1 : Int32)) + (-1 : Int32)) + (-1 : Int32)))] [(.ref xi)])) _
    refine XS.aloadN X389.here hx rfl (hb hby d7_47) rfl rfl ?_
    show Steps p.tables e below (T389.setTop (mkF m 48 #[.val (.ref a), .val (.int (0 : Int32)), .val (.int (((en - (1 : Int32)) + (-1 : Int32)) + (-1 : Int32)))] [(.ref a), (.ref xi)])) _
    refine st391 _ ?_
    show Steps p.tables e below (T391.setTop (mkF m 51 #[.val (.ref a), .val (.int (0 : Int32)), .val (.int (((en - (1 : Int32)) + (-1 : Int32)) + (-1 : Int32)))] [(.ref si), (.ref xi)])) _
    refine XS.iloadN X391.here hx rfl (hb hby d7_51) rfl ?_
    show Steps p.tables e below (T391.setTop (mkF m 52 #[.val (.ref a), .val (.int (0 : Int32)), .val (.int (((en - (1 : Int32)) + (-1 : Int32)) + (-1 : Int32)))] [(.int (((en - (1 : Int32)) + (-1 : Int32)) + (-1 : Int32))), (.ref si), (.ref xi)])) _
    refine own_ldI X391 hx hZ e391 f392 (i := 0) (by rw [hen]; decide) (by decide) hfx0 (g := (mkF m 52 #[.val (.ref a), .val (.int (0 : Int32)), .val (.int (((en - (1 : Int32)) + (-1 : Int32)) + (-1 : Int32)))] [(.int (((en - (1 : Int32)) + (-1 : Int32)) + (-1 : Int32))), (.ref si), (.ref xi)])) rfl rfl (hb hby d7_52) _ ?_
    show Steps p.tables e below (T391.setTop (mkF m 53 #[.val (.ref a), .val (.int (0 : Int32)), .val (.int (((en - (1 : Int32)) + (-1 : Int32)) + (-1 : Int32)))] [(.int (0 : Int32)), (.ref xi)])) _
    refine XS.aloadN X391.here hx rfl (hb hby d7_53) rfl rfl ?_
    show Steps p.tables e below (T391.setTop (mkF m 54 #[.val (.ref a), .val (.int (0 : Int32)), .val (.int (((en - (1 : Int32)) + (-1 : Int32)) + (-1 : Int32)))] [(.ref a), (.int (0 : Int32)), (.ref xi)])) _
    refine st394 _ ?_
    show Steps p.tables e below (T394.setTop (mkF m 57 #[.val (.ref a), .val (.int (0 : Int32)), .val (.int (((en - (1 : Int32)) + (-1 : Int32)) + (-1 : Int32)))] [(.ref ov), (.int (0 : Int32)), (.ref xi)])) _
    refine XS.iloadN X394.here hx rfl (hb hby d7_57) rfl ?_
    show Steps p.tables e below (T394.setTop (mkF m 58 #[.val (.ref a), .val (.int (0 : Int32)), .val (.int (((en - (1 : Int32)) + (-1 : Int32)) + (-1 : Int32)))] [(.int (((en - (1 : Int32)) + (-1 : Int32)) + (-1 : Int32))), (.ref ov), (.int (0 : Int32)), (.ref xi)])) _
    refine own_ldJ X394 hx hZ e394 f395 (i := 0) (by rw [hen]; decide) (by decide) rfl (g := (mkF m 58 #[.val (.ref a), .val (.int (0 : Int32)), .val (.int (((en - (1 : Int32)) + (-1 : Int32)) + (-1 : Int32)))] [(.int (((en - (1 : Int32)) + (-1 : Int32)) + (-1 : Int32))), (.ref ov), (.int (0 : Int32)), (.ref xi)])) rfl rfl (hb hby d7_58) _ ?_
    show Steps p.tables e below (T394.setTop (mkF m 59 #[.val (.ref a), .val (.int (0 : Int32)), .val (.int (((en - (1 : Int32)) + (-1 : Int32)) + (-1 : Int32)))] [(.long (fo 0)), (.int (0 : Int32)), (.ref xi)])) _
    refine XS.l2i X394.here hx rfl (hb hby d7_59) rfl ?_
    show Steps p.tables e below (T394.setTop (mkF m 60 #[.val (.ref a), .val (.int (0 : Int32)), .val (.int (((en - (1 : Int32)) + (-1 : Int32)) + (-1 : Int32)))] [(.int ((fo 0).toInt32)), (.int (0 : Int32)), (.ref xi)])) _
    refine st397 _ ?_
    show Steps p.tables e below (T397.setTop (mkF m 61 #[.val (.ref a), .val (.int (0 : Int32)), .val (.int (((en - (1 : Int32)) + (-1 : Int32)) + (-1 : Int32)))] [])) _
    refine XS.aloadN X397.here hx rfl (hb hby d7_61) rfl rfl ?_
    show Steps p.tables e below (T397.setTop (mkF m 62 #[.val (.ref a), .val (.int (0 : Int32)), .val (.int (((en - (1 : Int32)) + (-1 : Int32)) + (-1 : Int32)))] [(.ref a)])) _
    refine st399 _ ?_
    show Steps p.tables e below (T399.setTop (mkF m 65 #[.val (.ref a), .val (.int (0 : Int32)), .val (.int (((en - (1 : Int32)) + (-1 : Int32)) + (-1 : Int32)))] [(.ref ia)])) _
    refine XS.iloadN X399.here hx rfl (hb hby d7_65) rfl ?_
    show Steps p.tables e below (T399.setTop (mkF m 66 #[.val (.ref a), .val (.int (0 : Int32)), .val (.int (((en - (1 : Int32)) + (-1 : Int32)) + (-1 : Int32)))] [(.int (((en - (1 : Int32)) + (-1 : Int32)) + (-1 : Int32))), (.ref ia)])) _
    refine XS.aconstNull X399.here hx rfl (hb hby d7_66) ?_
    show Steps p.tables e below (T399.setTop (mkF m 67 #[.val (.ref a), .val (.int (0 : Int32)), .val (.int (((en - (1 : Int32)) + (-1 : Int32)) + (-1 : Int32)))] [.null, (.int (((en - (1 : Int32)) + (-1 : Int32)) + (-1 : Int32))), (.ref ia)])) _
    refine st401 _ ?_
    show Steps p.tables e below (T401.setTop (mkF m 68 #[.val (.ref a), .val (.int (0 : Int32)), .val (.int (((en - (1 : Int32)) + (-1 : Int32)) + (-1 : Int32)))] [])) _
    refine XS.goto X401.here hx rfl (pc0 := 68) (pc' := 97) rfl (hb hby d7_68) (by decide) (by decide) ?_
    show Steps p.tables e below (T401.setTop (mkF m 97 #[.val (.ref a), .val (.int (0 : Int32)), .val (.int (((en - (1 : Int32)) + (-1 : Int32)) + (-1 : Int32)))] [])) _
    refine XS.iinc X401.here hx rfl (hb hby d7_97) rfl (l' := #[.val (.ref a), .val (.int (0 : Int32)), .val (.int ((((en - (1 : Int32)) + (-1 : Int32)) + (-1 : Int32)) + (-1 : Int32)))]) rfl ?_
    show Steps p.tables e below (T401.setTop (mkF m 100 #[.val (.ref a), .val (.int (0 : Int32)), .val (.int ((((en - (1 : Int32)) + (-1 : Int32)) + (-1 : Int32)) + (-1 : Int32)))] [])) _
    refine XS.goto X401.here hx rfl (pc0 := 100) (pc' := 27) rfl (hb hby d7_100) (by decide) (by decide) ?_
    show Steps p.tables e below (T401.setTop (mkF m 27 #[.val (.ref a), .val (.int (0 : Int32)), .val (.int ((((en - (1 : Int32)) + (-1 : Int32)) + (-1 : Int32)) + (-1 : Int32)))] [])) _
    refine XS.iloadN X401.here hx rfl (hb hby d7_27) rfl ?_
    show Steps p.tables e below (T401.setTop (mkF m 28 #[.val (.ref a), .val (.int (0 : Int32)), .val (.int ((((en - (1 : Int32)) + (-1 : Int32)) + (-1 : Int32)) + (-1 : Int32)))] [(.int ((((en - (1 : Int32)) + (-1 : Int32)) + (-1 : Int32)) + (-1 : Int32)))])) _
    exact kt
  have hc29_403 : ((((en - (1 : Int32)) + (-1 : Int32)) + (-1 : Int32)) + (-1 : Int32)) < (0 : Int32) := (by rw [hen]; decide)
  have f404 := ((((((f343.keep (Keep.of_wr W360) (ninS ne_a_xj nin0)).keep (Keep.of_wr W364) (ninS ne_a_la nin0)).keep (Keep.of_wr W379) (ninS ne_a_xj nin0)).keep (Keep.of_wr W383) (ninS ne_a_la nin0)).keep (Keep.of_wr W397) (ninS ne_a_xi nin0)).keep (Keep.of_wr W401) (ninS ne_a_ia nin0))
  have f405 := (((((((E_a.keep (Keep.of_wr W338)).keep (Keep.of_wr W360)).keep (Keep.of_wr W364)).keep (Keep.of_wr W379)).keep (Keep.of_wr W383)).keep (Keep.of_wr W397)).keep (Keep.of_wr W401))
  obtain ⟨T406, h406, X406, e406, W406, st406⟩ := putF X401 hx hZ hown (host := "") (Or.inl (hw _ (List.mem_of_getElem? (i := 34) rfl))) Via.refl e401 f404 f405 (Or.inl (hw _ (List.mem_of_getElem? (i := 35) rfl))) (hw _ (List.mem_of_getElem? (i := 1) rfl)) (ty := .int) (by decide) rfl rfl (g := (mkF m 105 #[.val (.ref a), .val (.int (0 : Int32)), .val (.int ((((en - (1 : Int32)) + (-1 : Int32)) + (-1 : Int32)) + (-1 : Int32)))] [(.int (0 : Int32)), (.ref a)])) rfl rfl (hb hby d7_105)
  have N406 := Fr.snoc X406 N401 g_a
  have F406 := Fld.same W406 f404
  have f407 := (Fld.other W406 (((((((Fld.other W338 F_a_outerStamps (Or.inr (slot_ne (Or.inl (hw _ (List.mem_of_getElem? (i := 26) rfl))) (Or.inl (hw _ (List.mem_of_getElem? (i := 33) rfl))) (by decide) (t := (.array .long)) (t' := .int) (by decide) (by decide)))).keep (Keep.of_wr W360) (ninS ne_a_xj nin0)).keep (Keep.of_wr W364) (ninS ne_a_la nin0)).keep (Keep.of_wr W379) (ninS ne_a_xj nin0)).keep (Keep.of_wr W383) (ninS ne_a_la nin0)).keep (Keep.of_wr W397) (ninS ne_a_xi nin0)).keep (Keep.of_wr W401) (ninS ne_a_ia nin0)) (Or.inr (slot_ne (Or.inl (hw _ (List.mem_of_getElem? (i := 26) rfl))) (Or.inl (hw _ (List.mem_of_getElem? (i := 35) rfl))) (by decide) (t := (.array .long)) (t' := .int) (by decide) (by decide))))
  obtain ⟨T408, X408, e408, st408⟩ := getF X406 hx hZ hown (host := "") (Or.inl (hw _ (List.mem_of_getElem? (i := 25) rfl))) Via.refl e406 f407 (g := (mkF m 110 #[.val (.ref a), .val (.int (0 : Int32)), .val (.int ((((en - (1 : Int32)) + (-1 : Int32)) + (-1 : Int32)) + (-1 : Int32)))] [(.ref a), (.ref a)])) rfl rfl (hb hby d7_110)
  have f409 := (Fld.other W406 ((((((F338.keep (Keep.of_wr W360) (ninS ne_a_xj nin0)).keep (Keep.of_wr W364) (ninS ne_a_la nin0)).keep (Keep.of_wr W379) (ninS ne_a_xj nin0)).keep (Keep.of_wr W383) (ninS ne_a_la nin0)).keep (Keep.of_wr W397) (ninS ne_a_xi nin0)).keep (Keep.of_wr W401) (ninS ne_a_ia nin0)) (Or.inr (slot_ne (Or.inl (hw _ (List.mem_of_getElem? (i := 33) rfl))) (Or.inl (hw _ (List.mem_of_getElem? (i := 35) rfl))) (by decide) (t := .int) (t' := .int) (by decide) (by decide))))
  obtain ⟨T410, X410, e410, st410⟩ := getF X408 hx hZ hown (host := "") (Or.inl (hw _ (List.mem_of_getElem? (i := 32) rfl))) Via.refl e408 f409 (g := (mkF m 114 #[.val (.ref a), .val (.int (0 : Int32)), .val (.int ((((en - (1 : Int32)) + (-1 : Int32)) + (-1 : Int32)) + (-1 : Int32)))] [(.ref a), (.ref os), (.ref a)])) rfl rfl (hb hby d7_114)
  have f411 := ((((((((V_os.keep (Keep.of_wr W338) (ninS (Ne.symm ne_a_os) nin0)).keep (Keep.of_wr W360) (ninS ne_os_xj nin0)).keep (Keep.of_wr W364) (ninS (Ne.symm ne_la_os) nin0)).keep (Keep.of_wr W379) (ninS ne_os_xj nin0)).keep (Keep.of_wr W383) (ninS (Ne.symm ne_la_os) nin0)).keep (Keep.of_wr W397) (ninS ne_os_xi nin0)).keep (Keep.of_wr W401) (ninS (Ne.symm ne_ia_os) nin0)).keep (Keep.of_wr W406) (ninS (Ne.symm ne_a_os) nin0))
  have f412 := (Fld.other W406 (((((((Fld.other W338 F_a_stamp (Or.inr (slot_ne (Or.inl (hw _ (List.mem_of_getElem? (i := 37) rfl))) (Or.inl (hw _ (List.mem_of_getElem? (i := 33) rfl))) (by decide) (t := .long) (t' := .int) (by decide) (by decide)))).keep (Keep.of_wr W360) (ninS ne_a_xj nin0)).keep (Keep.of_wr W364) (ninS ne_a_la nin0)).keep (Keep.of_wr W379) (ninS ne_a_xj nin0)).keep (Keep.of_wr W383) (ninS ne_a_la nin0)).keep (Keep.of_wr W397) (ninS ne_a_xi nin0)).keep (Keep.of_wr W401) (ninS ne_a_ia nin0)) (Or.inr (slot_ne (Or.inl (hw _ (List.mem_of_getElem? (i := 37) rfl))) (Or.inl (hw _ (List.mem_of_getElem? (i := 35) rfl))) (by decide) (t := .long) (t' := .int) (by decide) (by decide))))
  have f413 := (f405.keep (Keep.of_wr W406))
  obtain ⟨T414, h414, X414, e414, W414, st414⟩ := putF X410 hx hZ hown (host := "") (Or.inl (hw _ (List.mem_of_getElem? (i := 36) rfl))) Via.refl e410 f412 f413 (Or.inl (hw _ (List.mem_of_getElem? (i := 37) rfl))) (hw _ (List.mem_of_getElem? (i := 1) rfl)) (ty := .long) (by decide) rfl rfl (g := (mkF m 118 #[.val (.ref a), .val (.int (0 : Int32)), .val (.int ((((en - (1 : Int32)) + (-1 : Int32)) + (-1 : Int32)) + (-1 : Int32)))] [(.long (fq k)), (.ref a)])) rfl rfl (hb hby d7_118)
  have N414 := Fr.snoc X414 N406 g_a
  have F414 := Fld.same W414 f412
  have k415 : ∀ tg_, Steps p.tables e below (T414.setTop (mkF m 121 #[.val (.ref a), .val (.int (0 : Int32)), .val (.int ((((en - (1 : Int32)) + (-1 : Int32)) + (-1 : Int32)) + (-1 : Int32)))] [])) tg_ → Steps p.tables e below (s₁.setTop (entryFrame m #[(.ref a)] 3)) tg_ := by
    intro tg_ kt
    refine k402 tg_ ?_
    refine XS.iloadN X401.here hx rfl (hb hby d7_28) rfl ?_
    show Steps p.tables e below (T401.setTop (mkF m 29 #[.val (.ref a), .val (.int (0 : Int32)), .val (.int ((((en - (1 : Int32)) + (-1 : Int32)) + (-1 : Int32)) + (-1 : Int32)))] [(.int (0 : Int32)), (.int ((((en - (1 : Int32)) + (-1 : Int32)) + (-1 : Int32)) + (-1 : Int32)))])) _
    refine XS.icmpYes X401.here hx rfl (pc0 := 29) (pc' := 103) rfl (hb hby d7_29) rfl (tlt hc29_403).1 (by decide) (by decide) ?_
    show Steps p.tables e below (T401.setTop (mkF m 103 #[.val (.ref a), .val (.int (0 : Int32)), .val (.int ((((en - (1 : Int32)) + (-1 : Int32)) + (-1 : Int32)) + (-1 : Int32)))] [])) _
    refine XS.aloadN X401.here hx rfl (hb hby d7_103) rfl rfl ?_
    show Steps p.tables e below (T401.setTop (mkF m 104 #[.val (.ref a), .val (.int (0 : Int32)), .val (.int ((((en - (1 : Int32)) + (-1 : Int32)) + (-1 : Int32)) + (-1 : Int32)))] [(.ref a)])) _
    refine XS.iloadN X401.here hx rfl (hb hby d7_104) rfl ?_
    show Steps p.tables e below (T401.setTop (mkF m 105 #[.val (.ref a), .val (.int (0 : Int32)), .val (.int ((((en - (1 : Int32)) + (-1 : Int32)) + (-1 : Int32)) + (-1 : Int32)))] [(.int (0 : Int32)), (.ref a)])) _
    refine st406 _ ?_
    show Steps p.tables e below (T406.setTop (mkF m 108 #[.val (.ref a), .val (.int (0 : Int32)), .val (.int ((((en - (1 : Int32)) + (-1 : Int32)) + (-1 : Int32)) + (-1 : Int32)))] [])) _
    refine XS.aloadN X406.here hx rfl (hb hby d7_108) rfl rfl ?_
    show Steps p.tables e below (T406.setTop (mkF m 109 #[.val (.ref a), .val (.int (0 : Int32)), .val (.int ((((en - (1 : Int32)) + (-1 : Int32)) + (-1 : Int32)) + (-1 : Int32)))] [(.ref a)])) _
    refine XS.aloadN X406.here hx rfl (hb hby d7_109) rfl rfl ?_
    show Steps p.tables e below (T406.setTop (mkF m 110 #[.val (.ref a), .val (.int (0 : Int32)), .val (.int ((((en - (1 : Int32)) + (-1 : Int32)) + (-1 : Int32)) + (-1 : Int32)))] [(.ref a), (.ref a)])) _
    refine st408 _ ?_
    show Steps p.tables e below (T408.setTop (mkF m 113 #[.val (.ref a), .val (.int (0 : Int32)), .val (.int ((((en - (1 : Int32)) + (-1 : Int32)) + (-1 : Int32)) + (-1 : Int32)))] [(.ref os), (.ref a)])) _
    refine XS.aloadN X408.here hx rfl (hb hby d7_113) rfl rfl ?_
    show Steps p.tables e below (T408.setTop (mkF m 114 #[.val (.ref a), .val (.int (0 : Int32)), .val (.int ((((en - (1 : Int32)) + (-1 : Int32)) + (-1 : Int32)) + (-1 : Int32)))] [(.ref a), (.ref os), (.ref a)])) _
    refine st410 _ ?_
    show Steps p.tables e below (T410.setTop (mkF m 117 #[.val (.ref a), .val (.int (0 : Int32)), .val (.int ((((en - (1 : Int32)) + (-1 : Int32)) + (-1 : Int32)) + (-1 : Int32)))] [(.int (lv - (1 : Int32))), (.ref os), (.ref a)])) _
    refine own_ldJ X410 hx hZ e410 f411 (i := k) hlv hbk rfl (g := (mkF m 117 #[.val (.ref a), .val (.int (0 : Int32)), .val (.int ((((en - (1 : Int32)) + (-1 : Int32)) + (-1 : Int32)) + (-1 : Int32)))] [(.int (lv - (1 : Int32))), (.ref os), (.ref a)])) rfl rfl (hb hby d7_117) _ ?_
    show Steps p.tables e below (T410.setTop (mkF m 118 #[.val (.ref a), .val (.int (0 : Int32)), .val (.int ((((en - (1 : Int32)) + (-1 : Int32)) + (-1 : Int32)) + (-1 : Int32)))] [(.long (fq k)), (.ref a)])) _
    refine st414 _ ?_
    show Steps p.tables e below (T414.setTop (mkF m 121 #[.val (.ref a), .val (.int (0 : Int32)), .val (.int ((((en - (1 : Int32)) + (-1 : Int32)) + (-1 : Int32)) + (-1 : Int32)))] [])) _
    exact kt
  have f416 := ((((((((((Keep.refl h0 [a, ia, la, xi, xj]).trans (Keep.of_wr W338) (allS (Or.inl (List.mem_of_getElem? (i := 0) rfl)) all0)).trans (Keep.of_wr W360) (allS (Or.inl (List.mem_of_getElem? (i := 4) rfl)) all0)).trans (Keep.of_wr W364) (allS (Or.inl (List.mem_of_getElem? (i := 2) rfl)) all0)).trans (Keep.of_wr W379) (allS (Or.inl (List.mem_of_getElem? (i := 4) rfl)) all0)).trans (Keep.of_wr W383) (allS (Or.inl (List.mem_of_getElem? (i := 2) rfl)) all0)).trans (Keep.of_wr W397) (allS (Or.inl (List.mem_of_getElem? (i := 3) rfl)) all0)).trans (Keep.of_wr W401) (allS (Or.inl (List.mem_of_getElem? (i := 1) rfl)) all0)).trans (Keep.of_wr W406) (allS (Or.inl (List.mem_of_getElem? (i := 0) rfl)) all0)).trans (Keep.of_wr W414) (allS (Or.inl (List.mem_of_getElem? (i := 0) rfl)) all0))
  have f417 := (Fld.other W414 (Fld.other W406 (f398.keep (Keep.of_wr W401) (ninS ne_a_ia nin0)) (Or.inr (slot_ne (Or.inl (hw _ (List.mem_of_getElem? (i := 12) rfl))) (Or.inl (hw _ (List.mem_of_getElem? (i := 35) rfl))) (by decide) (t := (.array (.array .int))) (t' := .int) (by decide) (by decide)))) (Or.inr (slot_ne (Or.inl (hw _ (List.mem_of_getElem? (i := 12) rfl))) (Or.inl (hw _ (List.mem_of_getElem? (i := 37) rfl))) (by decide) (t := (.array (.array .int))) (t' := .long) (by decide) (by decide))))
  have f418 := (Fld.other W414 (Fld.other W406 (((f380.keep (Keep.of_wr W383) (ninS ne_a_la nin0)).keep (Keep.of_wr W397) (ninS ne_a_xi nin0)).keep (Keep.of_wr W401) (ninS ne_a_ia nin0)) (Or.inr (slot_ne (Or.inl (hw _ (List.mem_of_getElem? (i := 16) rfl))) (Or.inl (hw _ (List.mem_of_getElem? (i := 35) rfl))) (by decide) (t := (.array (.array .long))) (t' := .int) (by decide) (by decide)))) (Or.inr (slot_ne (Or.inl (hw _ (List.mem_of_getElem? (i := 16) rfl))) (Or.inl (hw _ (List.mem_of_getElem? (i := 37) rfl))) (by decide) (t := (.array (.array .long))) (t' := .long) (by decide) (by decide))))
  have f419 := (Fld.other W414 (Fld.other W406 ((f390.keep (Keep.of_wr W397) (ninS ne_a_xi nin0)).keep (Keep.of_wr W401) (ninS ne_a_ia nin0)) (Or.inr (slot_ne (Or.inl (hw _ (List.mem_of_getElem? (i := 19) rfl))) (Or.inl (hw _ (List.mem_of_getElem? (i := 35) rfl))) (by decide) (t := (.array .int)) (t' := .int) (by decide) (by decide)))) (Or.inr (slot_ne (Or.inl (hw _ (List.mem_of_getElem? (i := 19) rfl))) (Or.inl (hw _ (List.mem_of_getElem? (i := 37) rfl))) (by decide) (t := (.array .int)) (t' := .long) (by decide) (by decide))))
  have f420 := (Fld.other W414 (Fld.other W406 ((f393.keep (Keep.of_wr W397) (ninS ne_a_xi nin0)).keep (Keep.of_wr W401) (ninS ne_a_ia nin0)) (Or.inr (slot_ne (Or.inl (hw _ (List.mem_of_getElem? (i := 22) rfl))) (Or.inl (hw _ (List.mem_of_getElem? (i := 35) rfl))) (by decide) (t := (.array .long)) (t' := .int) (by decide) (by decide)))) (Or.inr (slot_ne (Or.inl (hw _ (List.mem_of_getElem? (i := 22) rfl))) (Or.inl (hw _ (List.mem_of_getElem? (i := 37) rfl))) (by decide) (t := (.array .long)) (t' := .long) (by decide) (by decide))))
  have f421 := (Fld.other W414 (Fld.other W406 ((((((f339.keep (Keep.of_wr W360) (ninS ne_a_xj nin0)).keep (Keep.of_wr W364) (ninS ne_a_la nin0)).keep (Keep.of_wr W379) (ninS ne_a_xj nin0)).keep (Keep.of_wr W383) (ninS ne_a_la nin0)).keep (Keep.of_wr W397) (ninS ne_a_xi nin0)).keep (Keep.of_wr W401) (ninS ne_a_ia nin0)) (Or.inr (slot_ne (Or.inl (hw _ (List.mem_of_getElem? (i := 24) rfl))) (Or.inl (hw _ (List.mem_of_getElem? (i := 35) rfl))) (by decide) (t := (.array .int)) (t' := .int) (by decide) (by decide)))) (Or.inr (slot_ne (Or.inl (hw _ (List.mem_of_getElem? (i := 24) rfl))) (Or.inl (hw _ (List.mem_of_getElem? (i := 37) rfl))) (by decide) (t := (.array .int)) (t' := .long) (by decide) (by decide))))
  have f422 := (Fld.other W414 f407 (Or.inr (slot_ne (Or.inl (hw _ (List.mem_of_getElem? (i := 26) rfl))) (Or.inl (hw _ (List.mem_of_getElem? (i := 37) rfl))) (by decide) (t := (.array .long)) (t' := .long) (by decide) (by decide))))
  have f423 := (Fld.other W414 (Fld.other W406 (((((((Fld.other W338 F_a_lastStamp (Or.inr (slot_ne (Or.inl (hw _ (List.mem_of_getElem? (i := 39) rfl))) (Or.inl (hw _ (List.mem_of_getElem? (i := 33) rfl))) (by decide) (t := .long) (t' := .int) (by decide) (by decide)))).keep (Keep.of_wr W360) (ninS ne_a_xj nin0)).keep (Keep.of_wr W364) (ninS ne_a_la nin0)).keep (Keep.of_wr W379) (ninS ne_a_xj nin0)).keep (Keep.of_wr W383) (ninS ne_a_la nin0)).keep (Keep.of_wr W397) (ninS ne_a_xi nin0)).keep (Keep.of_wr W401) (ninS ne_a_ia nin0)) (Or.inr (slot_ne (Or.inl (hw _ (List.mem_of_getElem? (i := 39) rfl))) (Or.inl (hw _ (List.mem_of_getElem? (i := 35) rfl))) (by decide) (t := .long) (t' := .int) (by decide) (by decide)))) (Or.inr (slot_ne (Or.inl (hw _ (List.mem_of_getElem? (i := 39) rfl))) (Or.inl (hw _ (List.mem_of_getElem? (i := 37) rfl))) (by decide) (t := .long) (t' := .long) (by decide) (by decide))))
  have f424 := (Fld.other W414 F406 (Or.inr (slot_ne (Or.inl (hw _ (List.mem_of_getElem? (i := 35) rfl))) (Or.inl (hw _ (List.mem_of_getElem? (i := 37) rfl))) (by decide) (t := .int) (t' := .long) (by decide) (by decide))))
  have f425 := (Fld.other W414 f409 (Or.inr (slot_ne (Or.inl (hw _ (List.mem_of_getElem? (i := 33) rfl))) (Or.inl (hw _ (List.mem_of_getElem? (i := 37) rfl))) (by decide) (t := .int) (t' := .long) (by decide) (by decide))))
  have f426 := ((V401.keep (Keep.of_wr W406) (ninS (Ne.symm ne_a_ia) nin0)).keep (Keep.of_wr W414) (ninS (Ne.symm ne_a_ia) nin0))
  have f427 := ((((V383.keep (Keep.of_wr W397) (ninS ne_la_xi nin0)).keep (Keep.of_wr W401) (ninS (Ne.symm ne_ia_la) nin0)).keep (Keep.of_wr W406) (ninS (Ne.symm ne_a_la) nin0)).keep (Keep.of_wr W414) (ninS (Ne.symm ne_a_la) nin0))
  have f428 := (((V397.keep (Keep.of_wr W401) (ninS (Ne.symm ne_ia_xi) nin0)).keep (Keep.of_wr W406) (ninS (Ne.symm ne_a_xi) nin0)).keep (Keep.of_wr W414) (ninS (Ne.symm ne_a_xi) nin0))
  have f429 := (((((V379.keep (Keep.of_wr W383) (ninS (Ne.symm ne_la_xj) nin0)).keep (Keep.of_wr W397) (ninS (Ne.symm ne_xi_xj) nin0)).keep (Keep.of_wr W401) (ninS (Ne.symm ne_ia_xj) nin0)).keep (Keep.of_wr W406) (ninS (Ne.symm ne_a_xj) nin0)).keep (Keep.of_wr W414) (ninS (Ne.symm ne_a_xj) nin0))
  obtain ⟨fs, hr, hrun, hended, hW, hsame⟩ := X414.leave (v := none) (fun _ => rfl) (hlocks := by first | exact BodyLoose.notSynchronized Bd | exact Body.notSynchronized Bd)
  refine ⟨_, _, k415 _ (X414.returnOut hx Bd.returns (hb hby d7_121) hr), hrun, hended, _, _, rfl, ?_, ⟨_, rfl⟩, hW, hsame.mono (by decide) (by decide)⟩
  show QclB Z a ia la si ov ls os en lv sp lsp gi gl fx fo xi xj k fl fq fi fj h0 n0 _ T414.heap _
  rw [e414]
  exact ⟨rfl, N414, f416, f417, f418, f419, f420, f421, f422, f423, f424, f425, F414, f426, f427, f428, f429⟩
theorem own_i2l (x : Int32) : x.toInt64.toInt32 = x := by simp
theorem pd_0 : parseMethodDescriptor "()V" = some ⟨[], none⟩ := by decide +kernel
theorem pd_1 : parseMethodDescriptor "([I[JII)V" = some ⟨[(.array .int), (.array .long), .int, .int], none⟩ := by decide +kernel
theorem pd_3 : parseMethodDescriptor "([J[JIJ)V" = some ⟨[(.array .long), (.array .long), .int, .long], none⟩ := by decide +kernel
theorem pd_4 : parseMethodDescriptor "()I" = some ⟨[], some .int⟩ := by decide +kernel
theorem pn_0 : plainName "com/example/tablewise/tablewise/propagation/TrailCloseLevelPinLaw" = true := by first | (simp [plainName, overriddenIn]; done) | decide +kernel
theorem ef_0 (m : MethodId) (x0 : Int32) (x1 : Int32) (x2 : Int64) (x3 : Int64) (x4 : Int32) (x5 : Int32) : entryFrame m #[(.int x0), (.int x1), (.long x2), (.long x3), (.int x4), (.int x5)] maxLocals = mkF m 0 #[.val (.int x0), .val (.int x1), .val (.long x2), .second, .val (.long x3), .second, .val (.int x4), .val (.int x5), .unset, .unset, .unset, .unset, .unset, .unset, .unset, .unset, .unset] [] := by first | (simp [entryFrame, mkF, argsToLocals, Value.category, maxLocals]; done) | rfl
def Q0 (Z : State) (p0 : Int32) (p1 : Int32) (q2 : Int64) (q3 : Int64) (p4 : Int32) (p5 : Int32) (h0 : Heap) (n0 : Nat) (rv_ : Option Value) (h : Heap) (LL_ : List Loc) : Prop := rv_ = some (.int 1) ∧ Fr n0 LL_
set_option maxRecDepth 65536 in
set_option maxHeartbeats 40000000 in
theorem rm0 (l : Launch) (Z : State) (a0 : Array Value) (hw : ∀ d ∈ tables_1, d.before a0 Z = true) (ws : List Jvm.Cond) (p0 : Int32) (p1 : Int32) (q2 : Int64) (q3 : Int64) (p4 : Int32) (p5 : Int32) (h0 : Heap) (n0 : Nat) (Z0 : n0 ≤ h0.size) :
    MetFree l x (head1 (Jvm.Cond.code x code maxLocals ret :: ws) room_1) (fun aa UU => aa = #[(.int p0), (.int p1), (.long q2), (.long q3), (.int p4), (.int p5)] ∧ Z.Warmed39 UU.vm ∧ UU.heap = h0) (fun _ _ _ _ _ => True) (fun _ UU oo UV => ∃ vv LL, oo = .returned vv ∧ Q0 Z p0 p1 q2 q3 p4 p5 h0 n0 vv UV.heap LL ∧ FrameEnd UU oo UV LL room_1.cells room_1.slots) := by
  refine MetFree.of_bodySF (plainFor_of_name pn_0) hisR ?_
  intro p e s m args below meth c s₁ Bd hml0 hP hK
  obtain ⟨rfl, hZ, hh⟩ := hP
  have hx := Bd.exec
  have hby := Bd.bytes
  have hml : c.maxLocals = 17 := hml0
  have hown : s.vm.findClass "com/example/tablewise/tablewise/propagation/TrailCloseLevelPinLaw" = some m.cls := findClass_of_methodNamed Bd.named
  have hnm := (name_of_methodNamed Bd.named Bd.method).1
  have X0 : Stand p l e room_1 s m #[(.int p0), (.int p1), (.long q2), (.long q3), (.int p4), (.int p5)] below meth c s₁ [] 0 0 := Stand.of_body Bd
  have e0 : s₁.heap = h0 := by rw [← hh, Bd.state]; rfl
  have N0 := Fr.nil n0
  have k0 : ∀ tg_, Steps p.tables e below (s₁.setTop (mkF m 0 #[.val (.int p0), .val (.int p1), .val (.long q2), .second, .val (.long q3), .second, .val (.int p4), .val (.int p5), .unset, .unset, .unset, .unset, .unset, .unset, .unset, .unset, .unset] [])) tg_ → Steps p.tables e below (s₁.setTop (entryFrame m #[(.int p0), (.int p1), (.long q2), (.long q3), (.int p4), (.int p5)] maxLocals)) tg_ := fun tg_ k => castTop (ef_0 m p0 p1 q2 q3 p4 p5) k
  have k430 : ∀ tg_, Steps p.tables e below (s₁.setTop (mkF m 4 #[.val (.int p0), .val (.int p1), .val (.long q2), .second, .val (.long q3), .second, .val (.int p4), .val (.int p5), .unset, .unset, .unset, .unset, .unset, .unset, .unset, .unset, .unset] [(.int (p5 &&& (1 : Int32)))])) tg_ → Steps p.tables e below (s₁.setTop (entryFrame m #[(.int p0), (.int p1), (.long q2), (.long q3), (.int p4), (.int p5)] maxLocals)) tg_ := by
    intro tg_ kt
    refine k0 tg_ ?_
    refine XS.iload X0.here hx rfl (hb hby at_0) rfl ?_
    show Steps p.tables e below (s₁.setTop (mkF m 2 #[.val (.int p0), .val (.int p1), .val (.long q2), .second, .val (.long q3), .second, .val (.int p4), .val (.int p5), .unset, .unset, .unset, .unset, .unset, .unset, .unset, .unset, .unset] [(.int p5)])) _
    refine XS.iconst X0.here hx rfl (hb hby at_2) ?_
    show Steps p.tables e below (s₁.setTop (mkF m 3 #[.val (.int p0), .val (.int p1), .val (.long q2), .second, .val (.long q3), .second, .val (.int p4), .val (.int p5), .unset, .unset, .unset, .unset, .unset, .unset, .unset, .unset, .unset] [(.int (1 : Int32)), (.int p5)])) _
    refine XS.iand X0.here hx rfl (hb hby at_3) rfl ?_
    show Steps p.tables e below (s₁.setTop (mkF m 4 #[.val (.int p0), .val (.int p1), .val (.long q2), .second, .val (.long q3), .second, .val (.int p4), .val (.int p5), .unset, .unset, .unset, .unset, .unset, .unset, .unset, .unset, .unset] [(.int (p5 &&& (1 : Int32)))])) _
    exact kt
  by_cases hc4_431 : (p5 &&& (1 : Int32)) = (0 : Int32)
  · have k432 : ∀ tg_, Steps p.tables e below (s₁.setTop (mkF m 18 #[.val (.int p0), .val (.int p1), .val (.long q2), .second, .val (.long q3), .second, .val (.int p4), .val (.int p5), .val (.int (0 : Int32)), .unset, .unset, .unset, .unset, .unset, .unset, .unset, .unset] [(.int (p5 &&& (2 : Int32)))])) tg_ → Steps p.tables e below (s₁.setTop (entryFrame m #[(.int p0), (.int p1), (.long q2), (.long q3), (.int p4), (.int p5)] maxLocals)) tg_ := by
      intro tg_ kt
      refine k430 tg_ ?_
      refine XS.ifYes X0.here hx rfl (pc0 := 4) (pc' := 11) rfl (hb hby at_4) rfl ((if0 _ _).trans (teq hc4_431).1) (by decide) (by decide) ?_
      show Steps p.tables e below (s₁.setTop (mkF m 11 #[.val (.int p0), .val (.int p1), .val (.long q2), .second, .val (.long q3), .second, .val (.int p4), .val (.int p5), .unset, .unset, .unset, .unset, .unset, .unset, .unset, .unset, .unset] [])) _
      refine XS.iconst X0.here hx rfl (hb hby at_11) ?_
      show Steps p.tables e below (s₁.setTop (mkF m 12 #[.val (.int p0), .val (.int p1), .val (.long q2), .second, .val (.long q3), .second, .val (.int p4), .val (.int p5), .unset, .unset, .unset, .unset, .unset, .unset, .unset, .unset, .unset] [(.int (0 : Int32))])) _
      refine XS.istore X0.here hx rfl (hb hby at_12) rfl (l' := #[.val (.int p0), .val (.int p1), .val (.long q2), .second, .val (.long q3), .second, .val (.int p4), .val (.int p5), .val (.int (0 : Int32)), .unset, .unset, .unset, .unset, .unset, .unset, .unset, .unset]) rfl ?_
      show Steps p.tables e below (s₁.setTop (mkF m 14 #[.val (.int p0), .val (.int p1), .val (.long q2), .second, .val (.long q3), .second, .val (.int p4), .val (.int p5), .val (.int (0 : Int32)), .unset, .unset, .unset, .unset, .unset, .unset, .unset, .unset] [])) _
      refine XS.iload X0.here hx rfl (hb hby at_14) rfl ?_
      show Steps p.tables e below (s₁.setTop (mkF m 16 #[.val (.int p0), .val (.int p1), .val (.long q2), .second, .val (.long q3), .second, .val (.int p4), .val (.int p5), .val (.int (0 : Int32)), .unset, .unset, .unset, .unset, .unset, .unset, .unset, .unset] [(.int p5)])) _
      refine XS.iconst X0.here hx rfl (hb hby at_16) ?_
      show Steps p.tables e below (s₁.setTop (mkF m 17 #[.val (.int p0), .val (.int p1), .val (.long q2), .second, .val (.long q3), .second, .val (.int p4), .val (.int p5), .val (.int (0 : Int32)), .unset, .unset, .unset, .unset, .unset, .unset, .unset, .unset] [(.int (2 : Int32)), (.int p5)])) _
      refine XS.iand X0.here hx rfl (hb hby at_17) rfl ?_
      show Steps p.tables e below (s₁.setTop (mkF m 18 #[.val (.int p0), .val (.int p1), .val (.long q2), .second, .val (.long q3), .second, .val (.int p4), .val (.int p5), .val (.int (0 : Int32)), .unset, .unset, .unset, .unset, .unset, .unset, .unset, .unset] [(.int (p5 &&& (2 : Int32)))])) _
      exact kt
    by_cases hc18_433 : (p5 &&& (2 : Int32)) = (0 : Int32)
    · obtain ⟨T434, h434, X434, e434, E434, A434, D434, -, st434⟩ := newO X0 hx hZ hown (hw _ (List.mem_of_getElem? (i := 0) rfl)) (hw _ (List.mem_of_getElem? (i := 1) rfl)) (hw _ (List.mem_of_getElem? (i := 2) rfl)) e0 (g := (mkF m 28 #[.val (.int p0), .val (.int p1), .val (.long q2), .second, .val (.long q3), .second, .val (.int p4), .val (.int p5), .val (.int (0 : Int32)), .val (.int (0 : Int32)), .unset, .unset, .unset, .unset, .unset, .unset, .unset] [])) rfl (hb hby at_28) (by decide) (by decide)
      obtain ⟨b434, g434⟩ : ∃ z, z = h0.size := ⟨_, rfl⟩
      rw [← g434] at A434 D434 st434
      have ge_b434 : n0 ≤ b434 := Nat.le_trans Z0 (Nat.le_of_eq g434.symm)
      have F435 : Fld Z h434 b434 "com/example/tablewise/tablewise/propagation/Trail" "intArrays" "[[I" .null := D434 (Or.inl (hw _ (List.mem_of_getElem? (i := 12) rfl))) (ty := (.array (.array .int))) (by decide)
      have F436 : Fld Z h434 b434 "com/example/tablewise/tablewise/propagation/Trail" "longArrays" "[[J" .null := D434 (Or.inl (hw _ (List.mem_of_getElem? (i := 16) rfl))) (ty := (.array (.array .long))) (by decide)
      have F437 : Fld Z h434 b434 "com/example/tablewise/tablewise/propagation/Trail" "slotIndices" "[I" .null := D434 (Or.inl (hw _ (List.mem_of_getElem? (i := 19) rfl))) (ty := (.array .int)) (by decide)
      have F438 : Fld Z h434 b434 "com/example/tablewise/tablewise/propagation/Trail" "oldValues" "[J" .null := D434 (Or.inl (hw _ (List.mem_of_getElem? (i := 22) rfl))) (ty := (.array .long)) (by decide)
      have F439 : Fld Z h434 b434 "com/example/tablewise/tablewise/propagation/Trail" "levelStarts" "[I" .null := D434 (Or.inl (hw _ (List.mem_of_getElem? (i := 24) rfl))) (ty := (.array .int)) (by decide)
      have F440 : Fld Z h434 b434 "com/example/tablewise/tablewise/propagation/Trail" "outerStamps" "[J" .null := D434 (Or.inl (hw _ (List.mem_of_getElem? (i := 26) rfl))) (ty := (.array .long)) (by decide)
      have F441 : Fld Z h434 b434 "com/example/tablewise/tablewise/propagation/Trail" "level" "I" (.int (0 : Int32)) := D434 (Or.inl (hw _ (List.mem_of_getElem? (i := 33) rfl))) (ty := .int) (by decide)
      have F442 : Fld Z h434 b434 "com/example/tablewise/tablewise/propagation/Trail" "entries" "I" (.int (0 : Int32)) := D434 (Or.inl (hw _ (List.mem_of_getElem? (i := 35) rfl))) (ty := .int) (by decide)
      have F443 : Fld Z h434 b434 "com/example/tablewise/tablewise/propagation/Trail" "stamp" "J" (.long (0 : Int64)) := D434 (Or.inl (hw _ (List.mem_of_getElem? (i := 37) rfl))) (ty := .long) (by decide)
      have F444 : Fld Z h434 b434 "com/example/tablewise/tablewise/propagation/Trail" "lastStamp" "J" (.long (0 : Int64)) := D434 (Or.inl (hw _ (List.mem_of_getElem? (i := 39) rfl))) (ty := .long) (by decide)
      have f445 := (Nat.le_trans Z0 ((Keep.refl _ []).ext E434).1)
      obtain ⟨_, _, ⟨T446, L446, kc446, nc446⟩, -, X446, ⟨Lc446, hQ446, l446, y446, z446⟩, st446⟩ := X434.specialBack hx (y := (⟨"com/example/tablewise/tablewise/propagation/Trail", "<init>", "()V"⟩ : MethodName)) rfl hown (mvT hZ (hw _ (List.mem_of_getElem? (i := 3) rfl))) (mvT hZ (hw _ (List.mem_of_getElem? (i := 4) rfl))) (mvT hZ (hw _ (List.mem_of_getElem? (i := 5) rfl))) (by decide) (backOf (W := 1) (rm1 l Z a0 hw [] b434 h434 n0 f445 A434 F435 F436 F437 F438 F442 F439 F440 F441 F443 F444 ge_b434) hZ (hw _ (List.mem_of_getElem? (i := 5) rfl)) (hw _ (List.mem_of_getElem? (i := 2) rfl)) (by decide) (by decide)) (g := (mkF m 32 #[.val (.int p0), .val (.int p1), .val (.long q2), .second, .val (.long q3), .second, .val (.int p4), .val (.int p5), .val (.int (0 : Int32)), .val (.int (0 : Int32)), .unset, .unset, .unset, .unset, .unset, .unset, .unset] [(.ref b434), (.ref b434)])) rfl (by rw [hml]; rfl) (Steps.refl _) (a := b434) (argsL := []) (rest := [(.ref b434)]) (lenOf pd_0 rfl) rfl (by show 2 * 0 + _ ≤ _; exact Nat.le_of_eq rfl) (hb hby at_32) (fun _ _ => ⟨rfl, e434, (by decide : 1 + 6 ≤ _), (by decide : 10 + 288 ≤ _)⟩)
      dsimp only [Pt.U, Pt.locs, Pt.cells, Pt.slots] at X446 l446 y446 z446 st446 hQ446
      rw [l446, y446, z446] at X446
      replace X446 : Stand p l e room_1 s m #[(.int p0), (.int p1), (.long q2), (.long q3), (.int p4), (.int p5)] below meth c T446 _ 7 298 := X446
      obtain ⟨rfl, Nq446, oK446, oFaentries446, oFalevel446, oFastamp446, oFalastStamp446, m0_446⟩ := hQ446
      have N446 := Fr.app N0 Nq446
      obtain ⟨ia446, la446, si446, ov446, ls446, os446, Fi_ia, Fi_la, Fi_si, Fi_ov, Fi_ls, Fi_os, Vi_ia, Vi_la, Vi_si, Vi_ov, Vi_ls, Vi_os, gi_ia, gi_la, gi_si, gi_ov, gi_ls, gi_os, ni_a_ia, ni_a_la, ni_a_si, ni_a_ov, ni_a_ls, ni_a_os, ni_ia_la, ni_ia_si, ni_ia_ov, ni_ia_ls, ni_ia_os, ni_la_si, ni_la_ov, ni_la_ls, ni_la_os, ni_si_ov, ni_si_ls, ni_si_os, ni_ov_ls, ni_ov_os, ni_ls_os⟩ := m0_446
      obtain ⟨T447, h447, kA447, X447, e447, E447, A447, Ex447, st447⟩ := newPE X446 hx hZ (hw _ (List.mem_of_getElem? (i := 17) rfl)) rfl (g := (mkF m 38 #[.val (.int p0), .val (.int p1), .val (.long q2), .second, .val (.long q3), .second, .val (.int p4), .val (.int p5), .val (.int (0 : Int32)), .val (.int (0 : Int32)), .val (.ref b434), .unset, .unset, .unset, .unset, .unset, .unset] [(.int (2 : Int32))])) rfl (hb hby at_38) rfl (by decide) (cap := 2) (by decide) (by decide) (by decide) (by decide) (ad := "[I") (by decide)
      obtain ⟨b447, g447⟩ : ∃ z, z = T446.heap.size := ⟨_, rfl⟩
      rw [← g447] at A447 st447 Ex447
      have f448 := (A434.keep oK446)
      have ne_b434_b447 : b434 ≠ b447 := Nat.ne_of_lt (Nat.lt_of_lt_of_le (f448).lt (Nat.le_of_eq g447.symm))
      have ne_ia446_b447 : ia446 ≠ b447 := Nat.ne_of_lt (Nat.lt_of_lt_of_le (Vi_ia).lt (Nat.le_of_eq g447.symm))
      have ne_la446_b447 : la446 ≠ b447 := Nat.ne_of_lt (Nat.lt_of_lt_of_le (Vi_la).lt (Nat.le_of_eq g447.symm))
      have ne_si446_b447 : si446 ≠ b447 := Nat.ne_of_lt (Nat.lt_of_lt_of_le (Vi_si).lt (Nat.le_of_eq g447.symm))
      have ne_ov446_b447 : ov446 ≠ b447 := Nat.ne_of_lt (Nat.lt_of_lt_of_le (Vi_ov).lt (Nat.le_of_eq g447.symm))
      have ne_ls446_b447 : ls446 ≠ b447 := Nat.ne_of_lt (Nat.lt_of_lt_of_le (Vi_ls).lt (Nat.le_of_eq g447.symm))
      have ne_os446_b447 : os446 ≠ b447 := Nat.ne_of_lt (Nat.lt_of_lt_of_le (Vi_os).lt (Nat.le_of_eq g447.symm))
      have f449 := (Nat.le_trans f445 oK446.1)
      have ge_b447 : n0 ≤ b447 := Nat.le_trans f449 (Nat.le_of_eq g447.symm)
      have V447 : own_AI Z h447 b447 .int 2 (fun _ => 0) := own_newI (by decide : (2 : Int32).toInt = ((2 : Nat) : Int)) A447 rfl
      obtain ⟨T450, h450, kA450, X450, e450, E450, A450, Ex450, st450⟩ := newPE X447 hx hZ (hw _ (List.mem_of_getElem? (i := 20) rfl)) e447 (g := (mkF m 43 #[.val (.int p0), .val (.int p1), .val (.long q2), .second, .val (.long q3), .second, .val (.int p4), .val (.int p5), .val (.int (0 : Int32)), .val (.int (0 : Int32)), .val (.ref b434), .val (.ref b447), .unset, .unset, .unset, .unset, .unset] [(.int (2 : Int32))])) rfl (hb hby at_43) rfl (by decide) (cap := 2) (by decide) (by decide) (by decide) (by decide) (ad := "[J") (by decide)
      obtain ⟨b450, g450⟩ : ∃ z, z = h447.size := ⟨_, rfl⟩
      rw [← g450] at A450 st450 Ex450
      have f451 := (f448.keep ((Keep.refl _ []).ext E447))
      have ne_b434_b450 : b434 ≠ b450 := Nat.ne_of_lt (Nat.lt_of_lt_of_le (f451).lt (Nat.le_of_eq g450.symm))
      have f452 := (Vi_ia.keep ((Keep.refl _ []).ext E447) nin0)
      have ne_ia446_b450 : ia446 ≠ b450 := Nat.ne_of_lt (Nat.lt_of_lt_of_le (f452).lt (Nat.le_of_eq g450.symm))
      have f453 := (Vi_la.keep ((Keep.refl _ []).ext E447) nin0)
      have ne_la446_b450 : la446 ≠ b450 := Nat.ne_of_lt (Nat.lt_of_lt_of_le (f453).lt (Nat.le_of_eq g450.symm))
      have f454 := (Vi_si.keep ((Keep.refl _ []).ext E447) nin0)
      have ne_si446_b450 : si446 ≠ b450 := Nat.ne_of_lt (Nat.lt_of_lt_of_le (f454).lt (Nat.le_of_eq g450.symm))
      have f455 := (Vi_ov.keep ((Keep.refl _ []).ext E447) nin0)
      have ne_ov446_b450 : ov446 ≠ b450 := Nat.ne_of_lt (Nat.lt_of_lt_of_le (f455).lt (Nat.le_of_eq g450.symm))
      have f456 := (Vi_ls.keep ((Keep.refl _ []).ext E447) nin0)
      have ne_ls446_b450 : ls446 ≠ b450 := Nat.ne_of_lt (Nat.lt_of_lt_of_le (f456).lt (Nat.le_of_eq g450.symm))
      have f457 := (Vi_os.keep ((Keep.refl _ []).ext E447) nin0)
      have ne_os446_b450 : os446 ≠ b450 := Nat.ne_of_lt (Nat.lt_of_lt_of_le (f457).lt (Nat.le_of_eq g450.symm))
      have ne_b447_b450 : b447 ≠ b450 := Nat.ne_of_lt (Nat.lt_of_lt_of_le (Ex447).lt (Nat.le_of_eq g450.symm))
      have f458 := (Nat.le_trans f449 ((Keep.refl _ []).ext E447).1)
      have ge_b450 : n0 ≤ b450 := Nat.le_trans f458 (Nat.le_of_eq g450.symm)
      have V450 : own_AL Z h450 b450 2 (fun _ => 0) := own_newL (by decide : (2 : Int32).toInt = ((2 : Nat) : Int)) A450
      obtain ⟨T459, h459, kA459, X459, e459, E459, A459, Ex459, st459⟩ := newPE X450 hx hZ (hw _ (List.mem_of_getElem? (i := 20) rfl)) e450 (g := (mkF m 48 #[.val (.int p0), .val (.int p1), .val (.long q2), .second, .val (.long q3), .second, .val (.int p4), .val (.int p5), .val (.int (0 : Int32)), .val (.int (0 : Int32)), .val (.ref b434), .val (.ref b447), .val (.ref b450), .unset, .unset, .unset, .unset] [(.int (2 : Int32))])) rfl (hb hby at_48) rfl (by decide) (cap := 2) (by decide) (by decide) (by decide) (by decide) (ad := "[J") (by decide)
      obtain ⟨b459, g459⟩ : ∃ z, z = h450.size := ⟨_, rfl⟩
      rw [← g459] at A459 st459 Ex459
      have f460 := (f451.keep ((Keep.refl _ []).ext E450))
      have ne_b434_b459 : b434 ≠ b459 := Nat.ne_of_lt (Nat.lt_of_lt_of_le (f460).lt (Nat.le_of_eq g459.symm))
      have f461 := (f452.keep ((Keep.refl _ []).ext E450) nin0)
      have ne_ia446_b459 : ia446 ≠ b459 := Nat.ne_of_lt (Nat.lt_of_lt_of_le (f461).lt (Nat.le_of_eq g459.symm))
      have f462 := (f453.keep ((Keep.refl _ []).ext E450) nin0)
      have ne_la446_b459 : la446 ≠ b459 := Nat.ne_of_lt (Nat.lt_of_lt_of_le (f462).lt (Nat.le_of_eq g459.symm))
      have f463 := (f454.keep ((Keep.refl _ []).ext E450) nin0)
      have ne_si446_b459 : si446 ≠ b459 := Nat.ne_of_lt (Nat.lt_of_lt_of_le (f463).lt (Nat.le_of_eq g459.symm))
      have f464 := (f455.keep ((Keep.refl _ []).ext E450) nin0)
      have ne_ov446_b459 : ov446 ≠ b459 := Nat.ne_of_lt (Nat.lt_of_lt_of_le (f464).lt (Nat.le_of_eq g459.symm))
      have f465 := (f456.keep ((Keep.refl _ []).ext E450) nin0)
      have ne_ls446_b459 : ls446 ≠ b459 := Nat.ne_of_lt (Nat.lt_of_lt_of_le (f465).lt (Nat.le_of_eq g459.symm))
      have f466 := (f457.keep ((Keep.refl _ []).ext E450) nin0)
      have ne_os446_b459 : os446 ≠ b459 := Nat.ne_of_lt (Nat.lt_of_lt_of_le (f466).lt (Nat.le_of_eq g459.symm))
      have f467 := (Ex447.keep ((Keep.refl _ []).ext E450))
      have ne_b447_b459 : b447 ≠ b459 := Nat.ne_of_lt (Nat.lt_of_lt_of_le (f467).lt (Nat.le_of_eq g459.symm))
      have ne_b450_b459 : b450 ≠ b459 := Nat.ne_of_lt (Nat.lt_of_lt_of_le (Ex450).lt (Nat.le_of_eq g459.symm))
      have f468 := (Nat.le_trans f458 ((Keep.refl _ []).ext E450).1)
      have ge_b459 : n0 ≤ b459 := Nat.le_trans f468 (Nat.le_of_eq g459.symm)
      have V459 : own_AL Z h459 b459 2 (fun _ => 0) := own_newL (by decide : (2 : Int32).toInt = ((2 : Nat) : Int)) A459
      obtain ⟨T469, h469, kA469, X469, e469, E469, A469, Ex469, st469⟩ := newPE X459 hx hZ (hw _ (List.mem_of_getElem? (i := 20) rfl)) e459 (g := (mkF m 53 #[.val (.int p0), .val (.int p1), .val (.long q2), .second, .val (.long q3), .second, .val (.int p4), .val (.int p5), .val (.int (0 : Int32)), .val (.int (0 : Int32)), .val (.ref b434), .val (.ref b447), .val (.ref b450), .val (.ref b459), .unset, .unset, .unset] [(.int (2 : Int32))])) rfl (hb hby at_53) rfl (by decide) (cap := 2) (by decide) (by decide) (by decide) (by decide) (ad := "[J") (by decide)
      obtain ⟨b469, g469⟩ : ∃ z, z = h459.size := ⟨_, rfl⟩
      rw [← g469] at A469 st469 Ex469
      have f470 := (f460.keep ((Keep.refl _ []).ext E459))
      have ne_b434_b469 : b434 ≠ b469 := Nat.ne_of_lt (Nat.lt_of_lt_of_le (f470).lt (Nat.le_of_eq g469.symm))
      have f471 := (f461.keep ((Keep.refl _ []).ext E459) nin0)
      have ne_ia446_b469 : ia446 ≠ b469 := Nat.ne_of_lt (Nat.lt_of_lt_of_le (f471).lt (Nat.le_of_eq g469.symm))
      have f472 := (f462.keep ((Keep.refl _ []).ext E459) nin0)
      have ne_la446_b469 : la446 ≠ b469 := Nat.ne_of_lt (Nat.lt_of_lt_of_le (f472).lt (Nat.le_of_eq g469.symm))
      have f473 := (f463.keep ((Keep.refl _ []).ext E459) nin0)
      have ne_si446_b469 : si446 ≠ b469 := Nat.ne_of_lt (Nat.lt_of_lt_of_le (f473).lt (Nat.le_of_eq g469.symm))
      have f474 := (f464.keep ((Keep.refl _ []).ext E459) nin0)
      have ne_ov446_b469 : ov446 ≠ b469 := Nat.ne_of_lt (Nat.lt_of_lt_of_le (f474).lt (Nat.le_of_eq g469.symm))
      have f475 := (f465.keep ((Keep.refl _ []).ext E459) nin0)
      have ne_ls446_b469 : ls446 ≠ b469 := Nat.ne_of_lt (Nat.lt_of_lt_of_le (f475).lt (Nat.le_of_eq g469.symm))
      have f476 := (f466.keep ((Keep.refl _ []).ext E459) nin0)
      have ne_os446_b469 : os446 ≠ b469 := Nat.ne_of_lt (Nat.lt_of_lt_of_le (f476).lt (Nat.le_of_eq g469.symm))
      have f477 := (f467.keep ((Keep.refl _ []).ext E459))
      have ne_b447_b469 : b447 ≠ b469 := Nat.ne_of_lt (Nat.lt_of_lt_of_le (f477).lt (Nat.le_of_eq g469.symm))
      have f478 := (Ex450.keep ((Keep.refl _ []).ext E459))
      have ne_b450_b469 : b450 ≠ b469 := Nat.ne_of_lt (Nat.lt_of_lt_of_le (f478).lt (Nat.le_of_eq g469.symm))
      have ne_b459_b469 : b459 ≠ b469 := Nat.ne_of_lt (Nat.lt_of_lt_of_le (Ex459).lt (Nat.le_of_eq g469.symm))
      have f479 := (Nat.le_trans f468 ((Keep.refl _ []).ext E459).1)
      have ge_b469 : n0 ≤ b469 := Nat.le_trans f479 (Nat.le_of_eq g469.symm)
      have V469 : own_AL Z h469 b469 2 (fun _ => 0) := own_newL (by decide : (2 : Int32).toInt = ((2 : Nat) : Int)) A469
      have f480 := (((V447.keep ((Keep.refl _ []).ext E450) nin0).keep ((Keep.refl _ []).ext E459) nin0).keep ((Keep.refl _ []).ext E469) nin0)
      obtain ⟨T481, h481, X481, e481, W481, V481, st481⟩ := own_stI X469 hx hZ e469 f480 (i := 0) (by decide : (0 : Int32).toInt = ((0 : Nat) : Int)) (by decide) (g := (mkF m 61 #[.val (.int p0), .val (.int p1), .val (.long q2), .second, .val (.long q3), .second, .val (.int p4), .val (.int p5), .val (.int (0 : Int32)), .val (.int (0 : Int32)), .val (.ref b434), .val (.ref b447), .val (.ref b450), .val (.ref b459), .val (.ref b469), .unset, .unset] [(.int p0), (.int (0 : Int32)), (.ref b447)])) rfl rfl (hb hby at_61)
      have N481 := Fr.snoc X481 N446 ge_b447
      have k482 : ∀ tg_, Steps p.tables e below (T481.setTop (mkF m 66 #[.val (.int p0), .val (.int p1), .val (.long q2), .second, .val (.long q3), .second, .val (.int p4), .val (.int p5), .val (.int (0 : Int32)), .val (.int (0 : Int32)), .val (.ref b434), .val (.ref b447), .val (.ref b450), .val (.ref b459), .val (.ref b469), .unset, .unset] [(.int p1), (.int (1 : Int32)), (.ref b447)])) tg_ → Steps p.tables e below (s₁.setTop (entryFrame m #[(.int p0), (.int p1), (.long q2), (.long q3), (.int p4), (.int p5)] maxLocals)) tg_ := by
        intro tg_ kt
        refine k432 tg_ ?_
        refine XS.ifYes X0.here hx rfl (pc0 := 18) (pc' := 25) rfl (hb hby at_18) rfl ((if0 _ _).trans (teq hc18_433).1) (by decide) (by decide) ?_
        show Steps p.tables e below (s₁.setTop (mkF m 25 #[.val (.int p0), .val (.int p1), .val (.long q2), .second, .val (.long q3), .second, .val (.int p4), .val (.int p5), .val (.int (0 : Int32)), .unset, .unset, .unset, .unset, .unset, .unset, .unset, .unset] [])) _
        refine XS.iconst X0.here hx rfl (hb hby at_25) ?_
        show Steps p.tables e below (s₁.setTop (mkF m 26 #[.val (.int p0), .val (.int p1), .val (.long q2), .second, .val (.long q3), .second, .val (.int p4), .val (.int p5), .val (.int (0 : Int32)), .unset, .unset, .unset, .unset, .unset, .unset, .unset, .unset] [(.int (0 : Int32))])) _
        refine XS.istore X0.here hx rfl (hb hby at_26) rfl (l' := #[.val (.int p0), .val (.int p1), .val (.long q2), .second, .val (.long q3), .second, .val (.int p4), .val (.int p5), .val (.int (0 : Int32)), .val (.int (0 : Int32)), .unset, .unset, .unset, .unset, .unset, .unset, .unset]) rfl ?_
        show Steps p.tables e below (s₁.setTop (mkF m 28 #[.val (.int p0), .val (.int p1), .val (.long q2), .second, .val (.long q3), .second, .val (.int p4), .val (.int p5), .val (.int (0 : Int32)), .val (.int (0 : Int32)), .unset, .unset, .unset, .unset, .unset, .unset, .unset] [])) _
        refine st434 _ ?_
        show Steps p.tables e below (T434.setTop (mkF m 31 #[.val (.int p0), .val (.int p1), .val (.long q2), .second, .val (.long q3), .second, .val (.int p4), .val (.int p5), .val (.int (0 : Int32)), .val (.int (0 : Int32)), .unset, .unset, .unset, .unset, .unset, .unset, .unset] [(.ref b434)])) _
        refine XS.dup X434.here hx rfl (hb hby at_31) rfl rfl ?_
        show Steps p.tables e below (T434.setTop (mkF m 32 #[.val (.int p0), .val (.int p1), .val (.long q2), .second, .val (.long q3), .second, .val (.int p4), .val (.int p5), .val (.int (0 : Int32)), .val (.int (0 : Int32)), .unset, .unset, .unset, .unset, .unset, .unset, .unset] [(.ref b434), (.ref b434)])) _
        refine st446.trans ?_
        show Steps p.tables e below (T446.setTop (mkF m 35 #[.val (.int p0), .val (.int p1), .val (.long q2), .second, .val (.long q3), .second, .val (.int p4), .val (.int p5), .val (.int (0 : Int32)), .val (.int (0 : Int32)), .unset, .unset, .unset, .unset, .unset, .unset, .unset] [(.ref b434)])) _
        refine XS.astore X446.here hx rfl (hb hby at_35) rfl rfl (l' := #[.val (.int p0), .val (.int p1), .val (.long q2), .second, .val (.long q3), .second, .val (.int p4), .val (.int p5), .val (.int (0 : Int32)), .val (.int (0 : Int32)), .val (.ref b434), .unset, .unset, .unset, .unset, .unset, .unset]) rfl ?_
        show Steps p.tables e below (T446.setTop (mkF m 37 #[.val (.int p0), .val (.int p1), .val (.long q2), .second, .val (.long q3), .second, .val (.int p4), .val (.int p5), .val (.int (0 : Int32)), .val (.int (0 : Int32)), .val (.ref b434), .unset, .unset, .unset, .unset, .unset, .unset] [])) _
        refine XS.iconst X446.here hx rfl (hb hby at_37) ?_
        show Steps p.tables e below (T446.setTop (mkF m 38 #[.val (.int p0), .val (.int p1), .val (.long q2), .second, .val (.long q3), .second, .val (.int p4), .val (.int p5), .val (.int (0 : Int32)), .val (.int (0 : Int32)), .val (.ref b434), .unset, .unset, .unset, .unset, .unset, .unset] [(.int (2 : Int32))])) _
        refine st447 _ ?_
        show Steps p.tables e below (T447.setTop (mkF m 40 #[.val (.int p0), .val (.int p1), .val (.long q2), .second, .val (.long q3), .second, .val (.int p4), .val (.int p5), .val (.int (0 : Int32)), .val (.int (0 : Int32)), .val (.ref b434), .unset, .unset, .unset, .unset, .unset, .unset] [(.ref b447)])) _
        refine XS.astore X447.here hx rfl (hb hby at_40) rfl rfl (l' := #[.val (.int p0), .val (.int p1), .val (.long q2), .second, .val (.long q3), .second, .val (.int p4), .val (.int p5), .val (.int (0 : Int32)), .val (.int (0 : Int32)), .val (.ref b434), .val (.ref b447), .unset, .unset, .unset, .unset, .unset]) rfl ?_
        show Steps p.tables e below (T447.setTop (mkF m 42 #[.val (.int p0), .val (.int p1), .val (.long q2), .second, .val (.long q3), .second, .val (.int p4), .val (.int p5), .val (.int (0 : Int32)), .val (.int (0 : Int32)), .val (.ref b434), .val (.ref b447), .unset, .unset, .unset, .unset, .unset] [])) _
        refine XS.iconst X447.here hx rfl (hb hby at_42) ?_
        show Steps p.tables e below (T447.setTop (mkF m 43 #[.val (.int p0), .val (.int p1), .val (.long q2), .second, .val (.long q3), .second, .val (.int p4), .val (.int p5), .val (.int (0 : Int32)), .val (.int (0 : Int32)), .val (.ref b434), .val (.ref b447), .unset, .unset, .unset, .unset, .unset] [(.int (2 : Int32))])) _
        refine st450 _ ?_
        show Steps p.tables e below (T450.setTop (mkF m 45 #[.val (.int p0), .val (.int p1), .val (.long q2), .second, .val (.long q3), .second, .val (.int p4), .val (.int p5), .val (.int (0 : Int32)), .val (.int (0 : Int32)), .val (.ref b434), .val (.ref b447), .unset, .unset, .unset, .unset, .unset] [(.ref b450)])) _
        refine XS.astore X450.here hx rfl (hb hby at_45) rfl rfl (l' := #[.val (.int p0), .val (.int p1), .val (.long q2), .second, .val (.long q3), .second, .val (.int p4), .val (.int p5), .val (.int (0 : Int32)), .val (.int (0 : Int32)), .val (.ref b434), .val (.ref b447), .val (.ref b450), .unset, .unset, .unset, .unset]) rfl ?_
        show Steps p.tables e below (T450.setTop (mkF m 47 #[.val (.int p0), .val (.int p1), .val (.long q2), .second, .val (.long q3), .second, .val (.int p4), .val (.int p5), .val (.int (0 : Int32)), .val (.int (0 : Int32)), .val (.ref b434), .val (.ref b447), .val (.ref b450), .unset, .unset, .unset, .unset] [])) _
        refine XS.iconst X450.here hx rfl (hb hby at_47) ?_
        show Steps p.tables e below (T450.setTop (mkF m 48 #[.val (.int p0), .val (.int p1), .val (.long q2), .second, .val (.long q3), .second, .val (.int p4), .val (.int p5), .val (.int (0 : Int32)), .val (.int (0 : Int32)), .val (.ref b434), .val (.ref b447), .val (.ref b450), .unset, .unset, .unset, .unset] [(.int (2 : Int32))])) _
        refine st459 _ ?_
        show Steps p.tables e below (T459.setTop (mkF m 50 #[.val (.int p0), .val (.int p1), .val (.long q2), .second, .val (.long q3), .second, .val (.int p4), .val (.int p5), .val (.int (0 : Int32)), .val (.int (0 : Int32)), .val (.ref b434), .val (.ref b447), .val (.ref b450), .unset, .unset, .unset, .unset] [(.ref b459)])) _
        refine XS.astore X459.here hx rfl (hb hby at_50) rfl rfl (l' := #[.val (.int p0), .val (.int p1), .val (.long q2), .second, .val (.long q3), .second, .val (.int p4), .val (.int p5), .val (.int (0 : Int32)), .val (.int (0 : Int32)), .val (.ref b434), .val (.ref b447), .val (.ref b450), .val (.ref b459), .unset, .unset, .unset]) rfl ?_
        show Steps p.tables e below (T459.setTop (mkF m 52 #[.val (.int p0), .val (.int p1), .val (.long q2), .second, .val (.long q3), .second, .val (.int p4), .val (.int p5), .val (.int (0 : Int32)), .val (.int (0 : Int32)), .val (.ref b434), .val (.ref b447), .val (.ref b450), .val (.ref b459), .unset, .unset, .unset] [])) _
        refine XS.iconst X459.here hx rfl (hb hby at_52) ?_
        show Steps p.tables e below (T459.setTop (mkF m 53 #[.val (.int p0), .val (.int p1), .val (.long q2), .second, .val (.long q3), .second, .val (.int p4), .val (.int p5), .val (.int (0 : Int32)), .val (.int (0 : Int32)), .val (.ref b434), .val (.ref b447), .val (.ref b450), .val (.ref b459), .unset, .unset, .unset] [(.int (2 : Int32))])) _
        refine st469 _ ?_
        show Steps p.tables e below (T469.setTop (mkF m 55 #[.val (.int p0), .val (.int p1), .val (.long q2), .second, .val (.long q3), .second, .val (.int p4), .val (.int p5), .val (.int (0 : Int32)), .val (.int (0 : Int32)), .val (.ref b434), .val (.ref b447), .val (.ref b450), .val (.ref b459), .unset, .unset, .unset] [(.ref b469)])) _
        refine XS.astore X469.here hx rfl (hb hby at_55) rfl rfl (l' := #[.val (.int p0), .val (.int p1), .val (.long q2), .second, .val (.long q3), .second, .val (.int p4), .val (.int p5), .val (.int (0 : Int32)), .val (.int (0 : Int32)), .val (.ref b434), .val (.ref b447), .val (.ref b450), .val (.ref b459), .val (.ref b469), .unset, .unset]) rfl ?_
        show Steps p.tables e below (T469.setTop (mkF m 57 #[.val (.int p0), .val (.int p1), .val (.long q2), .second, .val (.long q3), .second, .val (.int p4), .val (.int p5), .val (.int (0 : Int32)), .val (.int (0 : Int32)), .val (.ref b434), .val (.ref b447), .val (.ref b450), .val (.ref b459), .val (.ref b469), .unset, .unset] [])) _
        refine XS.aload X469.here hx rfl (hb hby at_57) rfl rfl ?_
        show Steps p.tables e below (T469.setTop (mkF m 59 #[.val (.int p0), .val (.int p1), .val (.long q2), .second, .val (.long q3), .second, .val (.int p4), .val (.int p5), .val (.int (0 : Int32)), .val (.int (0 : Int32)), .val (.ref b434), .val (.ref b447), .val (.ref b450), .val (.ref b459), .val (.ref b469), .unset, .unset] [(.ref b447)])) _
        refine XS.iconst X469.here hx rfl (hb hby at_59) ?_
        show Steps p.tables e below (T469.setTop (mkF m 60 #[.val (.int p0), .val (.int p1), .val (.long q2), .second, .val (.long q3), .second, .val (.int p4), .val (.int p5), .val (.int (0 : Int32)), .val (.int (0 : Int32)), .val (.ref b434), .val (.ref b447), .val (.ref b450), .val (.ref b459), .val (.ref b469), .unset, .unset] [(.int (0 : Int32)), (.ref b447)])) _
        refine XS.iloadN X469.here hx rfl (hb hby at_60) rfl ?_
        show Steps p.tables e below (T469.setTop (mkF m 61 #[.val (.int p0), .val (.int p1), .val (.long q2), .second, .val (.long q3), .second, .val (.int p4), .val (.int p5), .val (.int (0 : Int32)), .val (.int (0 : Int32)), .val (.ref b434), .val (.ref b447), .val (.ref b450), .val (.ref b459), .val (.ref b469), .unset, .unset] [(.int p0), (.int (0 : Int32)), (.ref b447)])) _
        refine st481 _ ?_
        show Steps p.tables e below (T481.setTop (mkF m 62 #[.val (.int p0), .val (.int p1), .val (.long q2), .second, .val (.long q3), .second, .val (.int p4), .val (.int p5), .val (.int (0 : Int32)), .val (.int (0 : Int32)), .val (.ref b434), .val (.ref b447), .val (.ref b450), .val (.ref b459), .val (.ref b469), .unset, .unset] [])) _
        refine XS.aload X481.here hx rfl (hb hby at_62) rfl rfl ?_
        show Steps p.tables e below (T481.setTop (mkF m 64 #[.val (.int p0), .val (.int p1), .val (.long q2), .second, .val (.long q3), .second, .val (.int p4), .val (.int p5), .val (.int (0 : Int32)), .val (.int (0 : Int32)), .val (.ref b434), .val (.ref b447), .val (.ref b450), .val (.ref b459), .val (.ref b469), .unset, .unset] [(.ref b447)])) _
        refine XS.iconst X481.here hx rfl (hb hby at_64) ?_
        show Steps p.tables e below (T481.setTop (mkF m 65 #[.val (.int p0), .val (.int p1), .val (.long q2), .second, .val (.long q3), .second, .val (.int p4), .val (.int p5), .val (.int (0 : Int32)), .val (.int (0 : Int32)), .val (.ref b434), .val (.ref b447), .val (.ref b450), .val (.ref b459), .val (.ref b469), .unset, .unset] [(.int (1 : Int32)), (.ref b447)])) _
        refine XS.iloadN X481.here hx rfl (hb hby at_65) rfl ?_
        show Steps p.tables e below (T481.setTop (mkF m 66 #[.val (.int p0), .val (.int p1), .val (.long q2), .second, .val (.long q3), .second, .val (.int p4), .val (.int p5), .val (.int (0 : Int32)), .val (.int (0 : Int32)), .val (.ref b434), .val (.ref b447), .val (.ref b450), .val (.ref b459), .val (.ref b469), .unset, .unset] [(.int p1), (.int (1 : Int32)), (.ref b447)])) _
        exact kt
      obtain ⟨T483, h483, X483, e483, W483, V483, st483⟩ := own_stI X481 hx hZ e481 V481 (i := 1) (by decide : (1 : Int32).toInt = ((1 : Nat) : Int)) (by decide) (g := (mkF m 66 #[.val (.int p0), .val (.int p1), .val (.long q2), .second, .val (.long q3), .second, .val (.int p4), .val (.int p5), .val (.int (0 : Int32)), .val (.int (0 : Int32)), .val (.ref b434), .val (.ref b447), .val (.ref b450), .val (.ref b459), .val (.ref b469), .unset, .unset] [(.int p1), (.int (1 : Int32)), (.ref b447)])) rfl rfl (hb hby at_66)
      have N483 := Fr.snoc X483 N481 ge_b447
      have f484 := ((((V450.keep ((Keep.refl _ []).ext E459) nin0).keep ((Keep.refl _ []).ext E469) nin0).keep (Keep.of_wr W481) (ninS (Ne.symm ne_b447_b450) nin0)).keep (Keep.of_wr W483) (ninS (Ne.symm ne_b447_b450) nin0))
      obtain ⟨T485, h485, X485, e485, W485, V485, st485⟩ := own_stJ X483 hx hZ e483 f484 (i := 0) (by decide : (0 : Int32).toInt = ((0 : Nat) : Int)) (by decide) (g := (mkF m 71 #[.val (.int p0), .val (.int p1), .val (.long q2), .second, .val (.long q3), .second, .val (.int p4), .val (.int p5), .val (.int (0 : Int32)), .val (.int (0 : Int32)), .val (.ref b434), .val (.ref b447), .val (.ref b450), .val (.ref b459), .val (.ref b469), .unset, .unset] [(.long q2), (.int (0 : Int32)), (.ref b450)])) rfl rfl (hb hby at_71)
      have N485 := Fr.snoc X485 N483 ge_b450
      obtain ⟨T486, h486, X486, e486, W486, V486, st486⟩ := own_stJ X485 hx hZ e485 V485 (i := 1) (by decide : (1 : Int32).toInt = ((1 : Nat) : Int)) (by decide) (g := (mkF m 77 #[.val (.int p0), .val (.int p1), .val (.long q2), .second, .val (.long q3), .second, .val (.int p4), .val (.int p5), .val (.int (0 : Int32)), .val (.int (0 : Int32)), .val (.ref b434), .val (.ref b447), .val (.ref b450), .val (.ref b459), .val (.ref b469), .unset, .unset] [(.long q3), (.int (1 : Int32)), (.ref b450)])) rfl rfl (hb hby at_77)
      have N486 := Fr.snoc X486 N485 ge_b450
      have f487 := (Nat.le_trans (Nat.le_trans (Nat.le_trans (Nat.le_trans (Nat.le_trans f479 ((Keep.refl _ []).ext E469).1) (Keep.of_wr W481).1) (Keep.of_wr W483).1) (Keep.of_wr W485).1) (Keep.of_wr W486).1)
      have f488 := (((((f470.keep ((Keep.refl _ []).ext E469)).keep (Keep.of_wr W481)).keep (Keep.of_wr W483)).keep (Keep.of_wr W485)).keep (Keep.of_wr W486))
      have f489 := ((((((((Fi_ia.keep ((Keep.refl _ []).ext E447) nin0).keep ((Keep.refl _ []).ext E450) nin0).keep ((Keep.refl _ []).ext E459) nin0).keep ((Keep.refl _ []).ext E469) nin0).keep (Keep.of_wr W481) (ninS ne_b434_b447 nin0)).keep (Keep.of_wr W483) (ninS ne_b434_b447 nin0)).keep (Keep.of_wr W485) (ninS ne_b434_b450 nin0)).keep (Keep.of_wr W486) (ninS ne_b434_b450 nin0))
      have f490 := ((((((((Fi_la.keep ((Keep.refl _ []).ext E447) nin0).keep ((Keep.refl _ []).ext E450) nin0).keep ((Keep.refl _ []).ext E459) nin0).keep ((Keep.refl _ []).ext E469) nin0).keep (Keep.of_wr W481) (ninS ne_b434_b447 nin0)).keep (Keep.of_wr W483) (ninS ne_b434_b447 nin0)).keep (Keep.of_wr W485) (ninS ne_b434_b450 nin0)).keep (Keep.of_wr W486) (ninS ne_b434_b450 nin0))
      have f491 := ((((((((Fi_si.keep ((Keep.refl _ []).ext E447) nin0).keep ((Keep.refl _ []).ext E450) nin0).keep ((Keep.refl _ []).ext E459) nin0).keep ((Keep.refl _ []).ext E469) nin0).keep (Keep.of_wr W481) (ninS ne_b434_b447 nin0)).keep (Keep.of_wr W483) (ninS ne_b434_b447 nin0)).keep (Keep.of_wr W485) (ninS ne_b434_b450 nin0)).keep (Keep.of_wr W486) (ninS ne_b434_b450 nin0))
      have f492 := ((((((((Fi_ov.keep ((Keep.refl _ []).ext E447) nin0).keep ((Keep.refl _ []).ext E450) nin0).keep ((Keep.refl _ []).ext E459) nin0).keep ((Keep.refl _ []).ext E469) nin0).keep (Keep.of_wr W481) (ninS ne_b434_b447 nin0)).keep (Keep.of_wr W483) (ninS ne_b434_b447 nin0)).keep (Keep.of_wr W485) (ninS ne_b434_b450 nin0)).keep (Keep.of_wr W486) (ninS ne_b434_b450 nin0))
      have f493 := ((((((((oFaentries446.keep ((Keep.refl _ []).ext E447) nin0).keep ((Keep.refl _ []).ext E450) nin0).keep ((Keep.refl _ []).ext E459) nin0).keep ((Keep.refl _ []).ext E469) nin0).keep (Keep.of_wr W481) (ninS ne_b434_b447 nin0)).keep (Keep.of_wr W483) (ninS ne_b434_b447 nin0)).keep (Keep.of_wr W485) (ninS ne_b434_b450 nin0)).keep (Keep.of_wr W486) (ninS ne_b434_b450 nin0))
      have f494 := ((((((((Fi_ls.keep ((Keep.refl _ []).ext E447) nin0).keep ((Keep.refl _ []).ext E450) nin0).keep ((Keep.refl _ []).ext E459) nin0).keep ((Keep.refl _ []).ext E469) nin0).keep (Keep.of_wr W481) (ninS ne_b434_b447 nin0)).keep (Keep.of_wr W483) (ninS ne_b434_b447 nin0)).keep (Keep.of_wr W485) (ninS ne_b434_b450 nin0)).keep (Keep.of_wr W486) (ninS ne_b434_b450 nin0))
      have f495 := ((((((((Fi_os.keep ((Keep.refl _ []).ext E447) nin0).keep ((Keep.refl _ []).ext E450) nin0).keep ((Keep.refl _ []).ext E459) nin0).keep ((Keep.refl _ []).ext E469) nin0).keep (Keep.of_wr W481) (ninS ne_b434_b447 nin0)).keep (Keep.of_wr W483) (ninS ne_b434_b447 nin0)).keep (Keep.of_wr W485) (ninS ne_b434_b450 nin0)).keep (Keep.of_wr W486) (ninS ne_b434_b450 nin0))
      have f496 := ((((((((oFalevel446.keep ((Keep.refl _ []).ext E447) nin0).keep ((Keep.refl _ []).ext E450) nin0).keep ((Keep.refl _ []).ext E459) nin0).keep ((Keep.refl _ []).ext E469) nin0).keep (Keep.of_wr W481) (ninS ne_b434_b447 nin0)).keep (Keep.of_wr W483) (ninS ne_b434_b447 nin0)).keep (Keep.of_wr W485) (ninS ne_b434_b450 nin0)).keep (Keep.of_wr W486) (ninS ne_b434_b450 nin0))
      have f497 := ((((((((oFastamp446.keep ((Keep.refl _ []).ext E447) nin0).keep ((Keep.refl _ []).ext E450) nin0).keep ((Keep.refl _ []).ext E459) nin0).keep ((Keep.refl _ []).ext E469) nin0).keep (Keep.of_wr W481) (ninS ne_b434_b447 nin0)).keep (Keep.of_wr W483) (ninS ne_b434_b447 nin0)).keep (Keep.of_wr W485) (ninS ne_b434_b450 nin0)).keep (Keep.of_wr W486) (ninS ne_b434_b450 nin0))
      have f498 := ((((((((oFalastStamp446.keep ((Keep.refl _ []).ext E447) nin0).keep ((Keep.refl _ []).ext E450) nin0).keep ((Keep.refl _ []).ext E459) nin0).keep ((Keep.refl _ []).ext E469) nin0).keep (Keep.of_wr W481) (ninS ne_b434_b447 nin0)).keep (Keep.of_wr W483) (ninS ne_b434_b447 nin0)).keep (Keep.of_wr W485) (ninS ne_b434_b450 nin0)).keep (Keep.of_wr W486) (ninS ne_b434_b450 nin0))
      have f499 := (((((f475.keep ((Keep.refl _ []).ext E469) nin0).keep (Keep.of_wr W481) (ninS ne_ls446_b447 nin0)).keep (Keep.of_wr W483) (ninS ne_ls446_b447 nin0)).keep (Keep.of_wr W485) (ninS ne_ls446_b450 nin0)).keep (Keep.of_wr W486) (ninS ne_ls446_b450 nin0))
      have f500 := (((((f476.keep ((Keep.refl _ []).ext E469) nin0).keep (Keep.of_wr W481) (ninS ne_os446_b447 nin0)).keep (Keep.of_wr W483) (ninS ne_os446_b447 nin0)).keep (Keep.of_wr W485) (ninS ne_os446_b450 nin0)).keep (Keep.of_wr W486) (ninS ne_os446_b450 nin0))
      obtain ⟨cq501, kq501, q501a, q501b, q501c⟩ := isOf hZ e486 f488
      obtain ⟨_, _, ⟨T501, L501, kc501, nc501⟩, -, X501, ⟨Lc501, hQ501, l501, y501, z501⟩, st501⟩ := X486.virtualBack hx (y := (⟨"com/example/tablewise/tablewise/propagation/Trail", "openLevel", "()V"⟩ : MethodName)) (z := (⟨"com/example/tablewise/tablewise/propagation/Trail", "openLevel", "()V"⟩ : MethodName)) hown (mvT hZ (hw _ (List.mem_of_getElem? (i := 27) rfl))) (mvT hZ (hw _ (List.mem_of_getElem? (i := 28) rfl))) (notFace_of_selects (args := #[]) (mvT hZ (hw _ (List.mem_of_getElem? (i := 30) rfl)))) (mvT hZ (hw _ (List.mem_of_getElem? (i := 30) rfl))) (mvT hZ (hw _ (List.mem_of_getElem? (i := 29) rfl))) (by decide) (backOf (W := 0) (rm3 l Z a0 hw [] b434 ia446 la446 si446 ov446 ls446 os446 (0 : Int32) (0 : Int32) (0 : Int64) (0 : Int64) 0 (fun _ => 0) (fun _ => 0) h486 n0 f487 f488 f489 f490 f491 f492 f493 f494 f495 f496 f497 f498 f499 f500 ge_b434 gi_ls gi_os ni_a_ls ni_a_os ni_ls_os (by decide) (by decide)) hZ (hw _ (List.mem_of_getElem? (i := 31) rfl)) (hw _ (List.mem_of_getElem? (i := 2) rfl)) (by decide) (by decide)) q501a q501c (g := (mkF m 80 #[.val (.int p0), .val (.int p1), .val (.long q2), .second, .val (.long q3), .second, .val (.int p4), .val (.int p5), .val (.int (0 : Int32)), .val (.int (0 : Int32)), .val (.ref b434), .val (.ref b447), .val (.ref b450), .val (.ref b459), .val (.ref b469), .unset, .unset] [(.ref b434)])) rfl (by rw [hml]; rfl) (Steps.refl _) (argsL := []) (rest := []) (lenOf pd_0 rfl) rfl (by show 2 * 0 + _ ≤ _; exact Nat.le_of_eq rfl) (hb hby at_80) (fun _ _ => ⟨rfl, e486, (by decide : 11 + 0 ≤ _), (by decide : 306 + 0 ≤ _)⟩)
      dsimp only [Pt.U, Pt.locs, Pt.cells, Pt.slots] at X501 l501 y501 z501 st501 hQ501
      rw [l501, y501, z501] at X501
      replace X501 : Stand p l e room_1 s m #[(.int p0), (.int p1), (.long q2), (.long q3), (.int p4), (.int p5)] below meth c T501 _ 11 306 := X501
      obtain ⟨rfl, Nq501, oK501, oFaintArrays501, oFalongArrays501, oFaslotIndices501, oFaoldValues501, oFaentries501, oFalevelStarts501, oFaouterStamps501, oFalevel501, oFastamp501, oFalastStamp501, oAls501, oAos501⟩ := hQ501
      have N501 := Fr.app N486 Nq501
      have f502 := (Nat.le_trans f487 oK501.1)
      have f503 := (f488.keep oK501)
      have f504 := ((((((f477.keep ((Keep.refl _ []).ext E469)).keep (Keep.of_wr W481)).keep (Keep.of_wr W483)).keep (Keep.of_wr W485)).keep (Keep.of_wr W486)).keep oK501)
      have f505 := ((((((f471.keep ((Keep.refl _ []).ext E469) nin0).keep (Keep.of_wr W481) (ninS ne_ia446_b447 nin0)).keep (Keep.of_wr W483) (ninS ne_ia446_b447 nin0)).keep (Keep.of_wr W485) (ninS ne_ia446_b450 nin0)).keep (Keep.of_wr W486) (ninS ne_ia446_b450 nin0)).keep oK501 (ninS (Ne.symm ni_a_ia) (ninS ni_ia_ls (ninS ni_ia_os nin0))))
      have f506 := ((((((f472.keep ((Keep.refl _ []).ext E469) nin0).keep (Keep.of_wr W481) (ninS ne_la446_b447 nin0)).keep (Keep.of_wr W483) (ninS ne_la446_b447 nin0)).keep (Keep.of_wr W485) (ninS ne_la446_b450 nin0)).keep (Keep.of_wr W486) (ninS ne_la446_b450 nin0)).keep oK501 (ninS (Ne.symm ni_a_la) (ninS ni_la_ls (ninS ni_la_os nin0))))
      have f507 := ((((((f473.keep ((Keep.refl _ []).ext E469) nin0).keep (Keep.of_wr W481) (ninS ne_si446_b447 nin0)).keep (Keep.of_wr W483) (ninS ne_si446_b447 nin0)).keep (Keep.of_wr W485) (ninS ne_si446_b450 nin0)).keep (Keep.of_wr W486) (ninS ne_si446_b450 nin0)).keep oK501 (ninS (Ne.symm ni_a_si) (ninS ni_si_ls (ninS ni_si_os nin0))))
      have f508 := ((((((f474.keep ((Keep.refl _ []).ext E469) nin0).keep (Keep.of_wr W481) (ninS ne_ov446_b447 nin0)).keep (Keep.of_wr W483) (ninS ne_ov446_b447 nin0)).keep (Keep.of_wr W485) (ninS ne_ov446_b450 nin0)).keep (Keep.of_wr W486) (ninS ne_ov446_b450 nin0)).keep oK501 (ninS (Ne.symm ni_a_ov) (ninS ni_ov_ls (ninS ni_ov_os nin0))))
      have f509 := (((V483.keep (Keep.of_wr W485) (ninS ne_b447_b450 nin0)).keep (Keep.of_wr W486) (ninS ne_b447_b450 nin0)).keep oK501 (ninS (Ne.symm ne_b434_b447) (ninS (Ne.symm ne_ls446_b447) (ninS (Ne.symm ne_os446_b447) nin0))))
      have f510 := ((((((V459.keep ((Keep.refl _ []).ext E469) nin0).keep (Keep.of_wr W481) (ninS (Ne.symm ne_b447_b459) nin0)).keep (Keep.of_wr W483) (ninS (Ne.symm ne_b447_b459) nin0)).keep (Keep.of_wr W485) (ninS (Ne.symm ne_b450_b459) nin0)).keep (Keep.of_wr W486) (ninS (Ne.symm ne_b450_b459) nin0)).keep oK501 (ninS (Ne.symm ne_b434_b459) (ninS (Ne.symm ne_ls446_b459) (ninS (Ne.symm ne_os446_b459) nin0))))
      obtain ⟨cq511, kq511, q511a, q511b, q511c⟩ := isOf hZ rfl f503
      obtain ⟨_, _, ⟨T511, L511, kc511, nc511⟩, -, X511, ⟨Lc511, hQ511, l511, y511, z511⟩, st511⟩ := X501.virtualBack hx (y := (⟨"com/example/tablewise/tablewise/propagation/Trail", "set", "([I[JII)V"⟩ : MethodName)) (z := (⟨"com/example/tablewise/tablewise/propagation/Trail", "set", "([I[JII)V"⟩ : MethodName)) hown (mvT hZ (hw _ (List.mem_of_getElem? (i := 40) rfl))) (mvT hZ (hw _ (List.mem_of_getElem? (i := 41) rfl))) (notFace_of_selects (args := #[]) (mvT hZ (hw _ (List.mem_of_getElem? (i := 43) rfl)))) (mvT hZ (hw _ (List.mem_of_getElem? (i := 43) rfl))) (mvT hZ (hw _ (List.mem_of_getElem? (i := 42) rfl))) (by decide) (backOf (W := 0) (rmsetIr l Z a0 hw [] b434 b447 b459 (0 : Int32) p1 ia446 la446 si446 ov446 ls446 os446 (0 : Int32) ((0 : Int32) + (1 : Int32)) ((0 : Int64) + (1 : Int64)) ((0 : Int64) + (1 : Int64)) 0 (fun _ => .null) (fun _ => .null) (fun _ => 0) (fun _ => 0) 0 (own_upd (own_upd (fun _ => 0) 0 p0) 1 p1) (fun _ => 0) T501.heap n0 f502 f503 f504 oFaintArrays501 oFalongArrays501 oFaslotIndices501 oFaoldValues501 oFaentries501 oFalevelStarts501 oFaouterStamps501 oFalevel501 oFastamp501 oFalastStamp501 f505 f506 f507 f508 f509 f510 ge_b434 gi_ia gi_la gi_si gi_ov ge_b447 ge_b459 ni_a_ia ni_a_la ni_a_si ni_a_ov ne_b434_b447 ne_b434_b459 ni_ia_la ni_ia_si ni_ia_ov ne_ia446_b447 ne_ia446_b459 ni_la_si ni_la_ov ne_la446_b447 ne_la446_b459 ni_si_ov ne_si446_b447 ne_si446_b459 ne_ov446_b447 ne_ov446_b459 ne_b447_b459 (by decide) (by decide) (by decide) (by decide) (by decide)) hZ (hw _ (List.mem_of_getElem? (i := 44) rfl)) (hw _ (List.mem_of_getElem? (i := 2) rfl)) (by decide) (by decide)) q511a q511c (g := (mkF m 91 #[.val (.int p0), .val (.int p1), .val (.long q2), .second, .val (.long q3), .second, .val (.int p4), .val (.int p5), .val (.int (0 : Int32)), .val (.int (0 : Int32)), .val (.ref b434), .val (.ref b447), .val (.ref b450), .val (.ref b459), .val (.ref b469), .unset, .unset] [(.int p1), (.int (0 : Int32)), (.ref b459), (.ref b447), (.ref b434)])) rfl (by rw [hml]; rfl) (Steps.refl _) (argsL := [(.ref b447), (.ref b459), (.int (0 : Int32)), (.int p1)]) (rest := []) (lenOf pd_1 rfl) rfl (by show 2 * 0 + _ ≤ _; exact Nat.le_of_eq rfl) (hb hby at_91) (fun _ _ => ⟨rfl, rfl, (by decide : 11 + 0 ≤ _), (by decide : 306 + 0 ≤ _)⟩)
      dsimp only [Pt.U, Pt.locs, Pt.cells, Pt.slots] at X511 l511 y511 z511 st511 hQ511
      rw [l511, y511, z511] at X511
      replace X511 : Stand p l e room_1 s m #[(.int p0), (.int p1), (.long q2), (.long q3), (.int p4), (.int p5)] below meth c T511 _ 11 306 := X511
      obtain ⟨rfl, Nq511, oK511, oFaintArrays511, oFalongArrays511, oFaslotIndices511, oFaoldValues511, oFalevelStarts511, oFaouterStamps511, oFalevel511, oFastamp511, oFalastStamp511, oFaentries511, oAia511, oAla511, oAsi511, oAov511, oAar511, oAmk511⟩ := hQ511
      have N511 := Fr.app N501 Nq511
      have f512 := (Nat.le_trans f502 oK511.1)
      have f513 := (f503.keep oK511)
      have f514 := (((((((f478.keep ((Keep.refl _ []).ext E469)).keep (Keep.of_wr W481)).keep (Keep.of_wr W483)).keep (Keep.of_wr W485)).keep (Keep.of_wr W486)).keep oK501).keep oK511)
      have f515 := ((V486.keep oK501 (ninS (Ne.symm ne_b434_b450) (ninS (Ne.symm ne_ls446_b450) (ninS (Ne.symm ne_os446_b450) nin0)))).keep oK511 (ninS (Ne.symm ne_b434_b450) (ninS (Ne.symm ne_ia446_b450) (ninS (Ne.symm ne_la446_b450) (ninS (Ne.symm ne_si446_b450) (ninS (Ne.symm ne_ov446_b450) (ninS (Ne.symm ne_b447_b450) (ninS ne_b450_b459 nin0))))))))
      have f516 := ((((((V469.keep (Keep.of_wr W481) (ninS (Ne.symm ne_b447_b469) nin0)).keep (Keep.of_wr W483) (ninS (Ne.symm ne_b447_b469) nin0)).keep (Keep.of_wr W485) (ninS (Ne.symm ne_b450_b469) nin0)).keep (Keep.of_wr W486) (ninS (Ne.symm ne_b450_b469) nin0)).keep oK501 (ninS (Ne.symm ne_b434_b469) (ninS (Ne.symm ne_ls446_b469) (ninS (Ne.symm ne_os446_b469) nin0)))).keep oK511 (ninS (Ne.symm ne_b434_b469) (ninS (Ne.symm ne_ia446_b469) (ninS (Ne.symm ne_la446_b469) (ninS (Ne.symm ne_si446_b469) (ninS (Ne.symm ne_ov446_b469) (ninS (Ne.symm ne_b447_b469) (ninS (Ne.symm ne_b459_b469) nin0))))))))
      obtain ⟨cq517, kq517, q517a, q517b, q517c⟩ := isOf hZ rfl f513
      obtain ⟨_, _, ⟨T517, L517, kc517, nc517⟩, -, X517, ⟨Lc517, hQ517, l517, y517, z517⟩, st517⟩ := X511.virtualBack hx (y := (⟨"com/example/tablewise/tablewise/propagation/Trail", "set", "([J[JIJ)V"⟩ : MethodName)) (z := (⟨"com/example/tablewise/tablewise/propagation/Trail", "set", "([J[JIJ)V"⟩ : MethodName)) hown (mvT hZ (hw _ (List.mem_of_getElem? (i := 50) rfl))) (mvT hZ (hw _ (List.mem_of_getElem? (i := 51) rfl))) (notFace_of_selects (args := #[]) (mvT hZ (hw _ (List.mem_of_getElem? (i := 53) rfl)))) (mvT hZ (hw _ (List.mem_of_getElem? (i := 53) rfl))) (mvT hZ (hw _ (List.mem_of_getElem? (i := 52) rfl))) (by decide) (backOf (W := 0) (rmsetJr l Z a0 hw [] b434 b450 b469 (1 : Int32) q2 ia446 la446 si446 ov446 ls446 os446 ((0 : Int32) + (1 : Int32)) ((0 : Int32) + (1 : Int32)) ((0 : Int64) + (1 : Int64)) ((0 : Int64) + (1 : Int64)) 1 (own_upd (fun _ => .null) 0 (.ref b447)) (own_upd (fun _ => .null) 0 .null) (own_upd (fun _ => 0) 0 (0 : Int32)) (own_upd (fun _ => 0) 0 (((own_upd (own_upd (fun _ => 0) 0 p0) 1 p1) 0).toInt64)) 1 (own_upd (own_upd (fun _ => 0) 0 q2) 1 q3) (fun _ => 0) T511.heap n0 f512 f513 f514 oFaintArrays511 oFalongArrays511 oFaslotIndices511 oFaoldValues511 oFaentries511 oFalevelStarts511 oFaouterStamps511 oFalevel511 oFastamp511 oFalastStamp511 oAia511 oAla511 oAsi511 oAov511 f515 f516 ge_b434 gi_ia gi_la gi_si gi_ov ge_b450 ge_b469 ni_a_ia ni_a_la ni_a_si ni_a_ov ne_b434_b450 ne_b434_b469 ni_ia_la ni_ia_si ni_ia_ov ne_ia446_b450 ne_ia446_b469 ni_la_si ni_la_ov ne_la446_b450 ne_la446_b469 ni_si_ov ne_si446_b450 ne_si446_b469 ne_ov446_b450 ne_ov446_b469 ne_b450_b469 (by decide) (by decide) (by decide) (by decide) (by decide)) hZ (hw _ (List.mem_of_getElem? (i := 54) rfl)) (hw _ (List.mem_of_getElem? (i := 2) rfl)) (by decide) (by decide)) q517a q517c (g := (mkF m 119 #[.val (.int p0), .val (.int p1), .val (.long q2), .second, .val (.long q3), .second, .val (.int p4), .val (.int p5), .val (.int (0 : Int32)), .val (.int (0 : Int32)), .val (.ref b434), .val (.ref b447), .val (.ref b450), .val (.ref b459), .val (.ref b469), .unset, .unset] [(.long q2), (.int (1 : Int32)), (.ref b469), (.ref b450), (.ref b434)])) rfl (by rw [hml]; rfl) (Steps.refl _) (argsL := [(.ref b450), (.ref b469), (.int (1 : Int32)), (.long q2)]) (rest := []) (lenOf pd_3 rfl) rfl (by show 2 * 0 + _ ≤ _; exact Nat.le_of_eq rfl) (hb hby at_119) (fun _ _ => ⟨rfl, rfl, (by decide : 11 + 0 ≤ _), (by decide : 306 + 0 ≤ _)⟩)
      dsimp only [Pt.U, Pt.locs, Pt.cells, Pt.slots] at X517 l517 y517 z517 st517 hQ517
      rw [l517, y517, z517] at X517
      replace X517 : Stand p l e room_1 s m #[(.int p0), (.int p1), (.long q2), (.long q3), (.int p4), (.int p5)] below meth c T517 _ 11 306 := X517
      obtain ⟨rfl, Nq517, oK517, oFaintArrays517, oFalongArrays517, oFaslotIndices517, oFaoldValues517, oFalevelStarts517, oFaouterStamps517, oFalevel517, oFastamp517, oFalastStamp517, oFaentries517, oAia517, oAla517, oAsi517, oAov517, oAar517, oAmk517⟩ := hQ517
      have N517 := Fr.app N511 Nq517
      have k518 : ∀ tg_, Steps p.tables e below (T517.setTop (mkF m 123 #[.val (.int p0), .val (.int p1), .val (.long q2), .second, .val (.long q3), .second, .val (.int p4), .val (.int p5), .val (.int (0 : Int32)), .val (.int (0 : Int32)), .val (.ref b434), .val (.ref b447), .val (.ref b450), .val (.ref b459), .val (.ref b469), .unset, .unset] [(.int (1 : Int32))])) tg_ → Steps p.tables e below (s₁.setTop (entryFrame m #[(.int p0), (.int p1), (.long q2), (.long q3), (.int p4), (.int p5)] maxLocals)) tg_ := by
        intro tg_ kt
        refine k482 tg_ ?_
        refine st483 _ ?_
        show Steps p.tables e below (T483.setTop (mkF m 67 #[.val (.int p0), .val (.int p1), .val (.long q2), .second, .val (.long q3), .second, .val (.int p4), .val (.int p5), .val (.int (0 : Int32)), .val (.int (0 : Int32)), .val (.ref b434), .val (.ref b447), .val (.ref b450), .val (.ref b459), .val (.ref b469), .unset, .unset] [])) _
        refine XS.aload X483.here hx rfl (hb hby at_67) rfl rfl ?_
        show Steps p.tables e below (T483.setTop (mkF m 69 #[.val (.int p0), .val (.int p1), .val (.long q2), .second, .val (.long q3), .second, .val (.int p4), .val (.int p5), .val (.int (0 : Int32)), .val (.int (0 : Int32)), .val (.ref b434), .val (.ref b447), .val (.ref b450), .val (.ref b459), .val (.ref b469), .unset, .unset] [(.ref b450)])) _
        refine XS.iconst X483.here hx rfl (hb hby at_69) ?_
        show Steps p.tables e below (T483.setTop (mkF m 70 #[.val (.int p0), .val (.int p1), .val (.long q2), .second, .val (.long q3), .second, .val (.int p4), .val (.int p5), .val (.int (0 : Int32)), .val (.int (0 : Int32)), .val (.ref b434), .val (.ref b447), .val (.ref b450), .val (.ref b459), .val (.ref b469), .unset, .unset] [(.int (0 : Int32)), (.ref b450)])) _
        refine XS.lloadN X483.here hx rfl (hb hby at_70) rfl ?_
        show Steps p.tables e below (T483.setTop (mkF m 71 #[.val (.int p0), .val (.int p1), .val (.long q2), .second, .val (.long q3), .second, .val (.int p4), .val (.int p5), .val (.int (0 : Int32)), .val (.int (0 : Int32)), .val (.ref b434), .val (.ref b447), .val (.ref b450), .val (.ref b459), .val (.ref b469), .unset, .unset] [(.long q2), (.int (0 : Int32)), (.ref b450)])) _
        refine st485 _ ?_
        show Steps p.tables e below (T485.setTop (mkF m 72 #[.val (.int p0), .val (.int p1), .val (.long q2), .second, .val (.long q3), .second, .val (.int p4), .val (.int p5), .val (.int (0 : Int32)), .val (.int (0 : Int32)), .val (.ref b434), .val (.ref b447), .val (.ref b450), .val (.ref b459), .val (.ref b469), .unset, .unset] [])) _
        refine XS.aload X485.here hx rfl (hb hby at_72) rfl rfl ?_
        show Steps p.tables e below (T485.setTop (mkF m 74 #[.val (.int p0), .val (.int p1), .val (.long q2), .second, .val (.long q3), .second, .val (.int p4), .val (.int p5), .val (.int (0 : Int32)), .val (.int (0 : Int32)), .val (.ref b434), .val (.ref b447), .val (.ref b450), .val (.ref b459), .val (.ref b469), .unset, .unset] [(.ref b450)])) _
        refine XS.iconst X485.here hx rfl (hb hby at_74) ?_
        show Steps p.tables e below (T485.setTop (mkF m 75 #[.val (.int p0), .val (.int p1), .val (.long q2), .second, .val (.long q3), .second, .val (.int p4), .val (.int p5), .val (.int (0 : Int32)), .val (.int (0 : Int32)), .val (.ref b434), .val (.ref b447), .val (.ref b450), .val (.ref b459), .val (.ref b469), .unset, .unset] [(.int (1 : Int32)), (.ref b450)])) _
        refine XS.lload X485.here hx rfl (hb hby at_75) rfl ?_
        show Steps p.tables e below (T485.setTop (mkF m 77 #[.val (.int p0), .val (.int p1), .val (.long q2), .second, .val (.long q3), .second, .val (.int p4), .val (.int p5), .val (.int (0 : Int32)), .val (.int (0 : Int32)), .val (.ref b434), .val (.ref b447), .val (.ref b450), .val (.ref b459), .val (.ref b469), .unset, .unset] [(.long q3), (.int (1 : Int32)), (.ref b450)])) _
        refine st486 _ ?_
        show Steps p.tables e below (T486.setTop (mkF m 78 #[.val (.int p0), .val (.int p1), .val (.long q2), .second, .val (.long q3), .second, .val (.int p4), .val (.int p5), .val (.int (0 : Int32)), .val (.int (0 : Int32)), .val (.ref b434), .val (.ref b447), .val (.ref b450), .val (.ref b459), .val (.ref b469), .unset, .unset] [])) _
        refine XS.aload X486.here hx rfl (hb hby at_78) rfl rfl ?_
        show Steps p.tables e below (T486.setTop (mkF m 80 #[.val (.int p0), .val (.int p1), .val (.long q2), .second, .val (.long q3), .second, .val (.int p4), .val (.int p5), .val (.int (0 : Int32)), .val (.int (0 : Int32)), .val (.ref b434), .val (.ref b447), .val (.ref b450), .val (.ref b459), .val (.ref b469), .unset, .unset] [(.ref b434)])) _
        refine st501.trans ?_
        show Steps p.tables e below (T501.setTop (mkF m 83 #[.val (.int p0), .val (.int p1), .val (.long q2), .second, .val (.long q3), .second, .val (.int p4), .val (.int p5), .val (.int (0 : Int32)), .val (.int (0 : Int32)), .val (.ref b434), .val (.ref b447), .val (.ref b450), .val (.ref b459), .val (.ref b469), .unset, .unset] [])) _
        refine XS.aload X501.here hx rfl (hb hby at_83) rfl rfl ?_
        show Steps p.tables e below (T501.setTop (mkF m 85 #[.val (.int p0), .val (.int p1), .val (.long q2), .second, .val (.long q3), .second, .val (.int p4), .val (.int p5), .val (.int (0 : Int32)), .val (.int (0 : Int32)), .val (.ref b434), .val (.ref b447), .val (.ref b450), .val (.ref b459), .val (.ref b469), .unset, .unset] [(.ref b434)])) _
        refine XS.aload X501.here hx rfl (hb hby at_85) rfl rfl ?_
        show Steps p.tables e below (T501.setTop (mkF m 87 #[.val (.int p0), .val (.int p1), .val (.long q2), .second, .val (.long q3), .second, .val (.int p4), .val (.int p5), .val (.int (0 : Int32)), .val (.int (0 : Int32)), .val (.ref b434), .val (.ref b447), .val (.ref b450), .val (.ref b459), .val (.ref b469), .unset, .unset] [(.ref b447), (.ref b434)])) _
        refine XS.aload X501.here hx rfl (hb hby at_87) rfl rfl ?_
        show Steps p.tables e below (T501.setTop (mkF m 89 #[.val (.int p0), .val (.int p1), .val (.long q2), .second, .val (.long q3), .second, .val (.int p4), .val (.int p5), .val (.int (0 : Int32)), .val (.int (0 : Int32)), .val (.ref b434), .val (.ref b447), .val (.ref b450), .val (.ref b459), .val (.ref b469), .unset, .unset] [(.ref b459), (.ref b447), (.ref b434)])) _
        refine XS.iconst X501.here hx rfl (hb hby at_89) ?_
        show Steps p.tables e below (T501.setTop (mkF m 90 #[.val (.int p0), .val (.int p1), .val (.long q2), .second, .val (.long q3), .second, .val (.int p4), .val (.int p5), .val (.int (0 : Int32)), .val (.int (0 : Int32)), .val (.ref b434), .val (.ref b447), .val (.ref b450), .val (.ref b459), .val (.ref b469), .unset, .unset] [(.int (0 : Int32)), (.ref b459), (.ref b447), (.ref b434)])) _
        refine XS.iloadN X501.here hx rfl (hb hby at_90) rfl ?_
        show Steps p.tables e below (T501.setTop (mkF m 91 #[.val (.int p0), .val (.int p1), .val (.long q2), .second, .val (.long q3), .second, .val (.int p4), .val (.int p5), .val (.int (0 : Int32)), .val (.int (0 : Int32)), .val (.ref b434), .val (.ref b447), .val (.ref b450), .val (.ref b459), .val (.ref b469), .unset, .unset] [(.int p1), (.int (0 : Int32)), (.ref b459), (.ref b447), (.ref b434)])) _
        refine st511.trans ?_
        show Steps p.tables e below (T511.setTop (mkF m 94 #[.val (.int p0), .val (.int p1), .val (.long q2), .second, .val (.long q3), .second, .val (.int p4), .val (.int p5), .val (.int (0 : Int32)), .val (.int (0 : Int32)), .val (.ref b434), .val (.ref b447), .val (.ref b450), .val (.ref b459), .val (.ref b469), .unset, .unset] [])) _
        refine XS.iload X511.here hx rfl (hb hby at_94) rfl ?_
        show Steps p.tables e below (T511.setTop (mkF m 96 #[.val (.int p0), .val (.int p1), .val (.long q2), .second, .val (.long q3), .second, .val (.int p4), .val (.int p5), .val (.int (0 : Int32)), .val (.int (0 : Int32)), .val (.ref b434), .val (.ref b447), .val (.ref b450), .val (.ref b459), .val (.ref b469), .unset, .unset] [(.int (0 : Int32))])) _
        refine XS.ifYes X511.here hx rfl (pc0 := 96) (pc' := 111) rfl (hb hby at_96) rfl ((if0 _ _).trans (teq (by decide : (0 : Int32) = (0 : Int32))).1) (by decide) (by decide) ?_
        show Steps p.tables e below (T511.setTop (mkF m 111 #[.val (.int p0), .val (.int p1), .val (.long q2), .second, .val (.long q3), .second, .val (.int p4), .val (.int p5), .val (.int (0 : Int32)), .val (.int (0 : Int32)), .val (.ref b434), .val (.ref b447), .val (.ref b450), .val (.ref b459), .val (.ref b469), .unset, .unset] [])) _
        refine XS.aload X511.here hx rfl (hb hby at_111) rfl rfl ?_
        show Steps p.tables e below (T511.setTop (mkF m 113 #[.val (.int p0), .val (.int p1), .val (.long q2), .second, .val (.long q3), .second, .val (.int p4), .val (.int p5), .val (.int (0 : Int32)), .val (.int (0 : Int32)), .val (.ref b434), .val (.ref b447), .val (.ref b450), .val (.ref b459), .val (.ref b469), .unset, .unset] [(.ref b434)])) _
        refine XS.aload X511.here hx rfl (hb hby at_113) rfl rfl ?_
        show Steps p.tables e below (T511.setTop (mkF m 115 #[.val (.int p0), .val (.int p1), .val (.long q2), .second, .val (.long q3), .second, .val (.int p4), .val (.int p5), .val (.int (0 : Int32)), .val (.int (0 : Int32)), .val (.ref b434), .val (.ref b447), .val (.ref b450), .val (.ref b459), .val (.ref b469), .unset, .unset] [(.ref b450), (.ref b434)])) _
        refine XS.aload X511.here hx rfl (hb hby at_115) rfl rfl ?_
        show Steps p.tables e below (T511.setTop (mkF m 117 #[.val (.int p0), .val (.int p1), .val (.long q2), .second, .val (.long q3), .second, .val (.int p4), .val (.int p5), .val (.int (0 : Int32)), .val (.int (0 : Int32)), .val (.ref b434), .val (.ref b447), .val (.ref b450), .val (.ref b459), .val (.ref b469), .unset, .unset] [(.ref b469), (.ref b450), (.ref b434)])) _
        refine XS.iconst X511.here hx rfl (hb hby at_117) ?_
        show Steps p.tables e below (T511.setTop (mkF m 118 #[.val (.int p0), .val (.int p1), .val (.long q2), .second, .val (.long q3), .second, .val (.int p4), .val (.int p5), .val (.int (0 : Int32)), .val (.int (0 : Int32)), .val (.ref b434), .val (.ref b447), .val (.ref b450), .val (.ref b459), .val (.ref b469), .unset, .unset] [(.int (1 : Int32)), (.ref b469), (.ref b450), (.ref b434)])) _
        refine XS.lloadN X511.here hx rfl (hb hby at_118) rfl ?_
        show Steps p.tables e below (T511.setTop (mkF m 119 #[.val (.int p0), .val (.int p1), .val (.long q2), .second, .val (.long q3), .second, .val (.int p4), .val (.int p5), .val (.int (0 : Int32)), .val (.int (0 : Int32)), .val (.ref b434), .val (.ref b447), .val (.ref b450), .val (.ref b459), .val (.ref b469), .unset, .unset] [(.long q2), (.int (1 : Int32)), (.ref b469), (.ref b450), (.ref b434)])) _
        refine st517.trans ?_
        show Steps p.tables e below (T517.setTop (mkF m 122 #[.val (.int p0), .val (.int p1), .val (.long q2), .second, .val (.long q3), .second, .val (.int p4), .val (.int p5), .val (.int (0 : Int32)), .val (.int (0 : Int32)), .val (.ref b434), .val (.ref b447), .val (.ref b450), .val (.ref b459), .val (.ref b469), .unset, .unset] [])) _
        refine XS.iconst X517.here hx rfl (hb hby at_122) ?_
        show Steps p.tables e below (T517.setTop (mkF m 123 #[.val (.int p0), .val (.int p1), .val (.long q2), .second, .val (.long q3), .second, .val (.int p4), .val (.int p5), .val (.int (0 : Int32)), .val (.int (0 : Int32)), .val (.ref b434), .val (.ref b447), .val (.ref b450), .val (.ref b459), .val (.ref b469), .unset, .unset] [(.int (1 : Int32))])) _
        exact kt
      have f519 := (Nat.le_trans f512 oK517.1)
      have f520 := (f513.keep oK517)
      have f521 := (f514.keep oK517)
      obtain ⟨cq522, kq522, q522a, q522b, q522c⟩ := isOf hZ rfl f520
      obtain ⟨_, _, ⟨T522, L522, kc522, nc522⟩, -, X522, ⟨Lc522, hQ522, l522, y522, z522⟩, st522⟩ := X517.virtualBack hx (y := (⟨"com/example/tablewise/tablewise/propagation/Trail", "set", "([J[JIJ)V"⟩ : MethodName)) (z := (⟨"com/example/tablewise/tablewise/propagation/Trail", "set", "([J[JIJ)V"⟩ : MethodName)) hown (mvT hZ (hw _ (List.mem_of_getElem? (i := 50) rfl))) (mvT hZ (hw _ (List.mem_of_getElem? (i := 51) rfl))) (notFace_of_selects (args := #[]) (mvT hZ (hw _ (List.mem_of_getElem? (i := 53) rfl)))) (mvT hZ (hw _ (List.mem_of_getElem? (i := 53) rfl))) (mvT hZ (hw _ (List.mem_of_getElem? (i := 52) rfl))) (by decide) (backOf (W := 0) (rmsetJr l Z a0 hw [] b434 b450 b469 (0 : Int32) q3 ia446 la446 si446 ov446 ls446 os446 (((0 : Int32) + (1 : Int32)) + (1 : Int32)) ((0 : Int32) + (1 : Int32)) ((0 : Int64) + (1 : Int64)) ((0 : Int64) + (1 : Int64)) 2 (own_upd (own_upd (fun _ => .null) 0 (.ref b447)) 1 .null) (own_upd (own_upd (fun _ => .null) 0 .null) 1 (.ref b450)) (own_upd (own_upd (fun _ => 0) 0 (0 : Int32)) 1 (1 : Int32)) (own_upd (own_upd (fun _ => 0) 0 (((own_upd (own_upd (fun _ => 0) 0 p0) 1 p1) 0).toInt64)) 1 ((own_upd (own_upd (fun _ => 0) 0 q2) 1 q3) 1)) 0 (own_upd (own_upd (own_upd (fun _ => 0) 0 q2) 1 q3) 1 q2) (own_upd (fun _ => 0) 1 ((0 : Int64) + (1 : Int64))) T517.heap n0 f519 f520 f521 oFaintArrays517 oFalongArrays517 oFaslotIndices517 oFaoldValues517 oFaentries517 oFalevelStarts517 oFaouterStamps517 oFalevel517 oFastamp517 oFalastStamp517 oAia517 oAla517 oAsi517 oAov517 oAar517 oAmk517 ge_b434 gi_ia gi_la gi_si gi_ov ge_b450 ge_b469 ni_a_ia ni_a_la ni_a_si ni_a_ov ne_b434_b450 ne_b434_b469 ni_ia_la ni_ia_si ni_ia_ov ne_ia446_b450 ne_ia446_b469 ni_la_si ni_la_ov ne_la446_b450 ne_la446_b469 ni_si_ov ne_si446_b450 ne_si446_b469 ne_ov446_b450 ne_ov446_b469 ne_b450_b469 (by decide) (by decide) (by decide) (by decide) (by decide)) hZ (hw _ (List.mem_of_getElem? (i := 54) rfl)) (hw _ (List.mem_of_getElem? (i := 2) rfl)) (by decide) (by decide)) q522a q522c (g := (mkF m 237 #[.val (.int p0), .val (.int p1), .val (.long q2), .second, .val (.long q3), .second, .val (.int p4), .val (.int p5), .val (.int (0 : Int32)), .val (.int (0 : Int32)), .val (.ref b434), .val (.ref b447), .val (.ref b450), .val (.ref b459), .val (.ref b469), .val (.int (1 : Int32)), .unset] [(.long q3), (.int (0 : Int32)), (.ref b469), (.ref b450), (.ref b434)])) rfl (by rw [hml]; rfl) (Steps.refl _) (argsL := [(.ref b450), (.ref b469), (.int (0 : Int32)), (.long q3)]) (rest := []) (lenOf pd_3 rfl) rfl (by show 2 * 0 + _ ≤ _; exact Nat.le_of_eq rfl) (hb hby at_237) (fun _ _ => ⟨rfl, rfl, (by decide : 11 + 0 ≤ _), (by decide : 306 + 0 ≤ _)⟩)
      dsimp only [Pt.U, Pt.locs, Pt.cells, Pt.slots] at X522 l522 y522 z522 st522 hQ522
      rw [l522, y522, z522] at X522
      replace X522 : Stand p l e room_1 s m #[(.int p0), (.int p1), (.long q2), (.long q3), (.int p4), (.int p5)] below meth c T522 _ 11 306 := X522
      obtain ⟨rfl, Nq522, oK522, oFaintArrays522, oFalongArrays522, oFaslotIndices522, oFaoldValues522, oFalevelStarts522, oFaouterStamps522, oFalevel522, oFastamp522, oFalastStamp522, oFaentries522, oAia522, oAla522, oAsi522, oAov522, oAar522, oAmk522⟩ := hQ522
      have N522 := Fr.app N517 Nq522
      have f523 := (Nat.le_trans f519 oK522.1)
      have f524 := (f520.keep oK522)
      have f525 := (((oAls501.keep oK511 (ninS (Ne.symm ni_a_ls) (ninS (Ne.symm ni_ia_ls) (ninS (Ne.symm ni_la_ls) (ninS (Ne.symm ni_si_ls) (ninS (Ne.symm ni_ov_ls) (ninS ne_ls446_b447 (ninS ne_ls446_b459 nin0)))))))).keep oK517 (ninS (Ne.symm ni_a_ls) (ninS (Ne.symm ni_ia_ls) (ninS (Ne.symm ni_la_ls) (ninS (Ne.symm ni_si_ls) (ninS (Ne.symm ni_ov_ls) (ninS ne_ls446_b450 (ninS ne_ls446_b469 nin0)))))))).keep oK522 (ninS (Ne.symm ni_a_ls) (ninS (Ne.symm ni_ia_ls) (ninS (Ne.symm ni_la_ls) (ninS (Ne.symm ni_si_ls) (ninS (Ne.symm ni_ov_ls) (ninS ne_ls446_b450 (ninS ne_ls446_b469 nin0))))))))
      have f526 := (((oAos501.keep oK511 (ninS (Ne.symm ni_a_os) (ninS (Ne.symm ni_ia_os) (ninS (Ne.symm ni_la_os) (ninS (Ne.symm ni_si_os) (ninS (Ne.symm ni_ov_os) (ninS ne_os446_b447 (ninS ne_os446_b459 nin0)))))))).keep oK517 (ninS (Ne.symm ni_a_os) (ninS (Ne.symm ni_ia_os) (ninS (Ne.symm ni_la_os) (ninS (Ne.symm ni_si_os) (ninS (Ne.symm ni_ov_os) (ninS ne_os446_b450 (ninS ne_os446_b469 nin0)))))))).keep oK522 (ninS (Ne.symm ni_a_os) (ninS (Ne.symm ni_ia_os) (ninS (Ne.symm ni_la_os) (ninS (Ne.symm ni_si_os) (ninS (Ne.symm ni_ov_os) (ninS ne_os446_b450 (ninS ne_os446_b469 nin0))))))))
      have f527 := ((oAar511.keep oK517 (ninS (Ne.symm ne_b434_b447) (ninS (Ne.symm ne_ia446_b447) (ninS (Ne.symm ne_la446_b447) (ninS (Ne.symm ne_si446_b447) (ninS (Ne.symm ne_ov446_b447) (ninS ne_b447_b450 (ninS ne_b447_b469 nin0)))))))).keep oK522 (ninS (Ne.symm ne_b434_b447) (ninS (Ne.symm ne_ia446_b447) (ninS (Ne.symm ne_la446_b447) (ninS (Ne.symm ne_si446_b447) (ninS (Ne.symm ne_ov446_b447) (ninS ne_b447_b450 (ninS ne_b447_b469 nin0))))))))
      obtain ⟨cq528, kq528, q528a, q528b, q528c⟩ := isOf hZ rfl f524
      obtain ⟨_, _, ⟨T528, L528, kc528, nc528⟩, -, X528, ⟨Lc528, hQ528, l528, y528, z528⟩, st528⟩ := X522.virtualBack hx (y := (⟨"com/example/tablewise/tablewise/propagation/Trail", "closeLevel", "()V"⟩ : MethodName)) (z := (⟨"com/example/tablewise/tablewise/propagation/Trail", "closeLevel", "()V"⟩ : MethodName)) hown (mvT hZ (hw _ (List.mem_of_getElem? (i := 56) rfl))) (mvT hZ (hw _ (List.mem_of_getElem? (i := 57) rfl))) (notFace_of_selects (args := #[]) (mvT hZ (hw _ (List.mem_of_getElem? (i := 59) rfl)))) (mvT hZ (hw _ (List.mem_of_getElem? (i := 59) rfl))) (mvT hZ (hw _ (List.mem_of_getElem? (i := 58) rfl))) (by decide) (backOf (W := 0) (rmclB l Z a0 hw [] b434 ia446 la446 si446 ov446 ls446 os446 ((((0 : Int32) + (1 : Int32)) + (1 : Int32)) + (1 : Int32)) ((0 : Int32) + (1 : Int32)) ((0 : Int64) + (1 : Int64)) ((0 : Int64) + (1 : Int64)) (own_upd (own_upd (own_upd (fun _ => .null) 0 (.ref b447)) 1 .null) 2 .null) (own_upd (own_upd (own_upd (fun _ => .null) 0 .null) 1 (.ref b450)) 2 (.ref b450)) (own_upd (own_upd (own_upd (fun _ => 0) 0 (0 : Int32)) 1 (1 : Int32)) 2 (0 : Int32)) (own_upd (own_upd (own_upd (fun _ => 0) 0 (((own_upd (own_upd (fun _ => 0) 0 p0) 1 p1) 0).toInt64)) 1 ((own_upd (own_upd (fun _ => 0) 0 q2) 1 q3) 1)) 2 ((own_upd (own_upd (own_upd (fun _ => 0) 0 q2) 1 q3) 1 q2) 0)) b447 b450 0 (own_upd (fun _ => 0) 0 (0 : Int32)) (own_upd (fun _ => 0) 0 (0 : Int64)) (own_upd (own_upd (own_upd (fun _ => 0) 0 p0) 1 p1) 0 p1) (own_upd (own_upd (own_upd (own_upd (fun _ => 0) 0 q2) 1 q3) 1 q2) 0 q3) T522.heap n0 f523 f524 oFaintArrays522 oFalongArrays522 oFaslotIndices522 oFaoldValues522 oFaentries522 oFalevelStarts522 oFaouterStamps522 oFalevel522 oFastamp522 oFalastStamp522 oAia522 oAla522 oAsi522 oAov522 f525 f526 f527 oAar522 ge_b434 gi_ia gi_la ge_b447 ge_b450 ni_a_ia ni_a_la ni_a_si ni_a_ov ni_a_ls ni_a_os ne_b434_b447 ne_b434_b450 ni_ia_la ni_ia_si ni_ia_ov ni_ia_ls ni_ia_os ne_ia446_b447 ne_ia446_b450 ni_la_si ni_la_ov ni_la_ls ni_la_os ne_la446_b447 ne_la446_b450 ni_si_ov ni_si_ls ni_si_os ne_si446_b447 ne_si446_b450 ni_ov_ls ni_ov_os ne_ov446_b447 ne_ov446_b450 ni_ls_os ne_ls446_b447 ne_ls446_b450 ne_os446_b447 ne_os446_b450 ne_b447_b450 (by decide) (by decide) (by decide) (by decide) rfl rfl rfl rfl rfl rfl rfl rfl) hZ (hw _ (List.mem_of_getElem? (i := 60) rfl)) (hw _ (List.mem_of_getElem? (i := 2) rfl)) (by decide) (by decide)) q528a q528c (g := (mkF m 242 #[.val (.int p0), .val (.int p1), .val (.long q2), .second, .val (.long q3), .second, .val (.int p4), .val (.int p5), .val (.int (0 : Int32)), .val (.int (0 : Int32)), .val (.ref b434), .val (.ref b447), .val (.ref b450), .val (.ref b459), .val (.ref b469), .val (.int (1 : Int32)), .unset] [(.ref b434)])) rfl (by rw [hml]; rfl) (Steps.refl _) (argsL := []) (rest := []) (lenOf pd_0 rfl) rfl (by show 2 * 0 + _ ≤ _; exact Nat.le_of_eq rfl) (hb hby at_242) (fun _ _ => ⟨rfl, rfl, (by decide : 11 + 0 ≤ _), (by decide : 306 + 0 ≤ _)⟩)
      dsimp only [Pt.U, Pt.locs, Pt.cells, Pt.slots] at X528 l528 y528 z528 st528 hQ528
      rw [l528, y528, z528] at X528
      replace X528 : Stand p l e room_1 s m #[(.int p0), (.int p1), (.long q2), (.long q3), (.int p4), (.int p5)] below meth c T528 _ 11 306 := X528
      obtain ⟨rfl, Nq528, oK528, oFaintArrays528, oFalongArrays528, oFaslotIndices528, oFaoldValues528, oFalevelStarts528, oFaouterStamps528, oFalastStamp528, oFaentries528, oFalevel528, oFastamp528, oAia528, oAla528, oAxi528, oAxj528⟩ := hQ528
      have N528 := Fr.app N522 Nq528
      have hc255_529 : p0 = p0 := rfl
      have hc263_530 : p1 = p1 := rfl
      have k531 : ∀ tg_, Steps p.tables e below (T528.setTop (mkF m 270 #[.val (.int p0), .val (.int p1), .val (.long q2), .second, .val (.long q3), .second, .val (.int p4), .val (.int p5), .val (.int (0 : Int32)), .val (.int (0 : Int32)), .val (.ref b434), .val (.ref b447), .val (.ref b450), .val (.ref b459), .val (.ref b469), .val (.int (1 : Int32)), .unset] [(.long q2)])) tg_ → Steps p.tables e below (s₁.setTop (entryFrame m #[(.int p0), (.int p1), (.long q2), (.long q3), (.int p4), (.int p5)] maxLocals)) tg_ := by
        intro tg_ kt
        refine k518 tg_ ?_
        refine XS.istore X517.here hx rfl (hb hby at_123) rfl (l' := #[.val (.int p0), .val (.int p1), .val (.long q2), .second, .val (.long q3), .second, .val (.int p4), .val (.int p5), .val (.int (0 : Int32)), .val (.int (0 : Int32)), .val (.ref b434), .val (.ref b447), .val (.ref b450), .val (.ref b459), .val (.ref b469), .val (.int (1 : Int32)), .unset]) rfl ?_
        show Steps p.tables e below (T517.setTop (mkF m 125 #[.val (.int p0), .val (.int p1), .val (.long q2), .second, .val (.long q3), .second, .val (.int p4), .val (.int p5), .val (.int (0 : Int32)), .val (.int (0 : Int32)), .val (.ref b434), .val (.ref b447), .val (.ref b450), .val (.ref b459), .val (.ref b469), .val (.int (1 : Int32)), .unset] [])) _
        refine XS.iload X517.here hx rfl (hb hby at_125) rfl ?_
        show Steps p.tables e below (T517.setTop (mkF m 127 #[.val (.int p0), .val (.int p1), .val (.long q2), .second, .val (.long q3), .second, .val (.int p4), .val (.int p5), .val (.int (0 : Int32)), .val (.int (0 : Int32)), .val (.ref b434), .val (.ref b447), .val (.ref b450), .val (.ref b459), .val (.ref b469), .val (.int (1 : Int32)), .unset] [(.int (0 : Int32))])) _
        refine XS.ifYes X517.here hx rfl (pc0 := 127) (pc' := 228) rfl (hb hby at_127) rfl ((if0 _ _).trans (teq (by decide : (0 : Int32) = (0 : Int32))).1) (by decide) (by decide) ?_
        show Steps p.tables e below (T517.setTop (mkF m 228 #[.val (.int p0), .val (.int p1), .val (.long q2), .second, .val (.long q3), .second, .val (.int p4), .val (.int p5), .val (.int (0 : Int32)), .val (.int (0 : Int32)), .val (.ref b434), .val (.ref b447), .val (.ref b450), .val (.ref b459), .val (.ref b469), .val (.int (1 : Int32)), .unset] [])) _
        refine XS.aload X517.here hx rfl (hb hby at_228) rfl rfl ?_
        show Steps p.tables e below (T517.setTop (mkF m 230 #[.val (.int p0), .val (.int p1), .val (.long q2), .second, .val (.long q3), .second, .val (.int p4), .val (.int p5), .val (.int (0 : Int32)), .val (.int (0 : Int32)), .val (.ref b434), .val (.ref b447), .val (.ref b450), .val (.ref b459), .val (.ref b469), .val (.int (1 : Int32)), .unset] [(.ref b434)])) _
        refine XS.aload X517.here hx rfl (hb hby at_230) rfl rfl ?_
        show Steps p.tables e below (T517.setTop (mkF m 232 #[.val (.int p0), .val (.int p1), .val (.long q2), .second, .val (.long q3), .second, .val (.int p4), .val (.int p5), .val (.int (0 : Int32)), .val (.int (0 : Int32)), .val (.ref b434), .val (.ref b447), .val (.ref b450), .val (.ref b459), .val (.ref b469), .val (.int (1 : Int32)), .unset] [(.ref b450), (.ref b434)])) _
        refine XS.aload X517.here hx rfl (hb hby at_232) rfl rfl ?_
        show Steps p.tables e below (T517.setTop (mkF m 234 #[.val (.int p0), .val (.int p1), .val (.long q2), .second, .val (.long q3), .second, .val (.int p4), .val (.int p5), .val (.int (0 : Int32)), .val (.int (0 : Int32)), .val (.ref b434), .val (.ref b447), .val (.ref b450), .val (.ref b459), .val (.ref b469), .val (.int (1 : Int32)), .unset] [(.ref b469), (.ref b450), (.ref b434)])) _
        refine XS.iconst X517.here hx rfl (hb hby at_234) ?_
        show Steps p.tables e below (T517.setTop (mkF m 235 #[.val (.int p0), .val (.int p1), .val (.long q2), .second, .val (.long q3), .second, .val (.int p4), .val (.int p5), .val (.int (0 : Int32)), .val (.int (0 : Int32)), .val (.ref b434), .val (.ref b447), .val (.ref b450), .val (.ref b459), .val (.ref b469), .val (.int (1 : Int32)), .unset] [(.int (0 : Int32)), (.ref b469), (.ref b450), (.ref b434)])) _
        refine XS.lload X517.here hx rfl (hb hby at_235) rfl ?_
        show Steps p.tables e below (T517.setTop (mkF m 237 #[.val (.int p0), .val (.int p1), .val (.long q2), .second, .val (.long q3), .second, .val (.int p4), .val (.int p5), .val (.int (0 : Int32)), .val (.int (0 : Int32)), .val (.ref b434), .val (.ref b447), .val (.ref b450), .val (.ref b459), .val (.ref b469), .val (.int (1 : Int32)), .unset] [(.long q3), (.int (0 : Int32)), (.ref b469), (.ref b450), (.ref b434)])) _
        refine st522.trans ?_
        show Steps p.tables e below (T522.setTop (mkF m 240 #[.val (.int p0), .val (.int p1), .val (.long q2), .second, .val (.long q3), .second, .val (.int p4), .val (.int p5), .val (.int (0 : Int32)), .val (.int (0 : Int32)), .val (.ref b434), .val (.ref b447), .val (.ref b450), .val (.ref b459), .val (.ref b469), .val (.int (1 : Int32)), .unset] [])) _
        refine XS.aload X522.here hx rfl (hb hby at_240) rfl rfl ?_
        show Steps p.tables e below (T522.setTop (mkF m 242 #[.val (.int p0), .val (.int p1), .val (.long q2), .second, .val (.long q3), .second, .val (.int p4), .val (.int p5), .val (.int (0 : Int32)), .val (.int (0 : Int32)), .val (.ref b434), .val (.ref b447), .val (.ref b450), .val (.ref b459), .val (.ref b469), .val (.int (1 : Int32)), .unset] [(.ref b434)])) _
        refine st528.trans ?_
        show Steps p.tables e below (T528.setTop (mkF m 245 #[.val (.int p0), .val (.int p1), .val (.long q2), .second, .val (.long q3), .second, .val (.int p4), .val (.int p5), .val (.int (0 : Int32)), .val (.int (0 : Int32)), .val (.ref b434), .val (.ref b447), .val (.ref b450), .val (.ref b459), .val (.ref b469), .val (.int (1 : Int32)), .unset] [])) _
        refine XS.iload X528.here hx rfl (hb hby at_245) rfl ?_
        show Steps p.tables e below (T528.setTop (mkF m 247 #[.val (.int p0), .val (.int p1), .val (.long q2), .second, .val (.long q3), .second, .val (.int p4), .val (.int p5), .val (.int (0 : Int32)), .val (.int (0 : Int32)), .val (.ref b434), .val (.ref b447), .val (.ref b450), .val (.ref b459), .val (.ref b469), .val (.int (1 : Int32)), .unset] [(.int (1 : Int32))])) _
        refine XS.ifNo X528.here hx rfl (hb hby at_247) rfl ((if0 _ _).trans (feq (by decide : ¬ ((1 : Int32) = (0 : Int32)))).1) ?_
        show Steps p.tables e below (T528.setTop (mkF m 250 #[.val (.int p0), .val (.int p1), .val (.long q2), .second, .val (.long q3), .second, .val (.int p4), .val (.int p5), .val (.int (0 : Int32)), .val (.int (0 : Int32)), .val (.ref b434), .val (.ref b447), .val (.ref b450), .val (.ref b459), .val (.ref b469), .val (.int (1 : Int32)), .unset] [])) _
        refine XS.aload X528.here hx rfl (hb hby at_250) rfl rfl ?_
        show Steps p.tables e below (T528.setTop (mkF m 252 #[.val (.int p0), .val (.int p1), .val (.long q2), .second, .val (.long q3), .second, .val (.int p4), .val (.int p5), .val (.int (0 : Int32)), .val (.int (0 : Int32)), .val (.ref b434), .val (.ref b447), .val (.ref b450), .val (.ref b459), .val (.ref b469), .val (.int (1 : Int32)), .unset] [(.ref b447)])) _
        refine XS.iconst X528.here hx rfl (hb hby at_252) ?_
        show Steps p.tables e below (T528.setTop (mkF m 253 #[.val (.int p0), .val (.int p1), .val (.long q2), .second, .val (.long q3), .second, .val (.int p4), .val (.int p5), .val (.int (0 : Int32)), .val (.int (0 : Int32)), .val (.ref b434), .val (.ref b447), .val (.ref b450), .val (.ref b459), .val (.ref b469), .val (.int (1 : Int32)), .unset] [(.int (0 : Int32)), (.ref b447)])) _
        refine own_ldI X528 hx hZ rfl oAxi528 (i := 0) (by decide : (0 : Int32).toInt = ((0 : Nat) : Int)) (by decide) (own_i2l p0) (g := (mkF m 253 #[.val (.int p0), .val (.int p1), .val (.long q2), .second, .val (.long q3), .second, .val (.int p4), .val (.int p5), .val (.int (0 : Int32)), .val (.int (0 : Int32)), .val (.ref b434), .val (.ref b447), .val (.ref b450), .val (.ref b459), .val (.ref b469), .val (.int (1 : Int32)), .unset] [(.int (0 : Int32)), (.ref b447)])) rfl rfl (hb hby at_253) _ ?_
        show Steps p.tables e below (T528.setTop (mkF m 254 #[.val (.int p0), .val (.int p1), .val (.long q2), .second, .val (.long q3), .second, .val (.int p4), .val (.int p5), .val (.int (0 : Int32)), .val (.int (0 : Int32)), .val (.ref b434), .val (.ref b447), .val (.ref b450), .val (.ref b459), .val (.ref b469), .val (.int (1 : Int32)), .unset] [(.int p0)])) _
        refine XS.iloadN X528.here hx rfl (hb hby at_254) rfl ?_
        show Steps p.tables e below (T528.setTop (mkF m 255 #[.val (.int p0), .val (.int p1), .val (.long q2), .second, .val (.long q3), .second, .val (.int p4), .val (.int p5), .val (.int (0 : Int32)), .val (.int (0 : Int32)), .val (.ref b434), .val (.ref b447), .val (.ref b450), .val (.ref b459), .val (.ref b469), .val (.int (1 : Int32)), .unset] [(.int p0), (.int p0)])) _
        refine XS.icmpNo X528.here hx rfl (hb hby at_255) rfl (teq hc255_529).2 ?_
        show Steps p.tables e below (T528.setTop (mkF m 258 #[.val (.int p0), .val (.int p1), .val (.long q2), .second, .val (.long q3), .second, .val (.int p4), .val (.int p5), .val (.int (0 : Int32)), .val (.int (0 : Int32)), .val (.ref b434), .val (.ref b447), .val (.ref b450), .val (.ref b459), .val (.ref b469), .val (.int (1 : Int32)), .unset] [])) _
        refine XS.aload X528.here hx rfl (hb hby at_258) rfl rfl ?_
        show Steps p.tables e below (T528.setTop (mkF m 260 #[.val (.int p0), .val (.int p1), .val (.long q2), .second, .val (.long q3), .second, .val (.int p4), .val (.int p5), .val (.int (0 : Int32)), .val (.int (0 : Int32)), .val (.ref b434), .val (.ref b447), .val (.ref b450), .val (.ref b459), .val (.ref b469), .val (.int (1 : Int32)), .unset] [(.ref b447)])) _
        refine XS.iconst X528.here hx rfl (hb hby at_260) ?_
        show Steps p.tables e below (T528.setTop (mkF m 261 #[.val (.int p0), .val (.int p1), .val (.long q2), .second, .val (.long q3), .second, .val (.int p4), .val (.int p5), .val (.int (0 : Int32)), .val (.int (0 : Int32)), .val (.ref b434), .val (.ref b447), .val (.ref b450), .val (.ref b459), .val (.ref b469), .val (.int (1 : Int32)), .unset] [(.int (1 : Int32)), (.ref b447)])) _
        refine own_ldI X528 hx hZ rfl oAxi528 (i := 1) (by decide : (1 : Int32).toInt = ((1 : Nat) : Int)) (by decide) rfl (g := (mkF m 261 #[.val (.int p0), .val (.int p1), .val (.long q2), .second, .val (.long q3), .second, .val (.int p4), .val (.int p5), .val (.int (0 : Int32)), .val (.int (0 : Int32)), .val (.ref b434), .val (.ref b447), .val (.ref b450), .val (.ref b459), .val (.ref b469), .val (.int (1 : Int32)), .unset] [(.int (1 : Int32)), (.ref b447)])) rfl rfl (hb hby at_261) _ ?_
        show Steps p.tables e below (T528.setTop (mkF m 262 #[.val (.int p0), .val (.int p1), .val (.long q2), .second, .val (.long q3), .second, .val (.int p4), .val (.int p5), .val (.int (0 : Int32)), .val (.int (0 : Int32)), .val (.ref b434), .val (.ref b447), .val (.ref b450), .val (.ref b459), .val (.ref b469), .val (.int (1 : Int32)), .unset] [(.int p1)])) _
        refine XS.iloadN X528.here hx rfl (hb hby at_262) rfl ?_
        show Steps p.tables e below (T528.setTop (mkF m 263 #[.val (.int p0), .val (.int p1), .val (.long q2), .second, .val (.long q3), .second, .val (.int p4), .val (.int p5), .val (.int (0 : Int32)), .val (.int (0 : Int32)), .val (.ref b434), .val (.ref b447), .val (.ref b450), .val (.ref b459), .val (.ref b469), .val (.int (1 : Int32)), .unset] [(.int p1), (.int p1)])) _
        refine XS.icmpNo X528.here hx rfl (hb hby at_263) rfl (teq hc263_530).2 ?_
        show Steps p.tables e below (T528.setTop (mkF m 266 #[.val (.int p0), .val (.int p1), .val (.long q2), .second, .val (.long q3), .second, .val (.int p4), .val (.int p5), .val (.int (0 : Int32)), .val (.int (0 : Int32)), .val (.ref b434), .val (.ref b447), .val (.ref b450), .val (.ref b459), .val (.ref b469), .val (.int (1 : Int32)), .unset] [])) _
        refine XS.aload X528.here hx rfl (hb hby at_266) rfl rfl ?_
        show Steps p.tables e below (T528.setTop (mkF m 268 #[.val (.int p0), .val (.int p1), .val (.long q2), .second, .val (.long q3), .second, .val (.int p4), .val (.int p5), .val (.int (0 : Int32)), .val (.int (0 : Int32)), .val (.ref b434), .val (.ref b447), .val (.ref b450), .val (.ref b459), .val (.ref b469), .val (.int (1 : Int32)), .unset] [(.ref b450)])) _
        refine XS.iconst X528.here hx rfl (hb hby at_268) ?_
        show Steps p.tables e below (T528.setTop (mkF m 269 #[.val (.int p0), .val (.int p1), .val (.long q2), .second, .val (.long q3), .second, .val (.int p4), .val (.int p5), .val (.int (0 : Int32)), .val (.int (0 : Int32)), .val (.ref b434), .val (.ref b447), .val (.ref b450), .val (.ref b459), .val (.ref b469), .val (.int (1 : Int32)), .unset] [(.int (0 : Int32)), (.ref b450)])) _
        refine own_ldJ X528 hx hZ rfl oAxj528 (i := 0) (by decide : (0 : Int32).toInt = ((0 : Nat) : Int)) (by decide) rfl (g := (mkF m 269 #[.val (.int p0), .val (.int p1), .val (.long q2), .second, .val (.long q3), .second, .val (.int p4), .val (.int p5), .val (.int (0 : Int32)), .val (.int (0 : Int32)), .val (.ref b434), .val (.ref b447), .val (.ref b450), .val (.ref b459), .val (.ref b469), .val (.int (1 : Int32)), .unset] [(.int (0 : Int32)), (.ref b450)])) rfl rfl (hb hby at_269) _ ?_
        show Steps p.tables e below (T528.setTop (mkF m 270 #[.val (.int p0), .val (.int p1), .val (.long q2), .second, .val (.long q3), .second, .val (.int p4), .val (.int p5), .val (.int (0 : Int32)), .val (.int (0 : Int32)), .val (.ref b434), .val (.ref b447), .val (.ref b450), .val (.ref b459), .val (.ref b469), .val (.int (1 : Int32)), .unset] [(.long q2)])) _
        exact kt
      have hc272_532 : q2 = q2 := rfl
      have hc282_533 : q3 = q3 := rfl
      have f535 := (f524.keep oK528)
      obtain ⟨cq534, kq534, q534a, q534b, q534c⟩ := isOf hZ rfl f535
      obtain ⟨_, _, ⟨T534, L534, kc534, nc534⟩, -, X534, ⟨Lc534, hQ534, l534, y534, z534⟩, st534⟩ := X528.virtualBack hx (y := (⟨"com/example/tablewise/tablewise/propagation/Trail", "level", "()I"⟩ : MethodName)) (z := (⟨"com/example/tablewise/tablewise/propagation/Trail", "level", "()I"⟩ : MethodName)) hown (mvT hZ (hw _ (List.mem_of_getElem? (i := 61) rfl))) (mvT hZ (hw _ (List.mem_of_getElem? (i := 62) rfl))) (notFace_of_selects (args := #[]) (mvT hZ (hw _ (List.mem_of_getElem? (i := 64) rfl)))) (mvT hZ (hw _ (List.mem_of_getElem? (i := 64) rfl))) (mvT hZ (hw _ (List.mem_of_getElem? (i := 63) rfl))) (by decide) (backOf (W := 0) (rm8 l Z a0 hw [] b434 (((0 : Int32) + (1 : Int32)) - (1 : Int32)) T528.heap n0 oFalevel528) hZ (hw _ (List.mem_of_getElem? (i := 65) rfl)) (hw _ (List.mem_of_getElem? (i := 2) rfl)) (by decide) (by decide)) q534a q534c (g := (mkF m 287 #[.val (.int p0), .val (.int p1), .val (.long q2), .second, .val (.long q3), .second, .val (.int p4), .val (.int p5), .val (.int (0 : Int32)), .val (.int (0 : Int32)), .val (.ref b434), .val (.ref b447), .val (.ref b450), .val (.ref b459), .val (.ref b469), .val (.int (1 : Int32)), .unset] [(.ref b434)])) rfl (by rw [hml]; rfl) (Steps.refl _) (argsL := []) (rest := []) (lenOf pd_4 rfl) rfl (by show 2 * 0 + _ ≤ _; exact Nat.le_of_eq rfl) (hb hby at_287) (fun _ _ => ⟨rfl, rfl, (by decide : 11 + 0 ≤ _), (by decide : 306 + 0 ≤ _)⟩)
      dsimp only [Pt.U, Pt.locs, Pt.cells, Pt.slots] at X534 l534 y534 z534 st534 hQ534
      rw [l534, y534, z534] at X534
      replace X534 : Stand p l e room_1 s m #[(.int p0), (.int p1), (.long q2), (.long q3), (.int p4), (.int p5)] below meth c T534 _ 11 306 := X534
      obtain ⟨rfl, Nq534, eq534⟩ := hQ534
      have N534 := Fr.app N528 Nq534
      have hc290_536 : (((0 : Int32) + (1 : Int32)) - (1 : Int32)) = (0 : Int32) := (by decide)
      have k537 : ∀ tg_, Steps p.tables e below (T534.setTop (mkF m 298 #[.val (.int p0), .val (.int p1), .val (.long q2), .second, .val (.long q3), .second, .val (.int p4), .val (.int p5), .val (.int (0 : Int32)), .val (.int (0 : Int32)), .val (.ref b434), .val (.ref b447), .val (.ref b450), .val (.ref b459), .val (.ref b469), .val (.int (1 : Int32)), .unset] [(.int (1 : Int32))])) tg_ → Steps p.tables e below (s₁.setTop (entryFrame m #[(.int p0), (.int p1), (.long q2), (.long q3), (.int p4), (.int p5)] maxLocals)) tg_ := by
        intro tg_ kt
        refine k531 tg_ ?_
        refine XS.lloadN X528.here hx rfl (hb hby at_270) rfl ?_
        show Steps p.tables e below (T528.setTop (mkF m 271 #[.val (.int p0), .val (.int p1), .val (.long q2), .second, .val (.long q3), .second, .val (.int p4), .val (.int p5), .val (.int (0 : Int32)), .val (.int (0 : Int32)), .val (.ref b434), .val (.ref b447), .val (.ref b450), .val (.ref b459), .val (.ref b469), .val (.int (1 : Int32)), .unset] [(.long q2), (.long q2)])) _
        refine XS.lcmp X528.here hx rfl (hb hby at_271) rfl ?_
        show Steps p.tables e below (T528.setTop (mkF m 272 #[.val (.int p0), .val (.int p1), .val (.long q2), .second, .val (.long q3), .second, .val (.int p4), .val (.int p5), .val (.int (0 : Int32)), .val (.int (0 : Int32)), .val (.ref b434), .val (.ref b447), .val (.ref b450), .val (.ref b459), .val (.ref b469), .val (.int (1 : Int32)), .unset] [(.int (lcmpW q2 q2))])) _
        refine XS.ifNo X528.here hx rfl (hb hby at_272) rfl ((if0 _ _).trans (teq ((show ((lcmpW q2 q2) = 0) ↔ (q2 = q2) from lw_eq q2 q2).mpr hc272_532)).2) ?_
        show Steps p.tables e below (T528.setTop (mkF m 275 #[.val (.int p0), .val (.int p1), .val (.long q2), .second, .val (.long q3), .second, .val (.int p4), .val (.int p5), .val (.int (0 : Int32)), .val (.int (0 : Int32)), .val (.ref b434), .val (.ref b447), .val (.ref b450), .val (.ref b459), .val (.ref b469), .val (.int (1 : Int32)), .unset] [])) _
        refine XS.aload X528.here hx rfl (hb hby at_275) rfl rfl ?_
        show Steps p.tables e below (T528.setTop (mkF m 277 #[.val (.int p0), .val (.int p1), .val (.long q2), .second, .val (.long q3), .second, .val (.int p4), .val (.int p5), .val (.int (0 : Int32)), .val (.int (0 : Int32)), .val (.ref b434), .val (.ref b447), .val (.ref b450), .val (.ref b459), .val (.ref b469), .val (.int (1 : Int32)), .unset] [(.ref b450)])) _
        refine XS.iconst X528.here hx rfl (hb hby at_277) ?_
        show Steps p.tables e below (T528.setTop (mkF m 278 #[.val (.int p0), .val (.int p1), .val (.long q2), .second, .val (.long q3), .second, .val (.int p4), .val (.int p5), .val (.int (0 : Int32)), .val (.int (0 : Int32)), .val (.ref b434), .val (.ref b447), .val (.ref b450), .val (.ref b459), .val (.ref b469), .val (.int (1 : Int32)), .unset] [(.int (1 : Int32)), (.ref b450)])) _
        refine own_ldJ X528 hx hZ rfl oAxj528 (i := 1) (by decide : (1 : Int32).toInt = ((1 : Nat) : Int)) (by decide) rfl (g := (mkF m 278 #[.val (.int p0), .val (.int p1), .val (.long q2), .second, .val (.long q3), .second, .val (.int p4), .val (.int p5), .val (.int (0 : Int32)), .val (.int (0 : Int32)), .val (.ref b434), .val (.ref b447), .val (.ref b450), .val (.ref b459), .val (.ref b469), .val (.int (1 : Int32)), .unset] [(.int (1 : Int32)), (.ref b450)])) rfl rfl (hb hby at_278) _ ?_
        show Steps p.tables e below (T528.setTop (mkF m 279 #[.val (.int p0), .val (.int p1), .val (.long q2), .second, .val (.long q3), .second, .val (.int p4), .val (.int p5), .val (.int (0 : Int32)), .val (.int (0 : Int32)), .val (.ref b434), .val (.ref b447), .val (.ref b450), .val (.ref b459), .val (.ref b469), .val (.int (1 : Int32)), .unset] [(.long q3)])) _
        refine XS.lload X528.here hx rfl (hb hby at_279) rfl ?_
        show Steps p.tables e below (T528.setTop (mkF m 281 #[.val (.int p0), .val (.int p1), .val (.long q2), .second, .val (.long q3), .second, .val (.int p4), .val (.int p5), .val (.int (0 : Int32)), .val (.int (0 : Int32)), .val (.ref b434), .val (.ref b447), .val (.ref b450), .val (.ref b459), .val (.ref b469), .val (.int (1 : Int32)), .unset] [(.long q3), (.long q3)])) _
        refine XS.lcmp X528.here hx rfl (hb hby at_281) rfl ?_
        show Steps p.tables e below (T528.setTop (mkF m 282 #[.val (.int p0), .val (.int p1), .val (.long q2), .second, .val (.long q3), .second, .val (.int p4), .val (.int p5), .val (.int (0 : Int32)), .val (.int (0 : Int32)), .val (.ref b434), .val (.ref b447), .val (.ref b450), .val (.ref b459), .val (.ref b469), .val (.int (1 : Int32)), .unset] [(.int (lcmpW q3 q3))])) _
        refine XS.ifNo X528.here hx rfl (hb hby at_282) rfl ((if0 _ _).trans (teq ((show ((lcmpW q3 q3) = 0) ↔ (q3 = q3) from lw_eq q3 q3).mpr hc282_533)).2) ?_
        show Steps p.tables e below (T528.setTop (mkF m 285 #[.val (.int p0), .val (.int p1), .val (.long q2), .second, .val (.long q3), .second, .val (.int p4), .val (.int p5), .val (.int (0 : Int32)), .val (.int (0 : Int32)), .val (.ref b434), .val (.ref b447), .val (.ref b450), .val (.ref b459), .val (.ref b469), .val (.int (1 : Int32)), .unset] [])) _
        refine XS.aload X528.here hx rfl (hb hby at_285) rfl rfl ?_
        show Steps p.tables e below (T528.setTop (mkF m 287 #[.val (.int p0), .val (.int p1), .val (.long q2), .second, .val (.long q3), .second, .val (.int p4), .val (.int p5), .val (.int (0 : Int32)), .val (.int (0 : Int32)), .val (.ref b434), .val (.ref b447), .val (.ref b450), .val (.ref b459), .val (.ref b469), .val (.int (1 : Int32)), .unset] [(.ref b434)])) _
        refine st534.trans ?_
        show Steps p.tables e below (T534.setTop (mkF m 290 #[.val (.int p0), .val (.int p1), .val (.long q2), .second, .val (.long q3), .second, .val (.int p4), .val (.int p5), .val (.int (0 : Int32)), .val (.int (0 : Int32)), .val (.ref b434), .val (.ref b447), .val (.ref b450), .val (.ref b459), .val (.ref b469), .val (.int (1 : Int32)), .unset] [(.int (((0 : Int32) + (1 : Int32)) - (1 : Int32)))])) _
        refine XS.ifNo X534.here hx rfl (hb hby at_290) rfl ((if0 _ _).trans (teq hc290_536).2) ?_
        show Steps p.tables e below (T534.setTop (mkF m 293 #[.val (.int p0), .val (.int p1), .val (.long q2), .second, .val (.long q3), .second, .val (.int p4), .val (.int p5), .val (.int (0 : Int32)), .val (.int (0 : Int32)), .val (.ref b434), .val (.ref b447), .val (.ref b450), .val (.ref b459), .val (.ref b469), .val (.int (1 : Int32)), .unset] [])) _
        refine XS.iconst X534.here hx rfl (hb hby at_293) ?_
        show Steps p.tables e below (T534.setTop (mkF m 294 #[.val (.int p0), .val (.int p1), .val (.long q2), .second, .val (.long q3), .second, .val (.int p4), .val (.int p5), .val (.int (0 : Int32)), .val (.int (0 : Int32)), .val (.ref b434), .val (.ref b447), .val (.ref b450), .val (.ref b459), .val (.ref b469), .val (.int (1 : Int32)), .unset] [(.int (1 : Int32))])) _
        refine XS.goto X534.here hx rfl (pc0 := 294) (pc' := 298) rfl (hb hby at_294) (by decide) (by decide) ?_
        show Steps p.tables e below (T534.setTop (mkF m 298 #[.val (.int p0), .val (.int p1), .val (.long q2), .second, .val (.long q3), .second, .val (.int p4), .val (.int p5), .val (.int (0 : Int32)), .val (.int (0 : Int32)), .val (.ref b434), .val (.ref b447), .val (.ref b450), .val (.ref b459), .val (.ref b469), .val (.int (1 : Int32)), .unset] [(.int (1 : Int32))])) _
        exact kt
      obtain ⟨fs, hr, hrun, hended, hW, hsame⟩ := X534.leave (v := some (.int (1 : Int32))) (fun h => by rw [Bd.returns] at h; cases h) (hlocks := by first | exact BodyLoose.notSynchronized Bd | exact Body.notSynchronized Bd)
      refine ⟨_, _, k537 _ (retN X534 hx (t := .boolean) Bd.returns (by simp) (hb hby at_298) hr), hrun, hended, _, _, rfl, ?_, ⟨_, rfl⟩, hW, hsame.mono (by decide) (by decide)⟩
      show Q0 Z p0 p1 q2 q3 p4 p5 h0 n0 _ T534.heap _
      rw [eq534]
      exact ⟨rfl, N534⟩
    · obtain ⟨T538, h538, X538, e538, E538, A538, D538, -, st538⟩ := newO X0 hx hZ hown (hw _ (List.mem_of_getElem? (i := 0) rfl)) (hw _ (List.mem_of_getElem? (i := 1) rfl)) (hw _ (List.mem_of_getElem? (i := 2) rfl)) e0 (g := (mkF m 28 #[.val (.int p0), .val (.int p1), .val (.long q2), .second, .val (.long q3), .second, .val (.int p4), .val (.int p5), .val (.int (0 : Int32)), .val (.int (1 : Int32)), .unset, .unset, .unset, .unset, .unset, .unset, .unset] [])) rfl (hb hby at_28) (by decide) (by decide)
      obtain ⟨b538, g538⟩ : ∃ z, z = h0.size := ⟨_, rfl⟩
      rw [← g538] at A538 D538 st538
      have ge_b538 : n0 ≤ b538 := Nat.le_trans Z0 (Nat.le_of_eq g538.symm)
      have F539 : Fld Z h538 b538 "com/example/tablewise/tablewise/propagation/Trail" "intArrays" "[[I" .null := D538 (Or.inl (hw _ (List.mem_of_getElem? (i := 12) rfl))) (ty := (.array (.array .int))) (by decide)
      have F540 : Fld Z h538 b538 "com/example/tablewise/tablewise/propagation/Trail" "longArrays" "[[J" .null := D538 (Or.inl (hw _ (List.mem_of_getElem? (i := 16) rfl))) (ty := (.array (.array .long))) (by decide)
      have F541 : Fld Z h538 b538 "com/example/tablewise/tablewise/propagation/Trail" "slotIndices" "[I" .null := D538 (Or.inl (hw _ (List.mem_of_getElem? (i := 19) rfl))) (ty := (.array .int)) (by decide)
      have F542 : Fld Z h538 b538 "com/example/tablewise/tablewise/propagation/Trail" "oldValues" "[J" .null := D538 (Or.inl (hw _ (List.mem_of_getElem? (i := 22) rfl))) (ty := (.array .long)) (by decide)
      have F543 : Fld Z h538 b538 "com/example/tablewise/tablewise/propagation/Trail" "levelStarts" "[I" .null := D538 (Or.inl (hw _ (List.mem_of_getElem? (i := 24) rfl))) (ty := (.array .int)) (by decide)
      have F544 : Fld Z h538 b538 "com/example/tablewise/tablewise/propagation/Trail" "outerStamps" "[J" .null := D538 (Or.inl (hw _ (List.mem_of_getElem? (i := 26) rfl))) (ty := (.array .long)) (by decide)
      have F545 : Fld Z h538 b538 "com/example/tablewise/tablewise/propagation/Trail" "level" "I" (.int (0 : Int32)) := D538 (Or.inl (hw _ (List.mem_of_getElem? (i := 33) rfl))) (ty := .int) (by decide)
      have F546 : Fld Z h538 b538 "com/example/tablewise/tablewise/propagation/Trail" "entries" "I" (.int (0 : Int32)) := D538 (Or.inl (hw _ (List.mem_of_getElem? (i := 35) rfl))) (ty := .int) (by decide)
      have F547 : Fld Z h538 b538 "com/example/tablewise/tablewise/propagation/Trail" "stamp" "J" (.long (0 : Int64)) := D538 (Or.inl (hw _ (List.mem_of_getElem? (i := 37) rfl))) (ty := .long) (by decide)
      have F548 : Fld Z h538 b538 "com/example/tablewise/tablewise/propagation/Trail" "lastStamp" "J" (.long (0 : Int64)) := D538 (Or.inl (hw _ (List.mem_of_getElem? (i := 39) rfl))) (ty := .long) (by decide)
      have f549 := (Nat.le_trans Z0 ((Keep.refl _ []).ext E538).1)
      obtain ⟨_, _, ⟨T550, L550, kc550, nc550⟩, -, X550, ⟨Lc550, hQ550, l550, y550, z550⟩, st550⟩ := X538.specialBack hx (y := (⟨"com/example/tablewise/tablewise/propagation/Trail", "<init>", "()V"⟩ : MethodName)) rfl hown (mvT hZ (hw _ (List.mem_of_getElem? (i := 3) rfl))) (mvT hZ (hw _ (List.mem_of_getElem? (i := 4) rfl))) (mvT hZ (hw _ (List.mem_of_getElem? (i := 5) rfl))) (by decide) (backOf (W := 1) (rm1 l Z a0 hw [] b538 h538 n0 f549 A538 F539 F540 F541 F542 F546 F543 F544 F545 F547 F548 ge_b538) hZ (hw _ (List.mem_of_getElem? (i := 5) rfl)) (hw _ (List.mem_of_getElem? (i := 2) rfl)) (by decide) (by decide)) (g := (mkF m 32 #[.val (.int p0), .val (.int p1), .val (.long q2), .second, .val (.long q3), .second, .val (.int p4), .val (.int p5), .val (.int (0 : Int32)), .val (.int (1 : Int32)), .unset, .unset, .unset, .unset, .unset, .unset, .unset] [(.ref b538), (.ref b538)])) rfl (by rw [hml]; rfl) (Steps.refl _) (a := b538) (argsL := []) (rest := [(.ref b538)]) (lenOf pd_0 rfl) rfl (by show 2 * 0 + _ ≤ _; exact Nat.le_of_eq rfl) (hb hby at_32) (fun _ _ => ⟨rfl, e538, (by decide : 1 + 6 ≤ _), (by decide : 10 + 288 ≤ _)⟩)
      dsimp only [Pt.U, Pt.locs, Pt.cells, Pt.slots] at X550 l550 y550 z550 st550 hQ550
      rw [l550, y550, z550] at X550
      replace X550 : Stand p l e room_1 s m #[(.int p0), (.int p1), (.long q2), (.long q3), (.int p4), (.int p5)] below meth c T550 _ 7 298 := X550
      obtain ⟨rfl, Nq550, oK550, oFaentries550, oFalevel550, oFastamp550, oFalastStamp550, m0_550⟩ := hQ550
      have N550 := Fr.app N0 Nq550
      obtain ⟨ia550, la550, si550, ov550, ls550, os550, Fi_ia, Fi_la, Fi_si, Fi_ov, Fi_ls, Fi_os, Vi_ia, Vi_la, Vi_si, Vi_ov, Vi_ls, Vi_os, gi_ia, gi_la, gi_si, gi_ov, gi_ls, gi_os, ni_a_ia, ni_a_la, ni_a_si, ni_a_ov, ni_a_ls, ni_a_os, ni_ia_la, ni_ia_si, ni_ia_ov, ni_ia_ls, ni_ia_os, ni_la_si, ni_la_ov, ni_la_ls, ni_la_os, ni_si_ov, ni_si_ls, ni_si_os, ni_ov_ls, ni_ov_os, ni_ls_os⟩ := m0_550
      obtain ⟨T551, h551, kA551, X551, e551, E551, A551, Ex551, st551⟩ := newPE X550 hx hZ (hw _ (List.mem_of_getElem? (i := 17) rfl)) rfl (g := (mkF m 38 #[.val (.int p0), .val (.int p1), .val (.long q2), .second, .val (.long q3), .second, .val (.int p4), .val (.int p5), .val (.int (0 : Int32)), .val (.int (1 : Int32)), .val (.ref b538), .unset, .unset, .unset, .unset, .unset, .unset] [(.int (2 : Int32))])) rfl (hb hby at_38) rfl (by decide) (cap := 2) (by decide) (by decide) (by decide) (by decide) (ad := "[I") (by decide)
      obtain ⟨b551, g551⟩ : ∃ z, z = T550.heap.size := ⟨_, rfl⟩
      rw [← g551] at A551 st551 Ex551
      have f552 := (A538.keep oK550)
      have ne_b538_b551 : b538 ≠ b551 := Nat.ne_of_lt (Nat.lt_of_lt_of_le (f552).lt (Nat.le_of_eq g551.symm))
      have ne_ia550_b551 : ia550 ≠ b551 := Nat.ne_of_lt (Nat.lt_of_lt_of_le (Vi_ia).lt (Nat.le_of_eq g551.symm))
      have ne_la550_b551 : la550 ≠ b551 := Nat.ne_of_lt (Nat.lt_of_lt_of_le (Vi_la).lt (Nat.le_of_eq g551.symm))
      have ne_si550_b551 : si550 ≠ b551 := Nat.ne_of_lt (Nat.lt_of_lt_of_le (Vi_si).lt (Nat.le_of_eq g551.symm))
      have ne_ov550_b551 : ov550 ≠ b551 := Nat.ne_of_lt (Nat.lt_of_lt_of_le (Vi_ov).lt (Nat.le_of_eq g551.symm))
      have ne_ls550_b551 : ls550 ≠ b551 := Nat.ne_of_lt (Nat.lt_of_lt_of_le (Vi_ls).lt (Nat.le_of_eq g551.symm))
      have ne_os550_b551 : os550 ≠ b551 := Nat.ne_of_lt (Nat.lt_of_lt_of_le (Vi_os).lt (Nat.le_of_eq g551.symm))
      have f553 := (Nat.le_trans f549 oK550.1)
      have ge_b551 : n0 ≤ b551 := Nat.le_trans f553 (Nat.le_of_eq g551.symm)
      have V551 : own_AI Z h551 b551 .int 2 (fun _ => 0) := own_newI (by decide : (2 : Int32).toInt = ((2 : Nat) : Int)) A551 rfl
      obtain ⟨T554, h554, kA554, X554, e554, E554, A554, Ex554, st554⟩ := newPE X551 hx hZ (hw _ (List.mem_of_getElem? (i := 20) rfl)) e551 (g := (mkF m 43 #[.val (.int p0), .val (.int p1), .val (.long q2), .second, .val (.long q3), .second, .val (.int p4), .val (.int p5), .val (.int (0 : Int32)), .val (.int (1 : Int32)), .val (.ref b538), .val (.ref b551), .unset, .unset, .unset, .unset, .unset] [(.int (2 : Int32))])) rfl (hb hby at_43) rfl (by decide) (cap := 2) (by decide) (by decide) (by decide) (by decide) (ad := "[J") (by decide)
      obtain ⟨b554, g554⟩ : ∃ z, z = h551.size := ⟨_, rfl⟩
      rw [← g554] at A554 st554 Ex554
      have f555 := (f552.keep ((Keep.refl _ []).ext E551))
      have ne_b538_b554 : b538 ≠ b554 := Nat.ne_of_lt (Nat.lt_of_lt_of_le (f555).lt (Nat.le_of_eq g554.symm))
      have f556 := (Vi_ia.keep ((Keep.refl _ []).ext E551) nin0)
      have ne_ia550_b554 : ia550 ≠ b554 := Nat.ne_of_lt (Nat.lt_of_lt_of_le (f556).lt (Nat.le_of_eq g554.symm))
      have f557 := (Vi_la.keep ((Keep.refl _ []).ext E551) nin0)
      have ne_la550_b554 : la550 ≠ b554 := Nat.ne_of_lt (Nat.lt_of_lt_of_le (f557).lt (Nat.le_of_eq g554.symm))
      have f558 := (Vi_si.keep ((Keep.refl _ []).ext E551) nin0)
      have ne_si550_b554 : si550 ≠ b554 := Nat.ne_of_lt (Nat.lt_of_lt_of_le (f558).lt (Nat.le_of_eq g554.symm))
      have f559 := (Vi_ov.keep ((Keep.refl _ []).ext E551) nin0)
      have ne_ov550_b554 : ov550 ≠ b554 := Nat.ne_of_lt (Nat.lt_of_lt_of_le (f559).lt (Nat.le_of_eq g554.symm))
      have f560 := (Vi_ls.keep ((Keep.refl _ []).ext E551) nin0)
      have ne_ls550_b554 : ls550 ≠ b554 := Nat.ne_of_lt (Nat.lt_of_lt_of_le (f560).lt (Nat.le_of_eq g554.symm))
      have f561 := (Vi_os.keep ((Keep.refl _ []).ext E551) nin0)
      have ne_os550_b554 : os550 ≠ b554 := Nat.ne_of_lt (Nat.lt_of_lt_of_le (f561).lt (Nat.le_of_eq g554.symm))
      have ne_b551_b554 : b551 ≠ b554 := Nat.ne_of_lt (Nat.lt_of_lt_of_le (Ex551).lt (Nat.le_of_eq g554.symm))
      have f562 := (Nat.le_trans f553 ((Keep.refl _ []).ext E551).1)
      have ge_b554 : n0 ≤ b554 := Nat.le_trans f562 (Nat.le_of_eq g554.symm)
      have V554 : own_AL Z h554 b554 2 (fun _ => 0) := own_newL (by decide : (2 : Int32).toInt = ((2 : Nat) : Int)) A554
      obtain ⟨T563, h563, kA563, X563, e563, E563, A563, Ex563, st563⟩ := newPE X554 hx hZ (hw _ (List.mem_of_getElem? (i := 20) rfl)) e554 (g := (mkF m 48 #[.val (.int p0), .val (.int p1), .val (.long q2), .second, .val (.long q3), .second, .val (.int p4), .val (.int p5), .val (.int (0 : Int32)), .val (.int (1 : Int32)), .val (.ref b538), .val (.ref b551), .val (.ref b554), .unset, .unset, .unset, .unset] [(.int (2 : Int32))])) rfl (hb hby at_48) rfl (by decide) (cap := 2) (by decide) (by decide) (by decide) (by decide) (ad := "[J") (by decide)
      obtain ⟨b563, g563⟩ : ∃ z, z = h554.size := ⟨_, rfl⟩
      rw [← g563] at A563 st563 Ex563
      have f564 := (f555.keep ((Keep.refl _ []).ext E554))
      have ne_b538_b563 : b538 ≠ b563 := Nat.ne_of_lt (Nat.lt_of_lt_of_le (f564).lt (Nat.le_of_eq g563.symm))
      have f565 := (f556.keep ((Keep.refl _ []).ext E554) nin0)
      have ne_ia550_b563 : ia550 ≠ b563 := Nat.ne_of_lt (Nat.lt_of_lt_of_le (f565).lt (Nat.le_of_eq g563.symm))
      have f566 := (f557.keep ((Keep.refl _ []).ext E554) nin0)
      have ne_la550_b563 : la550 ≠ b563 := Nat.ne_of_lt (Nat.lt_of_lt_of_le (f566).lt (Nat.le_of_eq g563.symm))
      have f567 := (f558.keep ((Keep.refl _ []).ext E554) nin0)
      have ne_si550_b563 : si550 ≠ b563 := Nat.ne_of_lt (Nat.lt_of_lt_of_le (f567).lt (Nat.le_of_eq g563.symm))
      have f568 := (f559.keep ((Keep.refl _ []).ext E554) nin0)
      have ne_ov550_b563 : ov550 ≠ b563 := Nat.ne_of_lt (Nat.lt_of_lt_of_le (f568).lt (Nat.le_of_eq g563.symm))
      have f569 := (f560.keep ((Keep.refl _ []).ext E554) nin0)
      have ne_ls550_b563 : ls550 ≠ b563 := Nat.ne_of_lt (Nat.lt_of_lt_of_le (f569).lt (Nat.le_of_eq g563.symm))
      have f570 := (f561.keep ((Keep.refl _ []).ext E554) nin0)
      have ne_os550_b563 : os550 ≠ b563 := Nat.ne_of_lt (Nat.lt_of_lt_of_le (f570).lt (Nat.le_of_eq g563.symm))
      have f571 := (Ex551.keep ((Keep.refl _ []).ext E554))
      have ne_b551_b563 : b551 ≠ b563 := Nat.ne_of_lt (Nat.lt_of_lt_of_le (f571).lt (Nat.le_of_eq g563.symm))
      have ne_b554_b563 : b554 ≠ b563 := Nat.ne_of_lt (Nat.lt_of_lt_of_le (Ex554).lt (Nat.le_of_eq g563.symm))
      have f572 := (Nat.le_trans f562 ((Keep.refl _ []).ext E554).1)
      have ge_b563 : n0 ≤ b563 := Nat.le_trans f572 (Nat.le_of_eq g563.symm)
      have V563 : own_AL Z h563 b563 2 (fun _ => 0) := own_newL (by decide : (2 : Int32).toInt = ((2 : Nat) : Int)) A563
      obtain ⟨T573, h573, kA573, X573, e573, E573, A573, Ex573, st573⟩ := newPE X563 hx hZ (hw _ (List.mem_of_getElem? (i := 20) rfl)) e563 (g := (mkF m 53 #[.val (.int p0), .val (.int p1), .val (.long q2), .second, .val (.long q3), .second, .val (.int p4), .val (.int p5), .val (.int (0 : Int32)), .val (.int (1 : Int32)), .val (.ref b538), .val (.ref b551), .val (.ref b554), .val (.ref b563), .unset, .unset, .unset] [(.int (2 : Int32))])) rfl (hb hby at_53) rfl (by decide) (cap := 2) (by decide) (by decide) (by decide) (by decide) (ad := "[J") (by decide)
      obtain ⟨b573, g573⟩ : ∃ z, z = h563.size := ⟨_, rfl⟩
      rw [← g573] at A573 st573 Ex573
      have f574 := (f564.keep ((Keep.refl _ []).ext E563))
      have ne_b538_b573 : b538 ≠ b573 := Nat.ne_of_lt (Nat.lt_of_lt_of_le (f574).lt (Nat.le_of_eq g573.symm))
      have f575 := (f565.keep ((Keep.refl _ []).ext E563) nin0)
      have ne_ia550_b573 : ia550 ≠ b573 := Nat.ne_of_lt (Nat.lt_of_lt_of_le (f575).lt (Nat.le_of_eq g573.symm))
      have f576 := (f566.keep ((Keep.refl _ []).ext E563) nin0)
      have ne_la550_b573 : la550 ≠ b573 := Nat.ne_of_lt (Nat.lt_of_lt_of_le (f576).lt (Nat.le_of_eq g573.symm))
      have f577 := (f567.keep ((Keep.refl _ []).ext E563) nin0)
      have ne_si550_b573 : si550 ≠ b573 := Nat.ne_of_lt (Nat.lt_of_lt_of_le (f577).lt (Nat.le_of_eq g573.symm))
      have f578 := (f568.keep ((Keep.refl _ []).ext E563) nin0)
      have ne_ov550_b573 : ov550 ≠ b573 := Nat.ne_of_lt (Nat.lt_of_lt_of_le (f578).lt (Nat.le_of_eq g573.symm))
      have f579 := (f569.keep ((Keep.refl _ []).ext E563) nin0)
      have ne_ls550_b573 : ls550 ≠ b573 := Nat.ne_of_lt (Nat.lt_of_lt_of_le (f579).lt (Nat.le_of_eq g573.symm))
      have f580 := (f570.keep ((Keep.refl _ []).ext E563) nin0)
      have ne_os550_b573 : os550 ≠ b573 := Nat.ne_of_lt (Nat.lt_of_lt_of_le (f580).lt (Nat.le_of_eq g573.symm))
      have f581 := (f571.keep ((Keep.refl _ []).ext E563))
      have ne_b551_b573 : b551 ≠ b573 := Nat.ne_of_lt (Nat.lt_of_lt_of_le (f581).lt (Nat.le_of_eq g573.symm))
      have f582 := (Ex554.keep ((Keep.refl _ []).ext E563))
      have ne_b554_b573 : b554 ≠ b573 := Nat.ne_of_lt (Nat.lt_of_lt_of_le (f582).lt (Nat.le_of_eq g573.symm))
      have ne_b563_b573 : b563 ≠ b573 := Nat.ne_of_lt (Nat.lt_of_lt_of_le (Ex563).lt (Nat.le_of_eq g573.symm))
      have f583 := (Nat.le_trans f572 ((Keep.refl _ []).ext E563).1)
      have ge_b573 : n0 ≤ b573 := Nat.le_trans f583 (Nat.le_of_eq g573.symm)
      have V573 : own_AL Z h573 b573 2 (fun _ => 0) := own_newL (by decide : (2 : Int32).toInt = ((2 : Nat) : Int)) A573
      have f584 := (((V551.keep ((Keep.refl _ []).ext E554) nin0).keep ((Keep.refl _ []).ext E563) nin0).keep ((Keep.refl _ []).ext E573) nin0)
      obtain ⟨T585, h585, X585, e585, W585, V585, st585⟩ := own_stI X573 hx hZ e573 f584 (i := 0) (by decide : (0 : Int32).toInt = ((0 : Nat) : Int)) (by decide) (g := (mkF m 61 #[.val (.int p0), .val (.int p1), .val (.long q2), .second, .val (.long q3), .second, .val (.int p4), .val (.int p5), .val (.int (0 : Int32)), .val (.int (1 : Int32)), .val (.ref b538), .val (.ref b551), .val (.ref b554), .val (.ref b563), .val (.ref b573), .unset, .unset] [(.int p0), (.int (0 : Int32)), (.ref b551)])) rfl rfl (hb hby at_61)
      have N585 := Fr.snoc X585 N550 ge_b551
      have k586 : ∀ tg_, Steps p.tables e below (T585.setTop (mkF m 65 #[.val (.int p0), .val (.int p1), .val (.long q2), .second, .val (.long q3), .second, .val (.int p4), .val (.int p5), .val (.int (0 : Int32)), .val (.int (1 : Int32)), .val (.ref b538), .val (.ref b551), .val (.ref b554), .val (.ref b563), .val (.ref b573), .unset, .unset] [(.int (1 : Int32)), (.ref b551)])) tg_ → Steps p.tables e below (s₁.setTop (entryFrame m #[(.int p0), (.int p1), (.long q2), (.long q3), (.int p4), (.int p5)] maxLocals)) tg_ := by
        intro tg_ kt
        refine k432 tg_ ?_
        refine XS.ifNo X0.here hx rfl (hb hby at_18) rfl ((if0 _ _).trans (feq hc18_433).1) ?_
        show Steps p.tables e below (s₁.setTop (mkF m 21 #[.val (.int p0), .val (.int p1), .val (.long q2), .second, .val (.long q3), .second, .val (.int p4), .val (.int p5), .val (.int (0 : Int32)), .unset, .unset, .unset, .unset, .unset, .unset, .unset, .unset] [])) _
        refine XS.iconst X0.here hx rfl (hb hby at_21) ?_
        show Steps p.tables e below (s₁.setTop (mkF m 22 #[.val (.int p0), .val (.int p1), .val (.long q2), .second, .val (.long q3), .second, .val (.int p4), .val (.int p5), .val (.int (0 : Int32)), .unset, .unset, .unset, .unset, .unset, .unset, .unset, .unset] [(.int (1 : Int32))])) _
        refine XS.goto X0.here hx rfl (pc0 := 22) (pc' := 26) rfl (hb hby at_22) (by decide) (by decide) ?_
        show Steps p.tables e below (s₁.setTop (mkF m 26 #[.val (.int p0), .val (.int p1), .val (.long q2), .second, .val (.long q3), .second, .val (.int p4), .val (.int p5), .val (.int (0 : Int32)), .unset, .unset, .unset, .unset, .unset, .unset, .unset, .unset] [(.int (1 : Int32))])) _
        refine XS.istore X0.here hx rfl (hb hby at_26) rfl (l' := #[.val (.int p0), .val (.int p1), .val (.long q2), .second, .val (.long q3), .second, .val (.int p4), .val (.int p5), .val (.int (0 : Int32)), .val (.int (1 : Int32)), .unset, .unset, .unset, .unset, .unset, .unset, .unset]) rfl ?_
        show Steps p.tables e below (s₁.setTop (mkF m 28 #[.val (.int p0), .val (.int p1), .val (.long q2), .second, .val (.long q3), .second, .val (.int p4), .val (.int p5), .val (.int (0 : Int32)), .val (.int (1 : Int32)), .unset, .unset, .unset, .unset, .unset, .unset, .unset] [])) _
        refine st538 _ ?_
        show Steps p.tables e below (T538.setTop (mkF m 31 #[.val (.int p0), .val (.int p1), .val (.long q2), .second, .val (.long q3), .second, .val (.int p4), .val (.int p5), .val (.int (0 : Int32)), .val (.int (1 : Int32)), .unset, .unset, .unset, .unset, .unset, .unset, .unset] [(.ref b538)])) _
        refine XS.dup X538.here hx rfl (hb hby at_31) rfl rfl ?_
        show Steps p.tables e below (T538.setTop (mkF m 32 #[.val (.int p0), .val (.int p1), .val (.long q2), .second, .val (.long q3), .second, .val (.int p4), .val (.int p5), .val (.int (0 : Int32)), .val (.int (1 : Int32)), .unset, .unset, .unset, .unset, .unset, .unset, .unset] [(.ref b538), (.ref b538)])) _
        refine st550.trans ?_
        show Steps p.tables e below (T550.setTop (mkF m 35 #[.val (.int p0), .val (.int p1), .val (.long q2), .second, .val (.long q3), .second, .val (.int p4), .val (.int p5), .val (.int (0 : Int32)), .val (.int (1 : Int32)), .unset, .unset, .unset, .unset, .unset, .unset, .unset] [(.ref b538)])) _
        refine XS.astore X550.here hx rfl (hb hby at_35) rfl rfl (l' := #[.val (.int p0), .val (.int p1), .val (.long q2), .second, .val (.long q3), .second, .val (.int p4), .val (.int p5), .val (.int (0 : Int32)), .val (.int (1 : Int32)), .val (.ref b538), .unset, .unset, .unset, .unset, .unset, .unset]) rfl ?_
        show Steps p.tables e below (T550.setTop (mkF m 37 #[.val (.int p0), .val (.int p1), .val (.long q2), .second, .val (.long q3), .second, .val (.int p4), .val (.int p5), .val (.int (0 : Int32)), .val (.int (1 : Int32)), .val (.ref b538), .unset, .unset, .unset, .unset, .unset, .unset] [])) _
        refine XS.iconst X550.here hx rfl (hb hby at_37) ?_
        show Steps p.tables e below (T550.setTop (mkF m 38 #[.val (.int p0), .val (.int p1), .val (.long q2), .second, .val (.long q3), .second, .val (.int p4), .val (.int p5), .val (.int (0 : Int32)), .val (.int (1 : Int32)), .val (.ref b538), .unset, .unset, .unset, .unset, .unset, .unset] [(.int (2 : Int32))])) _
        refine st551 _ ?_
        show Steps p.tables e below (T551.setTop (mkF m 40 #[.val (.int p0), .val (.int p1), .val (.long q2), .second, .val (.long q3), .second, .val (.int p4), .val (.int p5), .val (.int (0 : Int32)), .val (.int (1 : Int32)), .val (.ref b538), .unset, .unset, .unset, .unset, .unset, .unset] [(.ref b551)])) _
        refine XS.astore X551.here hx rfl (hb hby at_40) rfl rfl (l' := #[.val (.int p0), .val (.int p1), .val (.long q2), .second, .val (.long q3), .second, .val (.int p4), .val (.int p5), .val (.int (0 : Int32)), .val (.int (1 : Int32)), .val (.ref b538), .val (.ref b551), .unset, .unset, .unset, .unset, .unset]) rfl ?_
        show Steps p.tables e below (T551.setTop (mkF m 42 #[.val (.int p0), .val (.int p1), .val (.long q2), .second, .val (.long q3), .second, .val (.int p4), .val (.int p5), .val (.int (0 : Int32)), .val (.int (1 : Int32)), .val (.ref b538), .val (.ref b551), .unset, .unset, .unset, .unset, .unset] [])) _
        refine XS.iconst X551.here hx rfl (hb hby at_42) ?_
        show Steps p.tables e below (T551.setTop (mkF m 43 #[.val (.int p0), .val (.int p1), .val (.long q2), .second, .val (.long q3), .second, .val (.int p4), .val (.int p5), .val (.int (0 : Int32)), .val (.int (1 : Int32)), .val (.ref b538), .val (.ref b551), .unset, .unset, .unset, .unset, .unset] [(.int (2 : Int32))])) _
        refine st554 _ ?_
        show Steps p.tables e below (T554.setTop (mkF m 45 #[.val (.int p0), .val (.int p1), .val (.long q2), .second, .val (.long q3), .second, .val (.int p4), .val (.int p5), .val (.int (0 : Int32)), .val (.int (1 : Int32)), .val (.ref b538), .val (.ref b551), .unset, .unset, .unset, .unset, .unset] [(.ref b554)])) _
        refine XS.astore X554.here hx rfl (hb hby at_45) rfl rfl (l' := #[.val (.int p0), .val (.int p1), .val (.long q2), .second, .val (.long q3), .second, .val (.int p4), .val (.int p5), .val (.int (0 : Int32)), .val (.int (1 : Int32)), .val (.ref b538), .val (.ref b551), .val (.ref b554), .unset, .unset, .unset, .unset]) rfl ?_
        show Steps p.tables e below (T554.setTop (mkF m 47 #[.val (.int p0), .val (.int p1), .val (.long q2), .second, .val (.long q3), .second, .val (.int p4), .val (.int p5), .val (.int (0 : Int32)), .val (.int (1 : Int32)), .val (.ref b538), .val (.ref b551), .val (.ref b554), .unset, .unset, .unset, .unset] [])) _
        refine XS.iconst X554.here hx rfl (hb hby at_47) ?_
        show Steps p.tables e below (T554.setTop (mkF m 48 #[.val (.int p0), .val (.int p1), .val (.long q2), .second, .val (.long q3), .second, .val (.int p4), .val (.int p5), .val (.int (0 : Int32)), .val (.int (1 : Int32)), .val (.ref b538), .val (.ref b551), .val (.ref b554), .unset, .unset, .unset, .unset] [(.int (2 : Int32))])) _
        refine st563 _ ?_
        show Steps p.tables e below (T563.setTop (mkF m 50 #[.val (.int p0), .val (.int p1), .val (.long q2), .second, .val (.long q3), .second, .val (.int p4), .val (.int p5), .val (.int (0 : Int32)), .val (.int (1 : Int32)), .val (.ref b538), .val (.ref b551), .val (.ref b554), .unset, .unset, .unset, .unset] [(.ref b563)])) _
        refine XS.astore X563.here hx rfl (hb hby at_50) rfl rfl (l' := #[.val (.int p0), .val (.int p1), .val (.long q2), .second, .val (.long q3), .second, .val (.int p4), .val (.int p5), .val (.int (0 : Int32)), .val (.int (1 : Int32)), .val (.ref b538), .val (.ref b551), .val (.ref b554), .val (.ref b563), .unset, .unset, .unset]) rfl ?_
        show Steps p.tables e below (T563.setTop (mkF m 52 #[.val (.int p0), .val (.int p1), .val (.long q2), .second, .val (.long q3), .second, .val (.int p4), .val (.int p5), .val (.int (0 : Int32)), .val (.int (1 : Int32)), .val (.ref b538), .val (.ref b551), .val (.ref b554), .val (.ref b563), .unset, .unset, .unset] [])) _
        refine XS.iconst X563.here hx rfl (hb hby at_52) ?_
        show Steps p.tables e below (T563.setTop (mkF m 53 #[.val (.int p0), .val (.int p1), .val (.long q2), .second, .val (.long q3), .second, .val (.int p4), .val (.int p5), .val (.int (0 : Int32)), .val (.int (1 : Int32)), .val (.ref b538), .val (.ref b551), .val (.ref b554), .val (.ref b563), .unset, .unset, .unset] [(.int (2 : Int32))])) _
        refine st573 _ ?_
        show Steps p.tables e below (T573.setTop (mkF m 55 #[.val (.int p0), .val (.int p1), .val (.long q2), .second, .val (.long q3), .second, .val (.int p4), .val (.int p5), .val (.int (0 : Int32)), .val (.int (1 : Int32)), .val (.ref b538), .val (.ref b551), .val (.ref b554), .val (.ref b563), .unset, .unset, .unset] [(.ref b573)])) _
        refine XS.astore X573.here hx rfl (hb hby at_55) rfl rfl (l' := #[.val (.int p0), .val (.int p1), .val (.long q2), .second, .val (.long q3), .second, .val (.int p4), .val (.int p5), .val (.int (0 : Int32)), .val (.int (1 : Int32)), .val (.ref b538), .val (.ref b551), .val (.ref b554), .val (.ref b563), .val (.ref b573), .unset, .unset]) rfl ?_
        show Steps p.tables e below (T573.setTop (mkF m 57 #[.val (.int p0), .val (.int p1), .val (.long q2), .second, .val (.long q3), .second, .val (.int p4), .val (.int p5), .val (.int (0 : Int32)), .val (.int (1 : Int32)), .val (.ref b538), .val (.ref b551), .val (.ref b554), .val (.ref b563), .val (.ref b573), .unset, .unset] [])) _
        refine XS.aload X573.here hx rfl (hb hby at_57) rfl rfl ?_
        show Steps p.tables e below (T573.setTop (mkF m 59 #[.val (.int p0), .val (.int p1), .val (.long q2), .second, .val (.long q3), .second, .val (.int p4), .val (.int p5), .val (.int (0 : Int32)), .val (.int (1 : Int32)), .val (.ref b538), .val (.ref b551), .val (.ref b554), .val (.ref b563), .val (.ref b573), .unset, .unset] [(.ref b551)])) _
        refine XS.iconst X573.here hx rfl (hb hby at_59) ?_
        show Steps p.tables e below (T573.setTop (mkF m 60 #[.val (.int p0), .val (.int p1), .val (.long q2), .second, .val (.long q3), .second, .val (.int p4), .val (.int p5), .val (.int (0 : Int32)), .val (.int (1 : Int32)), .val (.ref b538), .val (.ref b551), .val (.ref b554), .val (.ref b563), .val (.ref b573), .unset, .unset] [(.int (0 : Int32)), (.ref b551)])) _
        refine XS.iloadN X573.here hx rfl (hb hby at_60) rfl ?_
        show Steps p.tables e below (T573.setTop (mkF m 61 #[.val (.int p0), .val (.int p1), .val (.long q2), .second, .val (.long q3), .second, .val (.int p4), .val (.int p5), .val (.int (0 : Int32)), .val (.int (1 : Int32)), .val (.ref b538), .val (.ref b551), .val (.ref b554), .val (.ref b563), .val (.ref b573), .unset, .unset] [(.int p0), (.int (0 : Int32)), (.ref b551)])) _
        refine st585 _ ?_
        show Steps p.tables e below (T585.setTop (mkF m 62 #[.val (.int p0), .val (.int p1), .val (.long q2), .second, .val (.long q3), .second, .val (.int p4), .val (.int p5), .val (.int (0 : Int32)), .val (.int (1 : Int32)), .val (.ref b538), .val (.ref b551), .val (.ref b554), .val (.ref b563), .val (.ref b573), .unset, .unset] [])) _
        refine XS.aload X585.here hx rfl (hb hby at_62) rfl rfl ?_
        show Steps p.tables e below (T585.setTop (mkF m 64 #[.val (.int p0), .val (.int p1), .val (.long q2), .second, .val (.long q3), .second, .val (.int p4), .val (.int p5), .val (.int (0 : Int32)), .val (.int (1 : Int32)), .val (.ref b538), .val (.ref b551), .val (.ref b554), .val (.ref b563), .val (.ref b573), .unset, .unset] [(.ref b551)])) _
        refine XS.iconst X585.here hx rfl (hb hby at_64) ?_
        show Steps p.tables e below (T585.setTop (mkF m 65 #[.val (.int p0), .val (.int p1), .val (.long q2), .second, .val (.long q3), .second, .val (.int p4), .val (.int p5), .val (.int (0 : Int32)), .val (.int (1 : Int32)), .val (.ref b538), .val (.ref b551), .val (.ref b554), .val (.ref b563), .val (.ref b573), .unset, .unset] [(.int (1 : Int32)), (.ref b551)])) _
        exact kt
      obtain ⟨T587, h587, X587, e587, W587, V587, st587⟩ := own_stI X585 hx hZ e585 V585 (i := 1) (by decide : (1 : Int32).toInt = ((1 : Nat) : Int)) (by decide) (g := (mkF m 66 #[.val (.int p0), .val (.int p1), .val (.long q2), .second, .val (.long q3), .second, .val (.int p4), .val (.int p5), .val (.int (0 : Int32)), .val (.int (1 : Int32)), .val (.ref b538), .val (.ref b551), .val (.ref b554), .val (.ref b563), .val (.ref b573), .unset, .unset] [(.int p1), (.int (1 : Int32)), (.ref b551)])) rfl rfl (hb hby at_66)
      have N587 := Fr.snoc X587 N585 ge_b551
      have f588 := ((((V554.keep ((Keep.refl _ []).ext E563) nin0).keep ((Keep.refl _ []).ext E573) nin0).keep (Keep.of_wr W585) (ninS (Ne.symm ne_b551_b554) nin0)).keep (Keep.of_wr W587) (ninS (Ne.symm ne_b551_b554) nin0))
      obtain ⟨T589, h589, X589, e589, W589, V589, st589⟩ := own_stJ X587 hx hZ e587 f588 (i := 0) (by decide : (0 : Int32).toInt = ((0 : Nat) : Int)) (by decide) (g := (mkF m 71 #[.val (.int p0), .val (.int p1), .val (.long q2), .second, .val (.long q3), .second, .val (.int p4), .val (.int p5), .val (.int (0 : Int32)), .val (.int (1 : Int32)), .val (.ref b538), .val (.ref b551), .val (.ref b554), .val (.ref b563), .val (.ref b573), .unset, .unset] [(.long q2), (.int (0 : Int32)), (.ref b554)])) rfl rfl (hb hby at_71)
      have N589 := Fr.snoc X589 N587 ge_b554
      obtain ⟨T590, h590, X590, e590, W590, V590, st590⟩ := own_stJ X589 hx hZ e589 V589 (i := 1) (by decide : (1 : Int32).toInt = ((1 : Nat) : Int)) (by decide) (g := (mkF m 77 #[.val (.int p0), .val (.int p1), .val (.long q2), .second, .val (.long q3), .second, .val (.int p4), .val (.int p5), .val (.int (0 : Int32)), .val (.int (1 : Int32)), .val (.ref b538), .val (.ref b551), .val (.ref b554), .val (.ref b563), .val (.ref b573), .unset, .unset] [(.long q3), (.int (1 : Int32)), (.ref b554)])) rfl rfl (hb hby at_77)
      have N590 := Fr.snoc X590 N589 ge_b554
      have f591 := (Nat.le_trans (Nat.le_trans (Nat.le_trans (Nat.le_trans (Nat.le_trans f583 ((Keep.refl _ []).ext E573).1) (Keep.of_wr W585).1) (Keep.of_wr W587).1) (Keep.of_wr W589).1) (Keep.of_wr W590).1)
      have f592 := (((((f574.keep ((Keep.refl _ []).ext E573)).keep (Keep.of_wr W585)).keep (Keep.of_wr W587)).keep (Keep.of_wr W589)).keep (Keep.of_wr W590))
      have f593 := ((((((((Fi_ia.keep ((Keep.refl _ []).ext E551) nin0).keep ((Keep.refl _ []).ext E554) nin0).keep ((Keep.refl _ []).ext E563) nin0).keep ((Keep.refl _ []).ext E573) nin0).keep (Keep.of_wr W585) (ninS ne_b538_b551 nin0)).keep (Keep.of_wr W587) (ninS ne_b538_b551 nin0)).keep (Keep.of_wr W589) (ninS ne_b538_b554 nin0)).keep (Keep.of_wr W590) (ninS ne_b538_b554 nin0))
      have f594 := ((((((((Fi_la.keep ((Keep.refl _ []).ext E551) nin0).keep ((Keep.refl _ []).ext E554) nin0).keep ((Keep.refl _ []).ext E563) nin0).keep ((Keep.refl _ []).ext E573) nin0).keep (Keep.of_wr W585) (ninS ne_b538_b551 nin0)).keep (Keep.of_wr W587) (ninS ne_b538_b551 nin0)).keep (Keep.of_wr W589) (ninS ne_b538_b554 nin0)).keep (Keep.of_wr W590) (ninS ne_b538_b554 nin0))
      have f595 := ((((((((Fi_si.keep ((Keep.refl _ []).ext E551) nin0).keep ((Keep.refl _ []).ext E554) nin0).keep ((Keep.refl _ []).ext E563) nin0).keep ((Keep.refl _ []).ext E573) nin0).keep (Keep.of_wr W585) (ninS ne_b538_b551 nin0)).keep (Keep.of_wr W587) (ninS ne_b538_b551 nin0)).keep (Keep.of_wr W589) (ninS ne_b538_b554 nin0)).keep (Keep.of_wr W590) (ninS ne_b538_b554 nin0))
      have f596 := ((((((((Fi_ov.keep ((Keep.refl _ []).ext E551) nin0).keep ((Keep.refl _ []).ext E554) nin0).keep ((Keep.refl _ []).ext E563) nin0).keep ((Keep.refl _ []).ext E573) nin0).keep (Keep.of_wr W585) (ninS ne_b538_b551 nin0)).keep (Keep.of_wr W587) (ninS ne_b538_b551 nin0)).keep (Keep.of_wr W589) (ninS ne_b538_b554 nin0)).keep (Keep.of_wr W590) (ninS ne_b538_b554 nin0))
      have f597 := ((((((((oFaentries550.keep ((Keep.refl _ []).ext E551) nin0).keep ((Keep.refl _ []).ext E554) nin0).keep ((Keep.refl _ []).ext E563) nin0).keep ((Keep.refl _ []).ext E573) nin0).keep (Keep.of_wr W585) (ninS ne_b538_b551 nin0)).keep (Keep.of_wr W587) (ninS ne_b538_b551 nin0)).keep (Keep.of_wr W589) (ninS ne_b538_b554 nin0)).keep (Keep.of_wr W590) (ninS ne_b538_b554 nin0))
      have f598 := ((((((((Fi_ls.keep ((Keep.refl _ []).ext E551) nin0).keep ((Keep.refl _ []).ext E554) nin0).keep ((Keep.refl _ []).ext E563) nin0).keep ((Keep.refl _ []).ext E573) nin0).keep (Keep.of_wr W585) (ninS ne_b538_b551 nin0)).keep (Keep.of_wr W587) (ninS ne_b538_b551 nin0)).keep (Keep.of_wr W589) (ninS ne_b538_b554 nin0)).keep (Keep.of_wr W590) (ninS ne_b538_b554 nin0))
      have f599 := ((((((((Fi_os.keep ((Keep.refl _ []).ext E551) nin0).keep ((Keep.refl _ []).ext E554) nin0).keep ((Keep.refl _ []).ext E563) nin0).keep ((Keep.refl _ []).ext E573) nin0).keep (Keep.of_wr W585) (ninS ne_b538_b551 nin0)).keep (Keep.of_wr W587) (ninS ne_b538_b551 nin0)).keep (Keep.of_wr W589) (ninS ne_b538_b554 nin0)).keep (Keep.of_wr W590) (ninS ne_b538_b554 nin0))
      have f600 := ((((((((oFalevel550.keep ((Keep.refl _ []).ext E551) nin0).keep ((Keep.refl _ []).ext E554) nin0).keep ((Keep.refl _ []).ext E563) nin0).keep ((Keep.refl _ []).ext E573) nin0).keep (Keep.of_wr W585) (ninS ne_b538_b551 nin0)).keep (Keep.of_wr W587) (ninS ne_b538_b551 nin0)).keep (Keep.of_wr W589) (ninS ne_b538_b554 nin0)).keep (Keep.of_wr W590) (ninS ne_b538_b554 nin0))
      have f601 := ((((((((oFastamp550.keep ((Keep.refl _ []).ext E551) nin0).keep ((Keep.refl _ []).ext E554) nin0).keep ((Keep.refl _ []).ext E563) nin0).keep ((Keep.refl _ []).ext E573) nin0).keep (Keep.of_wr W585) (ninS ne_b538_b551 nin0)).keep (Keep.of_wr W587) (ninS ne_b538_b551 nin0)).keep (Keep.of_wr W589) (ninS ne_b538_b554 nin0)).keep (Keep.of_wr W590) (ninS ne_b538_b554 nin0))
      have f602 := ((((((((oFalastStamp550.keep ((Keep.refl _ []).ext E551) nin0).keep ((Keep.refl _ []).ext E554) nin0).keep ((Keep.refl _ []).ext E563) nin0).keep ((Keep.refl _ []).ext E573) nin0).keep (Keep.of_wr W585) (ninS ne_b538_b551 nin0)).keep (Keep.of_wr W587) (ninS ne_b538_b551 nin0)).keep (Keep.of_wr W589) (ninS ne_b538_b554 nin0)).keep (Keep.of_wr W590) (ninS ne_b538_b554 nin0))
      have f603 := (((((f579.keep ((Keep.refl _ []).ext E573) nin0).keep (Keep.of_wr W585) (ninS ne_ls550_b551 nin0)).keep (Keep.of_wr W587) (ninS ne_ls550_b551 nin0)).keep (Keep.of_wr W589) (ninS ne_ls550_b554 nin0)).keep (Keep.of_wr W590) (ninS ne_ls550_b554 nin0))
      have f604 := (((((f580.keep ((Keep.refl _ []).ext E573) nin0).keep (Keep.of_wr W585) (ninS ne_os550_b551 nin0)).keep (Keep.of_wr W587) (ninS ne_os550_b551 nin0)).keep (Keep.of_wr W589) (ninS ne_os550_b554 nin0)).keep (Keep.of_wr W590) (ninS ne_os550_b554 nin0))
      obtain ⟨cq605, kq605, q605a, q605b, q605c⟩ := isOf hZ e590 f592
      obtain ⟨_, _, ⟨T605, L605, kc605, nc605⟩, -, X605, ⟨Lc605, hQ605, l605, y605, z605⟩, st605⟩ := X590.virtualBack hx (y := (⟨"com/example/tablewise/tablewise/propagation/Trail", "openLevel", "()V"⟩ : MethodName)) (z := (⟨"com/example/tablewise/tablewise/propagation/Trail", "openLevel", "()V"⟩ : MethodName)) hown (mvT hZ (hw _ (List.mem_of_getElem? (i := 27) rfl))) (mvT hZ (hw _ (List.mem_of_getElem? (i := 28) rfl))) (notFace_of_selects (args := #[]) (mvT hZ (hw _ (List.mem_of_getElem? (i := 30) rfl)))) (mvT hZ (hw _ (List.mem_of_getElem? (i := 30) rfl))) (mvT hZ (hw _ (List.mem_of_getElem? (i := 29) rfl))) (by decide) (backOf (W := 0) (rm3 l Z a0 hw [] b538 ia550 la550 si550 ov550 ls550 os550 (0 : Int32) (0 : Int32) (0 : Int64) (0 : Int64) 0 (fun _ => 0) (fun _ => 0) h590 n0 f591 f592 f593 f594 f595 f596 f597 f598 f599 f600 f601 f602 f603 f604 ge_b538 gi_ls gi_os ni_a_ls ni_a_os ni_ls_os (by decide) (by decide)) hZ (hw _ (List.mem_of_getElem? (i := 31) rfl)) (hw _ (List.mem_of_getElem? (i := 2) rfl)) (by decide) (by decide)) q605a q605c (g := (mkF m 80 #[.val (.int p0), .val (.int p1), .val (.long q2), .second, .val (.long q3), .second, .val (.int p4), .val (.int p5), .val (.int (0 : Int32)), .val (.int (1 : Int32)), .val (.ref b538), .val (.ref b551), .val (.ref b554), .val (.ref b563), .val (.ref b573), .unset, .unset] [(.ref b538)])) rfl (by rw [hml]; rfl) (Steps.refl _) (argsL := []) (rest := []) (lenOf pd_0 rfl) rfl (by show 2 * 0 + _ ≤ _; exact Nat.le_of_eq rfl) (hb hby at_80) (fun _ _ => ⟨rfl, e590, (by decide : 11 + 0 ≤ _), (by decide : 306 + 0 ≤ _)⟩)
      dsimp only [Pt.U, Pt.locs, Pt.cells, Pt.slots] at X605 l605 y605 z605 st605 hQ605
      rw [l605, y605, z605] at X605
      replace X605 : Stand p l e room_1 s m #[(.int p0), (.int p1), (.long q2), (.long q3), (.int p4), (.int p5)] below meth c T605 _ 11 306 := X605
      obtain ⟨rfl, Nq605, oK605, oFaintArrays605, oFalongArrays605, oFaslotIndices605, oFaoldValues605, oFaentries605, oFalevelStarts605, oFaouterStamps605, oFalevel605, oFastamp605, oFalastStamp605, oAls605, oAos605⟩ := hQ605
      have N605 := Fr.app N590 Nq605
      have f606 := (Nat.le_trans f591 oK605.1)
      have f607 := (f592.keep oK605)
      have f608 := ((((((f581.keep ((Keep.refl _ []).ext E573)).keep (Keep.of_wr W585)).keep (Keep.of_wr W587)).keep (Keep.of_wr W589)).keep (Keep.of_wr W590)).keep oK605)
      have f609 := ((((((f575.keep ((Keep.refl _ []).ext E573) nin0).keep (Keep.of_wr W585) (ninS ne_ia550_b551 nin0)).keep (Keep.of_wr W587) (ninS ne_ia550_b551 nin0)).keep (Keep.of_wr W589) (ninS ne_ia550_b554 nin0)).keep (Keep.of_wr W590) (ninS ne_ia550_b554 nin0)).keep oK605 (ninS (Ne.symm ni_a_ia) (ninS ni_ia_ls (ninS ni_ia_os nin0))))
      have f610 := ((((((f576.keep ((Keep.refl _ []).ext E573) nin0).keep (Keep.of_wr W585) (ninS ne_la550_b551 nin0)).keep (Keep.of_wr W587) (ninS ne_la550_b551 nin0)).keep (Keep.of_wr W589) (ninS ne_la550_b554 nin0)).keep (Keep.of_wr W590) (ninS ne_la550_b554 nin0)).keep oK605 (ninS (Ne.symm ni_a_la) (ninS ni_la_ls (ninS ni_la_os nin0))))
      have f611 := ((((((f577.keep ((Keep.refl _ []).ext E573) nin0).keep (Keep.of_wr W585) (ninS ne_si550_b551 nin0)).keep (Keep.of_wr W587) (ninS ne_si550_b551 nin0)).keep (Keep.of_wr W589) (ninS ne_si550_b554 nin0)).keep (Keep.of_wr W590) (ninS ne_si550_b554 nin0)).keep oK605 (ninS (Ne.symm ni_a_si) (ninS ni_si_ls (ninS ni_si_os nin0))))
      have f612 := ((((((f578.keep ((Keep.refl _ []).ext E573) nin0).keep (Keep.of_wr W585) (ninS ne_ov550_b551 nin0)).keep (Keep.of_wr W587) (ninS ne_ov550_b551 nin0)).keep (Keep.of_wr W589) (ninS ne_ov550_b554 nin0)).keep (Keep.of_wr W590) (ninS ne_ov550_b554 nin0)).keep oK605 (ninS (Ne.symm ni_a_ov) (ninS ni_ov_ls (ninS ni_ov_os nin0))))
      have f613 := (((V587.keep (Keep.of_wr W589) (ninS ne_b551_b554 nin0)).keep (Keep.of_wr W590) (ninS ne_b551_b554 nin0)).keep oK605 (ninS (Ne.symm ne_b538_b551) (ninS (Ne.symm ne_ls550_b551) (ninS (Ne.symm ne_os550_b551) nin0))))
      have f614 := ((((((V563.keep ((Keep.refl _ []).ext E573) nin0).keep (Keep.of_wr W585) (ninS (Ne.symm ne_b551_b563) nin0)).keep (Keep.of_wr W587) (ninS (Ne.symm ne_b551_b563) nin0)).keep (Keep.of_wr W589) (ninS (Ne.symm ne_b554_b563) nin0)).keep (Keep.of_wr W590) (ninS (Ne.symm ne_b554_b563) nin0)).keep oK605 (ninS (Ne.symm ne_b538_b563) (ninS (Ne.symm ne_ls550_b563) (ninS (Ne.symm ne_os550_b563) nin0))))
      obtain ⟨cq615, kq615, q615a, q615b, q615c⟩ := isOf hZ rfl f607
      obtain ⟨_, _, ⟨T615, L615, kc615, nc615⟩, -, X615, ⟨Lc615, hQ615, l615, y615, z615⟩, st615⟩ := X605.virtualBack hx (y := (⟨"com/example/tablewise/tablewise/propagation/Trail", "set", "([I[JII)V"⟩ : MethodName)) (z := (⟨"com/example/tablewise/tablewise/propagation/Trail", "set", "([I[JII)V"⟩ : MethodName)) hown (mvT hZ (hw _ (List.mem_of_getElem? (i := 40) rfl))) (mvT hZ (hw _ (List.mem_of_getElem? (i := 41) rfl))) (notFace_of_selects (args := #[]) (mvT hZ (hw _ (List.mem_of_getElem? (i := 43) rfl)))) (mvT hZ (hw _ (List.mem_of_getElem? (i := 43) rfl))) (mvT hZ (hw _ (List.mem_of_getElem? (i := 42) rfl))) (by decide) (backOf (W := 0) (rmsetIr l Z a0 hw [] b538 b551 b563 (0 : Int32) p1 ia550 la550 si550 ov550 ls550 os550 (0 : Int32) ((0 : Int32) + (1 : Int32)) ((0 : Int64) + (1 : Int64)) ((0 : Int64) + (1 : Int64)) 0 (fun _ => .null) (fun _ => .null) (fun _ => 0) (fun _ => 0) 0 (own_upd (own_upd (fun _ => 0) 0 p0) 1 p1) (fun _ => 0) T605.heap n0 f606 f607 f608 oFaintArrays605 oFalongArrays605 oFaslotIndices605 oFaoldValues605 oFaentries605 oFalevelStarts605 oFaouterStamps605 oFalevel605 oFastamp605 oFalastStamp605 f609 f610 f611 f612 f613 f614 ge_b538 gi_ia gi_la gi_si gi_ov ge_b551 ge_b563 ni_a_ia ni_a_la ni_a_si ni_a_ov ne_b538_b551 ne_b538_b563 ni_ia_la ni_ia_si ni_ia_ov ne_ia550_b551 ne_ia550_b563 ni_la_si ni_la_ov ne_la550_b551 ne_la550_b563 ni_si_ov ne_si550_b551 ne_si550_b563 ne_ov550_b551 ne_ov550_b563 ne_b551_b563 (by decide) (by decide) (by decide) (by decide) (by decide)) hZ (hw _ (List.mem_of_getElem? (i := 44) rfl)) (hw _ (List.mem_of_getElem? (i := 2) rfl)) (by decide) (by decide)) q615a q615c (g := (mkF m 91 #[.val (.int p0), .val (.int p1), .val (.long q2), .second, .val (.long q3), .second, .val (.int p4), .val (.int p5), .val (.int (0 : Int32)), .val (.int (1 : Int32)), .val (.ref b538), .val (.ref b551), .val (.ref b554), .val (.ref b563), .val (.ref b573), .unset, .unset] [(.int p1), (.int (0 : Int32)), (.ref b563), (.ref b551), (.ref b538)])) rfl (by rw [hml]; rfl) (Steps.refl _) (argsL := [(.ref b551), (.ref b563), (.int (0 : Int32)), (.int p1)]) (rest := []) (lenOf pd_1 rfl) rfl (by show 2 * 0 + _ ≤ _; exact Nat.le_of_eq rfl) (hb hby at_91) (fun _ _ => ⟨rfl, rfl, (by decide : 11 + 0 ≤ _), (by decide : 306 + 0 ≤ _)⟩)
      dsimp only [Pt.U, Pt.locs, Pt.cells, Pt.slots] at X615 l615 y615 z615 st615 hQ615
      rw [l615, y615, z615] at X615
      replace X615 : Stand p l e room_1 s m #[(.int p0), (.int p1), (.long q2), (.long q3), (.int p4), (.int p5)] below meth c T615 _ 11 306 := X615
      obtain ⟨rfl, Nq615, oK615, oFaintArrays615, oFalongArrays615, oFaslotIndices615, oFaoldValues615, oFalevelStarts615, oFaouterStamps615, oFalevel615, oFastamp615, oFalastStamp615, oFaentries615, oAia615, oAla615, oAsi615, oAov615, oAar615, oAmk615⟩ := hQ615
      have N615 := Fr.app N605 Nq615
      have f616 := (Nat.le_trans f606 oK615.1)
      have f617 := (f607.keep oK615)
      have f618 := (((((((f582.keep ((Keep.refl _ []).ext E573)).keep (Keep.of_wr W585)).keep (Keep.of_wr W587)).keep (Keep.of_wr W589)).keep (Keep.of_wr W590)).keep oK605).keep oK615)
      have f619 := ((V590.keep oK605 (ninS (Ne.symm ne_b538_b554) (ninS (Ne.symm ne_ls550_b554) (ninS (Ne.symm ne_os550_b554) nin0)))).keep oK615 (ninS (Ne.symm ne_b538_b554) (ninS (Ne.symm ne_ia550_b554) (ninS (Ne.symm ne_la550_b554) (ninS (Ne.symm ne_si550_b554) (ninS (Ne.symm ne_ov550_b554) (ninS (Ne.symm ne_b551_b554) (ninS ne_b554_b563 nin0))))))))
      have f620 := ((((((V573.keep (Keep.of_wr W585) (ninS (Ne.symm ne_b551_b573) nin0)).keep (Keep.of_wr W587) (ninS (Ne.symm ne_b551_b573) nin0)).keep (Keep.of_wr W589) (ninS (Ne.symm ne_b554_b573) nin0)).keep (Keep.of_wr W590) (ninS (Ne.symm ne_b554_b573) nin0)).keep oK605 (ninS (Ne.symm ne_b538_b573) (ninS (Ne.symm ne_ls550_b573) (ninS (Ne.symm ne_os550_b573) nin0)))).keep oK615 (ninS (Ne.symm ne_b538_b573) (ninS (Ne.symm ne_ia550_b573) (ninS (Ne.symm ne_la550_b573) (ninS (Ne.symm ne_si550_b573) (ninS (Ne.symm ne_ov550_b573) (ninS (Ne.symm ne_b551_b573) (ninS (Ne.symm ne_b563_b573) nin0))))))))
      obtain ⟨cq621, kq621, q621a, q621b, q621c⟩ := isOf hZ rfl f617
      obtain ⟨_, _, ⟨T621, L621, kc621, nc621⟩, -, X621, ⟨Lc621, hQ621, l621, y621, z621⟩, st621⟩ := X615.virtualBack hx (y := (⟨"com/example/tablewise/tablewise/propagation/Trail", "set", "([J[JIJ)V"⟩ : MethodName)) (z := (⟨"com/example/tablewise/tablewise/propagation/Trail", "set", "([J[JIJ)V"⟩ : MethodName)) hown (mvT hZ (hw _ (List.mem_of_getElem? (i := 50) rfl))) (mvT hZ (hw _ (List.mem_of_getElem? (i := 51) rfl))) (notFace_of_selects (args := #[]) (mvT hZ (hw _ (List.mem_of_getElem? (i := 53) rfl)))) (mvT hZ (hw _ (List.mem_of_getElem? (i := 53) rfl))) (mvT hZ (hw _ (List.mem_of_getElem? (i := 52) rfl))) (by decide) (backOf (W := 0) (rmsetJr l Z a0 hw [] b538 b554 b573 (1 : Int32) q2 ia550 la550 si550 ov550 ls550 os550 ((0 : Int32) + (1 : Int32)) ((0 : Int32) + (1 : Int32)) ((0 : Int64) + (1 : Int64)) ((0 : Int64) + (1 : Int64)) 1 (own_upd (fun _ => .null) 0 (.ref b551)) (own_upd (fun _ => .null) 0 .null) (own_upd (fun _ => 0) 0 (0 : Int32)) (own_upd (fun _ => 0) 0 (((own_upd (own_upd (fun _ => 0) 0 p0) 1 p1) 0).toInt64)) 1 (own_upd (own_upd (fun _ => 0) 0 q2) 1 q3) (fun _ => 0) T615.heap n0 f616 f617 f618 oFaintArrays615 oFalongArrays615 oFaslotIndices615 oFaoldValues615 oFaentries615 oFalevelStarts615 oFaouterStamps615 oFalevel615 oFastamp615 oFalastStamp615 oAia615 oAla615 oAsi615 oAov615 f619 f620 ge_b538 gi_ia gi_la gi_si gi_ov ge_b554 ge_b573 ni_a_ia ni_a_la ni_a_si ni_a_ov ne_b538_b554 ne_b538_b573 ni_ia_la ni_ia_si ni_ia_ov ne_ia550_b554 ne_ia550_b573 ni_la_si ni_la_ov ne_la550_b554 ne_la550_b573 ni_si_ov ne_si550_b554 ne_si550_b573 ne_ov550_b554 ne_ov550_b573 ne_b554_b573 (by decide) (by decide) (by decide) (by decide) (by decide)) hZ (hw _ (List.mem_of_getElem? (i := 54) rfl)) (hw _ (List.mem_of_getElem? (i := 2) rfl)) (by decide) (by decide)) q621a q621c (g := (mkF m 119 #[.val (.int p0), .val (.int p1), .val (.long q2), .second, .val (.long q3), .second, .val (.int p4), .val (.int p5), .val (.int (0 : Int32)), .val (.int (1 : Int32)), .val (.ref b538), .val (.ref b551), .val (.ref b554), .val (.ref b563), .val (.ref b573), .unset, .unset] [(.long q2), (.int (1 : Int32)), (.ref b573), (.ref b554), (.ref b538)])) rfl (by rw [hml]; rfl) (Steps.refl _) (argsL := [(.ref b554), (.ref b573), (.int (1 : Int32)), (.long q2)]) (rest := []) (lenOf pd_3 rfl) rfl (by show 2 * 0 + _ ≤ _; exact Nat.le_of_eq rfl) (hb hby at_119) (fun _ _ => ⟨rfl, rfl, (by decide : 11 + 0 ≤ _), (by decide : 306 + 0 ≤ _)⟩)
      dsimp only [Pt.U, Pt.locs, Pt.cells, Pt.slots] at X621 l621 y621 z621 st621 hQ621
      rw [l621, y621, z621] at X621
      replace X621 : Stand p l e room_1 s m #[(.int p0), (.int p1), (.long q2), (.long q3), (.int p4), (.int p5)] below meth c T621 _ 11 306 := X621
      obtain ⟨rfl, Nq621, oK621, oFaintArrays621, oFalongArrays621, oFaslotIndices621, oFaoldValues621, oFalevelStarts621, oFaouterStamps621, oFalevel621, oFastamp621, oFalastStamp621, oFaentries621, oAia621, oAla621, oAsi621, oAov621, oAar621, oAmk621⟩ := hQ621
      have N621 := Fr.app N615 Nq621
      have k622 : ∀ tg_, Steps p.tables e below (T621.setTop (mkF m 122 #[.val (.int p0), .val (.int p1), .val (.long q2), .second, .val (.long q3), .second, .val (.int p4), .val (.int p5), .val (.int (0 : Int32)), .val (.int (1 : Int32)), .val (.ref b538), .val (.ref b551), .val (.ref b554), .val (.ref b563), .val (.ref b573), .unset, .unset] [])) tg_ → Steps p.tables e below (s₁.setTop (entryFrame m #[(.int p0), (.int p1), (.long q2), (.long q3), (.int p4), (.int p5)] maxLocals)) tg_ := by
        intro tg_ kt
        refine k586 tg_ ?_
        refine XS.iloadN X585.here hx rfl (hb hby at_65) rfl ?_
        show Steps p.tables e below (T585.setTop (mkF m 66 #[.val (.int p0), .val (.int p1), .val (.long q2), .second, .val (.long q3), .second, .val (.int p4), .val (.int p5), .val (.int (0 : Int32)), .val (.int (1 : Int32)), .val (.ref b538), .val (.ref b551), .val (.ref b554), .val (.ref b563), .val (.ref b573), .unset, .unset] [(.int p1), (.int (1 : Int32)), (.ref b551)])) _
        refine st587 _ ?_
        show Steps p.tables e below (T587.setTop (mkF m 67 #[.val (.int p0), .val (.int p1), .val (.long q2), .second, .val (.long q3), .second, .val (.int p4), .val (.int p5), .val (.int (0 : Int32)), .val (.int (1 : Int32)), .val (.ref b538), .val (.ref b551), .val (.ref b554), .val (.ref b563), .val (.ref b573), .unset, .unset] [])) _
        refine XS.aload X587.here hx rfl (hb hby at_67) rfl rfl ?_
        show Steps p.tables e below (T587.setTop (mkF m 69 #[.val (.int p0), .val (.int p1), .val (.long q2), .second, .val (.long q3), .second, .val (.int p4), .val (.int p5), .val (.int (0 : Int32)), .val (.int (1 : Int32)), .val (.ref b538), .val (.ref b551), .val (.ref b554), .val (.ref b563), .val (.ref b573), .unset, .unset] [(.ref b554)])) _
        refine XS.iconst X587.here hx rfl (hb hby at_69) ?_
        show Steps p.tables e below (T587.setTop (mkF m 70 #[.val (.int p0), .val (.int p1), .val (.long q2), .second, .val (.long q3), .second, .val (.int p4), .val (.int p5), .val (.int (0 : Int32)), .val (.int (1 : Int32)), .val (.ref b538), .val (.ref b551), .val (.ref b554), .val (.ref b563), .val (.ref b573), .unset, .unset] [(.int (0 : Int32)), (.ref b554)])) _
        refine XS.lloadN X587.here hx rfl (hb hby at_70) rfl ?_
        show Steps p.tables e below (T587.setTop (mkF m 71 #[.val (.int p0), .val (.int p1), .val (.long q2), .second, .val (.long q3), .second, .val (.int p4), .val (.int p5), .val (.int (0 : Int32)), .val (.int (1 : Int32)), .val (.ref b538), .val (.ref b551), .val (.ref b554), .val (.ref b563), .val (.ref b573), .unset, .unset] [(.long q2), (.int (0 : Int32)), (.ref b554)])) _
        refine st589 _ ?_
        show Steps p.tables e below (T589.setTop (mkF m 72 #[.val (.int p0), .val (.int p1), .val (.long q2), .second, .val (.long q3), .second, .val (.int p4), .val (.int p5), .val (.int (0 : Int32)), .val (.int (1 : Int32)), .val (.ref b538), .val (.ref b551), .val (.ref b554), .val (.ref b563), .val (.ref b573), .unset, .unset] [])) _
        refine XS.aload X589.here hx rfl (hb hby at_72) rfl rfl ?_
        show Steps p.tables e below (T589.setTop (mkF m 74 #[.val (.int p0), .val (.int p1), .val (.long q2), .second, .val (.long q3), .second, .val (.int p4), .val (.int p5), .val (.int (0 : Int32)), .val (.int (1 : Int32)), .val (.ref b538), .val (.ref b551), .val (.ref b554), .val (.ref b563), .val (.ref b573), .unset, .unset] [(.ref b554)])) _
        refine XS.iconst X589.here hx rfl (hb hby at_74) ?_
        show Steps p.tables e below (T589.setTop (mkF m 75 #[.val (.int p0), .val (.int p1), .val (.long q2), .second, .val (.long q3), .second, .val (.int p4), .val (.int p5), .val (.int (0 : Int32)), .val (.int (1 : Int32)), .val (.ref b538), .val (.ref b551), .val (.ref b554), .val (.ref b563), .val (.ref b573), .unset, .unset] [(.int (1 : Int32)), (.ref b554)])) _
        refine XS.lload X589.here hx rfl (hb hby at_75) rfl ?_
        show Steps p.tables e below (T589.setTop (mkF m 77 #[.val (.int p0), .val (.int p1), .val (.long q2), .second, .val (.long q3), .second, .val (.int p4), .val (.int p5), .val (.int (0 : Int32)), .val (.int (1 : Int32)), .val (.ref b538), .val (.ref b551), .val (.ref b554), .val (.ref b563), .val (.ref b573), .unset, .unset] [(.long q3), (.int (1 : Int32)), (.ref b554)])) _
        refine st590 _ ?_
        show Steps p.tables e below (T590.setTop (mkF m 78 #[.val (.int p0), .val (.int p1), .val (.long q2), .second, .val (.long q3), .second, .val (.int p4), .val (.int p5), .val (.int (0 : Int32)), .val (.int (1 : Int32)), .val (.ref b538), .val (.ref b551), .val (.ref b554), .val (.ref b563), .val (.ref b573), .unset, .unset] [])) _
        refine XS.aload X590.here hx rfl (hb hby at_78) rfl rfl ?_
        show Steps p.tables e below (T590.setTop (mkF m 80 #[.val (.int p0), .val (.int p1), .val (.long q2), .second, .val (.long q3), .second, .val (.int p4), .val (.int p5), .val (.int (0 : Int32)), .val (.int (1 : Int32)), .val (.ref b538), .val (.ref b551), .val (.ref b554), .val (.ref b563), .val (.ref b573), .unset, .unset] [(.ref b538)])) _
        refine st605.trans ?_
        show Steps p.tables e below (T605.setTop (mkF m 83 #[.val (.int p0), .val (.int p1), .val (.long q2), .second, .val (.long q3), .second, .val (.int p4), .val (.int p5), .val (.int (0 : Int32)), .val (.int (1 : Int32)), .val (.ref b538), .val (.ref b551), .val (.ref b554), .val (.ref b563), .val (.ref b573), .unset, .unset] [])) _
        refine XS.aload X605.here hx rfl (hb hby at_83) rfl rfl ?_
        show Steps p.tables e below (T605.setTop (mkF m 85 #[.val (.int p0), .val (.int p1), .val (.long q2), .second, .val (.long q3), .second, .val (.int p4), .val (.int p5), .val (.int (0 : Int32)), .val (.int (1 : Int32)), .val (.ref b538), .val (.ref b551), .val (.ref b554), .val (.ref b563), .val (.ref b573), .unset, .unset] [(.ref b538)])) _
        refine XS.aload X605.here hx rfl (hb hby at_85) rfl rfl ?_
        show Steps p.tables e below (T605.setTop (mkF m 87 #[.val (.int p0), .val (.int p1), .val (.long q2), .second, .val (.long q3), .second, .val (.int p4), .val (.int p5), .val (.int (0 : Int32)), .val (.int (1 : Int32)), .val (.ref b538), .val (.ref b551), .val (.ref b554), .val (.ref b563), .val (.ref b573), .unset, .unset] [(.ref b551), (.ref b538)])) _
        refine XS.aload X605.here hx rfl (hb hby at_87) rfl rfl ?_
        show Steps p.tables e below (T605.setTop (mkF m 89 #[.val (.int p0), .val (.int p1), .val (.long q2), .second, .val (.long q3), .second, .val (.int p4), .val (.int p5), .val (.int (0 : Int32)), .val (.int (1 : Int32)), .val (.ref b538), .val (.ref b551), .val (.ref b554), .val (.ref b563), .val (.ref b573), .unset, .unset] [(.ref b563), (.ref b551), (.ref b538)])) _
        refine XS.iconst X605.here hx rfl (hb hby at_89) ?_
        show Steps p.tables e below (T605.setTop (mkF m 90 #[.val (.int p0), .val (.int p1), .val (.long q2), .second, .val (.long q3), .second, .val (.int p4), .val (.int p5), .val (.int (0 : Int32)), .val (.int (1 : Int32)), .val (.ref b538), .val (.ref b551), .val (.ref b554), .val (.ref b563), .val (.ref b573), .unset, .unset] [(.int (0 : Int32)), (.ref b563), (.ref b551), (.ref b538)])) _
        refine XS.iloadN X605.here hx rfl (hb hby at_90) rfl ?_
        show Steps p.tables e below (T605.setTop (mkF m 91 #[.val (.int p0), .val (.int p1), .val (.long q2), .second, .val (.long q3), .second, .val (.int p4), .val (.int p5), .val (.int (0 : Int32)), .val (.int (1 : Int32)), .val (.ref b538), .val (.ref b551), .val (.ref b554), .val (.ref b563), .val (.ref b573), .unset, .unset] [(.int p1), (.int (0 : Int32)), (.ref b563), (.ref b551), (.ref b538)])) _
        refine st615.trans ?_
        show Steps p.tables e below (T615.setTop (mkF m 94 #[.val (.int p0), .val (.int p1), .val (.long q2), .second, .val (.long q3), .second, .val (.int p4), .val (.int p5), .val (.int (0 : Int32)), .val (.int (1 : Int32)), .val (.ref b538), .val (.ref b551), .val (.ref b554), .val (.ref b563), .val (.ref b573), .unset, .unset] [])) _
        refine XS.iload X615.here hx rfl (hb hby at_94) rfl ?_
        show Steps p.tables e below (T615.setTop (mkF m 96 #[.val (.int p0), .val (.int p1), .val (.long q2), .second, .val (.long q3), .second, .val (.int p4), .val (.int p5), .val (.int (0 : Int32)), .val (.int (1 : Int32)), .val (.ref b538), .val (.ref b551), .val (.ref b554), .val (.ref b563), .val (.ref b573), .unset, .unset] [(.int (0 : Int32))])) _
        refine XS.ifYes X615.here hx rfl (pc0 := 96) (pc' := 111) rfl (hb hby at_96) rfl ((if0 _ _).trans (teq (by decide : (0 : Int32) = (0 : Int32))).1) (by decide) (by decide) ?_
        show Steps p.tables e below (T615.setTop (mkF m 111 #[.val (.int p0), .val (.int p1), .val (.long q2), .second, .val (.long q3), .second, .val (.int p4), .val (.int p5), .val (.int (0 : Int32)), .val (.int (1 : Int32)), .val (.ref b538), .val (.ref b551), .val (.ref b554), .val (.ref b563), .val (.ref b573), .unset, .unset] [])) _
        refine XS.aload X615.here hx rfl (hb hby at_111) rfl rfl ?_
        show Steps p.tables e below (T615.setTop (mkF m 113 #[.val (.int p0), .val (.int p1), .val (.long q2), .second, .val (.long q3), .second, .val (.int p4), .val (.int p5), .val (.int (0 : Int32)), .val (.int (1 : Int32)), .val (.ref b538), .val (.ref b551), .val (.ref b554), .val (.ref b563), .val (.ref b573), .unset, .unset] [(.ref b538)])) _
        refine XS.aload X615.here hx rfl (hb hby at_113) rfl rfl ?_
        show Steps p.tables e below (T615.setTop (mkF m 115 #[.val (.int p0), .val (.int p1), .val (.long q2), .second, .val (.long q3), .second, .val (.int p4), .val (.int p5), .val (.int (0 : Int32)), .val (.int (1 : Int32)), .val (.ref b538), .val (.ref b551), .val (.ref b554), .val (.ref b563), .val (.ref b573), .unset, .unset] [(.ref b554), (.ref b538)])) _
        refine XS.aload X615.here hx rfl (hb hby at_115) rfl rfl ?_
        show Steps p.tables e below (T615.setTop (mkF m 117 #[.val (.int p0), .val (.int p1), .val (.long q2), .second, .val (.long q3), .second, .val (.int p4), .val (.int p5), .val (.int (0 : Int32)), .val (.int (1 : Int32)), .val (.ref b538), .val (.ref b551), .val (.ref b554), .val (.ref b563), .val (.ref b573), .unset, .unset] [(.ref b573), (.ref b554), (.ref b538)])) _
        refine XS.iconst X615.here hx rfl (hb hby at_117) ?_
        show Steps p.tables e below (T615.setTop (mkF m 118 #[.val (.int p0), .val (.int p1), .val (.long q2), .second, .val (.long q3), .second, .val (.int p4), .val (.int p5), .val (.int (0 : Int32)), .val (.int (1 : Int32)), .val (.ref b538), .val (.ref b551), .val (.ref b554), .val (.ref b563), .val (.ref b573), .unset, .unset] [(.int (1 : Int32)), (.ref b573), (.ref b554), (.ref b538)])) _
        refine XS.lloadN X615.here hx rfl (hb hby at_118) rfl ?_
        show Steps p.tables e below (T615.setTop (mkF m 119 #[.val (.int p0), .val (.int p1), .val (.long q2), .second, .val (.long q3), .second, .val (.int p4), .val (.int p5), .val (.int (0 : Int32)), .val (.int (1 : Int32)), .val (.ref b538), .val (.ref b551), .val (.ref b554), .val (.ref b563), .val (.ref b573), .unset, .unset] [(.long q2), (.int (1 : Int32)), (.ref b573), (.ref b554), (.ref b538)])) _
        refine st621.trans ?_
        show Steps p.tables e below (T621.setTop (mkF m 122 #[.val (.int p0), .val (.int p1), .val (.long q2), .second, .val (.long q3), .second, .val (.int p4), .val (.int p5), .val (.int (0 : Int32)), .val (.int (1 : Int32)), .val (.ref b538), .val (.ref b551), .val (.ref b554), .val (.ref b563), .val (.ref b573), .unset, .unset] [])) _
        exact kt
      have f623 := (Nat.le_trans f616 oK621.1)
      have f624 := (f617.keep oK621)
      have f625 := ((oAls605.keep oK615 (ninS (Ne.symm ni_a_ls) (ninS (Ne.symm ni_ia_ls) (ninS (Ne.symm ni_la_ls) (ninS (Ne.symm ni_si_ls) (ninS (Ne.symm ni_ov_ls) (ninS ne_ls550_b551 (ninS ne_ls550_b563 nin0)))))))).keep oK621 (ninS (Ne.symm ni_a_ls) (ninS (Ne.symm ni_ia_ls) (ninS (Ne.symm ni_la_ls) (ninS (Ne.symm ni_si_ls) (ninS (Ne.symm ni_ov_ls) (ninS ne_ls550_b554 (ninS ne_ls550_b573 nin0))))))))
      have f626 := ((oAos605.keep oK615 (ninS (Ne.symm ni_a_os) (ninS (Ne.symm ni_ia_os) (ninS (Ne.symm ni_la_os) (ninS (Ne.symm ni_si_os) (ninS (Ne.symm ni_ov_os) (ninS ne_os550_b551 (ninS ne_os550_b563 nin0)))))))).keep oK621 (ninS (Ne.symm ni_a_os) (ninS (Ne.symm ni_ia_os) (ninS (Ne.symm ni_la_os) (ninS (Ne.symm ni_si_os) (ninS (Ne.symm ni_ov_os) (ninS ne_os550_b554 (ninS ne_os550_b573 nin0))))))))
      obtain ⟨cq627, kq627, q627a, q627b, q627c⟩ := isOf hZ rfl f624
      obtain ⟨_, _, ⟨T627, L627, kc627, nc627⟩, -, X627, ⟨Lc627, hQ627, l627, y627, z627⟩, st627⟩ := X621.virtualBack hx (y := (⟨"com/example/tablewise/tablewise/propagation/Trail", "openLevel", "()V"⟩ : MethodName)) (z := (⟨"com/example/tablewise/tablewise/propagation/Trail", "openLevel", "()V"⟩ : MethodName)) hown (mvT hZ (hw _ (List.mem_of_getElem? (i := 27) rfl))) (mvT hZ (hw _ (List.mem_of_getElem? (i := 28) rfl))) (notFace_of_selects (args := #[]) (mvT hZ (hw _ (List.mem_of_getElem? (i := 30) rfl)))) (mvT hZ (hw _ (List.mem_of_getElem? (i := 30) rfl))) (mvT hZ (hw _ (List.mem_of_getElem? (i := 29) rfl))) (by decide) (backOf (W := 0) (rm3 l Z a0 hw [] b538 ia550 la550 si550 ov550 ls550 os550 (((0 : Int32) + (1 : Int32)) + (1 : Int32)) ((0 : Int32) + (1 : Int32)) ((0 : Int64) + (1 : Int64)) ((0 : Int64) + (1 : Int64)) 1 (own_upd (fun _ => 0) 0 (0 : Int32)) (own_upd (fun _ => 0) 0 (0 : Int64)) T621.heap n0 f623 f624 oFaintArrays621 oFalongArrays621 oFaslotIndices621 oFaoldValues621 oFaentries621 oFalevelStarts621 oFaouterStamps621 oFalevel621 oFastamp621 oFalastStamp621 f625 f626 ge_b538 gi_ls gi_os ni_a_ls ni_a_os ni_ls_os (by decide) (by decide)) hZ (hw _ (List.mem_of_getElem? (i := 31) rfl)) (hw _ (List.mem_of_getElem? (i := 2) rfl)) (by decide) (by decide)) q627a q627c (g := (mkF m 132 #[.val (.int p0), .val (.int p1), .val (.long q2), .second, .val (.long q3), .second, .val (.int p4), .val (.int p5), .val (.int (0 : Int32)), .val (.int (1 : Int32)), .val (.ref b538), .val (.ref b551), .val (.ref b554), .val (.ref b563), .val (.ref b573), .val (.int (1 : Int32)), .unset] [(.ref b538)])) rfl (by rw [hml]; rfl) (Steps.refl _) (argsL := []) (rest := []) (lenOf pd_0 rfl) rfl (by show 2 * 0 + _ ≤ _; exact Nat.le_of_eq rfl) (hb hby at_132) (fun _ _ => ⟨rfl, rfl, (by decide : 11 + 0 ≤ _), (by decide : 306 + 0 ≤ _)⟩)
      dsimp only [Pt.U, Pt.locs, Pt.cells, Pt.slots] at X627 l627 y627 z627 st627 hQ627
      rw [l627, y627, z627] at X627
      replace X627 : Stand p l e room_1 s m #[(.int p0), (.int p1), (.long q2), (.long q3), (.int p4), (.int p5)] below meth c T627 _ 11 306 := X627
      obtain ⟨rfl, Nq627, oK627, oFaintArrays627, oFalongArrays627, oFaslotIndices627, oFaoldValues627, oFaentries627, oFalevelStarts627, oFaouterStamps627, oFalevel627, oFastamp627, oFalastStamp627, oAls627, oAos627⟩ := hQ627
      have N627 := Fr.app N621 Nq627
      have f628 := (Nat.le_trans f623 oK627.1)
      have f629 := (f624.keep oK627)
      have f630 := ((f618.keep oK621).keep oK627)
      have f631 := (oAia621.keep oK627 (ninS (Ne.symm ni_a_ia) (ninS ni_ia_ls (ninS ni_ia_os nin0))))
      have f632 := (oAla621.keep oK627 (ninS (Ne.symm ni_a_la) (ninS ni_la_ls (ninS ni_la_os nin0))))
      have f633 := (oAsi621.keep oK627 (ninS (Ne.symm ni_a_si) (ninS ni_si_ls (ninS ni_si_os nin0))))
      have f634 := (oAov621.keep oK627 (ninS (Ne.symm ni_a_ov) (ninS ni_ov_ls (ninS ni_ov_os nin0))))
      have f635 := (oAar621.keep oK627 (ninS (Ne.symm ne_b538_b554) (ninS (Ne.symm ne_ls550_b554) (ninS (Ne.symm ne_os550_b554) nin0))))
      have f636 := (oAmk621.keep oK627 (ninS (Ne.symm ne_b538_b573) (ninS (Ne.symm ne_ls550_b573) (ninS (Ne.symm ne_os550_b573) nin0))))
      obtain ⟨cq637, kq637, q637a, q637b, q637c⟩ := isOf hZ rfl f629
      obtain ⟨_, _, ⟨T637, L637, kc637, nc637⟩, -, X637, ⟨Lc637, hQ637, l637, y637, z637⟩, st637⟩ := X627.virtualBack hx (y := (⟨"com/example/tablewise/tablewise/propagation/Trail", "set", "([J[JIJ)V"⟩ : MethodName)) (z := (⟨"com/example/tablewise/tablewise/propagation/Trail", "set", "([J[JIJ)V"⟩ : MethodName)) hown (mvT hZ (hw _ (List.mem_of_getElem? (i := 50) rfl))) (mvT hZ (hw _ (List.mem_of_getElem? (i := 51) rfl))) (notFace_of_selects (args := #[]) (mvT hZ (hw _ (List.mem_of_getElem? (i := 53) rfl)))) (mvT hZ (hw _ (List.mem_of_getElem? (i := 53) rfl))) (mvT hZ (hw _ (List.mem_of_getElem? (i := 52) rfl))) (by decide) (backOf (W := 0) (rmsetJr l Z a0 hw [] b538 b554 b573 (1 : Int32) (p4.toInt64) ia550 la550 si550 ov550 ls550 os550 (((0 : Int32) + (1 : Int32)) + (1 : Int32)) (((0 : Int32) + (1 : Int32)) + (1 : Int32)) (((0 : Int64) + (1 : Int64)) + (1 : Int64)) (((0 : Int64) + (1 : Int64)) + (1 : Int64)) 2 (own_upd (own_upd (fun _ => .null) 0 (.ref b551)) 1 .null) (own_upd (own_upd (fun _ => .null) 0 .null) 1 (.ref b554)) (own_upd (own_upd (fun _ => 0) 0 (0 : Int32)) 1 (1 : Int32)) (own_upd (own_upd (fun _ => 0) 0 (((own_upd (own_upd (fun _ => 0) 0 p0) 1 p1) 0).toInt64)) 1 ((own_upd (own_upd (fun _ => 0) 0 q2) 1 q3) 1)) 1 (own_upd (own_upd (own_upd (fun _ => 0) 0 q2) 1 q3) 1 q2) (own_upd (fun _ => 0) 1 ((0 : Int64) + (1 : Int64))) T627.heap n0 f628 f629 f630 oFaintArrays627 oFalongArrays627 oFaslotIndices627 oFaoldValues627 oFaentries627 oFalevelStarts627 oFaouterStamps627 oFalevel627 oFastamp627 oFalastStamp627 f631 f632 f633 f634 f635 f636 ge_b538 gi_ia gi_la gi_si gi_ov ge_b554 ge_b573 ni_a_ia ni_a_la ni_a_si ni_a_ov ne_b538_b554 ne_b538_b573 ni_ia_la ni_ia_si ni_ia_ov ne_ia550_b554 ne_ia550_b573 ni_la_si ni_la_ov ne_la550_b554 ne_la550_b573 ni_si_ov ne_si550_b554 ne_si550_b573 ne_ov550_b554 ne_ov550_b573 ne_b554_b573 (by decide) (by decide) (by decide) (by decide) (by decide)) hZ (hw _ (List.mem_of_getElem? (i := 54) rfl)) (hw _ (List.mem_of_getElem? (i := 2) rfl)) (by decide) (by decide)) q637a q637c (g := (mkF m 145 #[.val (.int p0), .val (.int p1), .val (.long q2), .second, .val (.long q3), .second, .val (.int p4), .val (.int p5), .val (.int (0 : Int32)), .val (.int (1 : Int32)), .val (.ref b538), .val (.ref b551), .val (.ref b554), .val (.ref b563), .val (.ref b573), .val (.int (1 : Int32)), .unset] [(.long (p4.toInt64)), (.int (1 : Int32)), (.ref b573), (.ref b554), (.ref b538)])) rfl (by rw [hml]; rfl) (Steps.refl _) (argsL := [(.ref b554), (.ref b573), (.int (1 : Int32)), (.long (p4.toInt64))]) (rest := []) (lenOf pd_3 rfl) rfl (by show 2 * 0 + _ ≤ _; exact Nat.le_of_eq rfl) (hb hby at_145) (fun _ _ => ⟨rfl, rfl, (by decide : 11 + 0 ≤ _), (by decide : 306 + 0 ≤ _)⟩)
      dsimp only [Pt.U, Pt.locs, Pt.cells, Pt.slots] at X637 l637 y637 z637 st637 hQ637
      rw [l637, y637, z637] at X637
      replace X637 : Stand p l e room_1 s m #[(.int p0), (.int p1), (.long q2), (.long q3), (.int p4), (.int p5)] below meth c T637 _ 11 306 := X637
      obtain ⟨rfl, Nq637, oK637, oFaintArrays637, oFalongArrays637, oFaslotIndices637, oFaoldValues637, oFalevelStarts637, oFaouterStamps637, oFalevel637, oFastamp637, oFalastStamp637, oFaentries637, oAia637, oAla637, oAsi637, oAov637, oAar637, oAmk637⟩ := hQ637
      have N637 := Fr.app N627 Nq637
      have f638 := (Nat.le_trans f628 oK637.1)
      have f639 := (f629.keep oK637)
      have f640 := ((((f608.keep oK615).keep oK621).keep oK627).keep oK637)
      have f641 := (((oAar615.keep oK621 (ninS (Ne.symm ne_b538_b551) (ninS (Ne.symm ne_ia550_b551) (ninS (Ne.symm ne_la550_b551) (ninS (Ne.symm ne_si550_b551) (ninS (Ne.symm ne_ov550_b551) (ninS ne_b551_b554 (ninS ne_b551_b573 nin0)))))))).keep oK627 (ninS (Ne.symm ne_b538_b551) (ninS (Ne.symm ne_ls550_b551) (ninS (Ne.symm ne_os550_b551) nin0)))).keep oK637 (ninS (Ne.symm ne_b538_b551) (ninS (Ne.symm ne_ia550_b551) (ninS (Ne.symm ne_la550_b551) (ninS (Ne.symm ne_si550_b551) (ninS (Ne.symm ne_ov550_b551) (ninS ne_b551_b554 (ninS ne_b551_b573 nin0))))))))
      have f642 := (((oAmk615.keep oK621 (ninS (Ne.symm ne_b538_b563) (ninS (Ne.symm ne_ia550_b563) (ninS (Ne.symm ne_la550_b563) (ninS (Ne.symm ne_si550_b563) (ninS (Ne.symm ne_ov550_b563) (ninS (Ne.symm ne_b554_b563) (ninS ne_b563_b573 nin0)))))))).keep oK627 (ninS (Ne.symm ne_b538_b563) (ninS (Ne.symm ne_ls550_b563) (ninS (Ne.symm ne_os550_b563) nin0)))).keep oK637 (ninS (Ne.symm ne_b538_b563) (ninS (Ne.symm ne_ia550_b563) (ninS (Ne.symm ne_la550_b563) (ninS (Ne.symm ne_si550_b563) (ninS (Ne.symm ne_ov550_b563) (ninS (Ne.symm ne_b554_b563) (ninS ne_b563_b573 nin0))))))))
      obtain ⟨cq643, kq643, q643a, q643b, q643c⟩ := isOf hZ rfl f639
      obtain ⟨_, _, ⟨T643, L643, kc643, nc643⟩, -, X643, ⟨Lc643, hQ643, l643, y643, z643⟩, st643⟩ := X637.virtualBack hx (y := (⟨"com/example/tablewise/tablewise/propagation/Trail", "set", "([I[JII)V"⟩ : MethodName)) (z := (⟨"com/example/tablewise/tablewise/propagation/Trail", "set", "([I[JII)V"⟩ : MethodName)) hown (mvT hZ (hw _ (List.mem_of_getElem? (i := 40) rfl))) (mvT hZ (hw _ (List.mem_of_getElem? (i := 41) rfl))) (notFace_of_selects (args := #[]) (mvT hZ (hw _ (List.mem_of_getElem? (i := 43) rfl)))) (mvT hZ (hw _ (List.mem_of_getElem? (i := 43) rfl))) (mvT hZ (hw _ (List.mem_of_getElem? (i := 42) rfl))) (by decide) (backOf (W := 0) (rmsetIr l Z a0 hw [] b538 b551 b563 (1 : Int32) p0 ia550 la550 si550 ov550 ls550 os550 ((((0 : Int32) + (1 : Int32)) + (1 : Int32)) + (1 : Int32)) (((0 : Int32) + (1 : Int32)) + (1 : Int32)) (((0 : Int64) + (1 : Int64)) + (1 : Int64)) (((0 : Int64) + (1 : Int64)) + (1 : Int64)) 3 (own_upd (own_upd (own_upd (fun _ => .null) 0 (.ref b551)) 1 .null) 2 .null) (own_upd (own_upd (own_upd (fun _ => .null) 0 .null) 1 (.ref b554)) 2 (.ref b554)) (own_upd (own_upd (own_upd (fun _ => 0) 0 (0 : Int32)) 1 (1 : Int32)) 2 (1 : Int32)) (own_upd (own_upd (own_upd (fun _ => 0) 0 (((own_upd (own_upd (fun _ => 0) 0 p0) 1 p1) 0).toInt64)) 1 ((own_upd (own_upd (fun _ => 0) 0 q2) 1 q3) 1)) 2 ((own_upd (own_upd (own_upd (fun _ => 0) 0 q2) 1 q3) 1 q2) 1)) 1 (own_upd (own_upd (own_upd (fun _ => 0) 0 p0) 1 p1) 0 p1) (own_upd (fun _ => 0) 0 ((0 : Int64) + (1 : Int64))) T637.heap n0 f638 f639 f640 oFaintArrays637 oFalongArrays637 oFaslotIndices637 oFaoldValues637 oFaentries637 oFalevelStarts637 oFaouterStamps637 oFalevel637 oFastamp637 oFalastStamp637 oAia637 oAla637 oAsi637 oAov637 f641 f642 ge_b538 gi_ia gi_la gi_si gi_ov ge_b551 ge_b563 ni_a_ia ni_a_la ni_a_si ni_a_ov ne_b538_b551 ne_b538_b563 ni_ia_la ni_ia_si ni_ia_ov ne_ia550_b551 ne_ia550_b563 ni_la_si ni_la_ov ne_la550_b551 ne_la550_b563 ni_si_ov ne_si550_b551 ne_si550_b563 ne_ov550_b551 ne_ov550_b563 ne_b551_b563 (by decide) (by decide) (by decide) (by decide) (by decide)) hZ (hw _ (List.mem_of_getElem? (i := 44) rfl)) (hw _ (List.mem_of_getElem? (i := 2) rfl)) (by decide) (by decide)) q643a q643c (g := (mkF m 156 #[.val (.int p0), .val (.int p1), .val (.long q2), .second, .val (.long q3), .second, .val (.int p4), .val (.int p5), .val (.int (0 : Int32)), .val (.int (1 : Int32)), .val (.ref b538), .val (.ref b551), .val (.ref b554), .val (.ref b563), .val (.ref b573), .val (.int (1 : Int32)), .unset] [(.int p0), (.int (1 : Int32)), (.ref b563), (.ref b551), (.ref b538)])) rfl (by rw [hml]; rfl) (Steps.refl _) (argsL := [(.ref b551), (.ref b563), (.int (1 : Int32)), (.int p0)]) (rest := []) (lenOf pd_1 rfl) rfl (by show 2 * 0 + _ ≤ _; exact Nat.le_of_eq rfl) (hb hby at_156) (fun _ _ => ⟨rfl, rfl, (by decide : 11 + 0 ≤ _), (by decide : 306 + 0 ≤ _)⟩)
      dsimp only [Pt.U, Pt.locs, Pt.cells, Pt.slots] at X643 l643 y643 z643 st643 hQ643
      rw [l643, y643, z643] at X643
      replace X643 : Stand p l e room_1 s m #[(.int p0), (.int p1), (.long q2), (.long q3), (.int p4), (.int p5)] below meth c T643 _ 11 306 := X643
      obtain ⟨rfl, Nq643, oK643, oFaintArrays643, oFalongArrays643, oFaslotIndices643, oFaoldValues643, oFalevelStarts643, oFaouterStamps643, oFalevel643, oFastamp643, oFalastStamp643, oFaentries643, oAia643, oAla643, oAsi643, oAov643, oAar643, oAmk643⟩ := hQ643
      have N643 := Fr.app N637 Nq643
      have f644 := (Nat.le_trans f638 oK643.1)
      have f645 := (f639.keep oK643)
      have f646 := ((oAls627.keep oK637 (ninS (Ne.symm ni_a_ls) (ninS (Ne.symm ni_ia_ls) (ninS (Ne.symm ni_la_ls) (ninS (Ne.symm ni_si_ls) (ninS (Ne.symm ni_ov_ls) (ninS ne_ls550_b554 (ninS ne_ls550_b573 nin0)))))))).keep oK643 (ninS (Ne.symm ni_a_ls) (ninS (Ne.symm ni_ia_ls) (ninS (Ne.symm ni_la_ls) (ninS (Ne.symm ni_si_ls) (ninS (Ne.symm ni_ov_ls) (ninS ne_ls550_b551 (ninS ne_ls550_b563 nin0))))))))
      have f647 := ((oAos627.keep oK637 (ninS (Ne.symm ni_a_os) (ninS (Ne.symm ni_ia_os) (ninS (Ne.symm ni_la_os) (ninS (Ne.symm ni_si_os) (ninS (Ne.symm ni_ov_os) (ninS ne_os550_b554 (ninS ne_os550_b573 nin0)))))))).keep oK643 (ninS (Ne.symm ni_a_os) (ninS (Ne.symm ni_ia_os) (ninS (Ne.symm ni_la_os) (ninS (Ne.symm ni_si_os) (ninS (Ne.symm ni_ov_os) (ninS ne_os550_b551 (ninS ne_os550_b563 nin0))))))))
      have f648 := (oAar637.keep oK643 (ninS (Ne.symm ne_b538_b554) (ninS (Ne.symm ne_ia550_b554) (ninS (Ne.symm ne_la550_b554) (ninS (Ne.symm ne_si550_b554) (ninS (Ne.symm ne_ov550_b554) (ninS (Ne.symm ne_b551_b554) (ninS ne_b554_b563 nin0))))))))
      obtain ⟨cq649, kq649, q649a, q649b, q649c⟩ := isOf hZ rfl f645
      obtain ⟨_, _, ⟨T649, L649, kc649, nc649⟩, -, X649, ⟨Lc649, hQ649, l649, y649, z649⟩, st649⟩ := X643.virtualBack hx (y := (⟨"com/example/tablewise/tablewise/propagation/Trail", "closeLevel", "()V"⟩ : MethodName)) (z := (⟨"com/example/tablewise/tablewise/propagation/Trail", "closeLevel", "()V"⟩ : MethodName)) hown (mvT hZ (hw _ (List.mem_of_getElem? (i := 56) rfl))) (mvT hZ (hw _ (List.mem_of_getElem? (i := 57) rfl))) (notFace_of_selects (args := #[]) (mvT hZ (hw _ (List.mem_of_getElem? (i := 59) rfl)))) (mvT hZ (hw _ (List.mem_of_getElem? (i := 59) rfl))) (mvT hZ (hw _ (List.mem_of_getElem? (i := 58) rfl))) (by decide) (backOf (W := 0) (rmclA l Z a0 hw [] b538 ia550 la550 si550 ov550 ls550 os550 (((((0 : Int32) + (1 : Int32)) + (1 : Int32)) + (1 : Int32)) + (1 : Int32)) (((0 : Int32) + (1 : Int32)) + (1 : Int32)) (((0 : Int64) + (1 : Int64)) + (1 : Int64)) (((0 : Int64) + (1 : Int64)) + (1 : Int64)) (own_upd (own_upd (own_upd (own_upd (fun _ => .null) 0 (.ref b551)) 1 .null) 2 .null) 3 (.ref b551)) (own_upd (own_upd (own_upd (own_upd (fun _ => .null) 0 .null) 1 (.ref b554)) 2 (.ref b554)) 3 .null) (own_upd (own_upd (own_upd (own_upd (fun _ => 0) 0 (0 : Int32)) 1 (1 : Int32)) 2 (1 : Int32)) 3 (1 : Int32)) (own_upd (own_upd (own_upd (own_upd (fun _ => 0) 0 (((own_upd (own_upd (fun _ => 0) 0 p0) 1 p1) 0).toInt64)) 1 ((own_upd (own_upd (fun _ => 0) 0 q2) 1 q3) 1)) 2 ((own_upd (own_upd (own_upd (fun _ => 0) 0 q2) 1 q3) 1 q2) 1)) 3 (((own_upd (own_upd (own_upd (fun _ => 0) 0 p0) 1 p1) 0 p1) 1).toInt64)) b551 b554 1 (own_upd (own_upd (fun _ => 0) 0 (0 : Int32)) 1 (((0 : Int32) + (1 : Int32)) + (1 : Int32))) (own_upd (own_upd (fun _ => 0) 0 (0 : Int64)) 1 ((0 : Int64) + (1 : Int64))) (own_upd (own_upd (own_upd (own_upd (fun _ => 0) 0 p0) 1 p1) 0 p1) 1 p0) (own_upd (own_upd (own_upd (own_upd (fun _ => 0) 0 q2) 1 q3) 1 q2) 1 (p4.toInt64)) T643.heap n0 f644 f645 oFaintArrays643 oFalongArrays643 oFaslotIndices643 oFaoldValues643 oFaentries643 oFalevelStarts643 oFaouterStamps643 oFalevel643 oFastamp643 oFalastStamp643 oAia643 oAla643 oAsi643 oAov643 f646 f647 oAar643 f648 ge_b538 gi_ia gi_la ge_b551 ge_b554 ni_a_ia ni_a_la ni_a_si ni_a_ov ni_a_ls ni_a_os ne_b538_b551 ne_b538_b554 ni_ia_la ni_ia_si ni_ia_ov ni_ia_ls ni_ia_os ne_ia550_b551 ne_ia550_b554 ni_la_si ni_la_ov ni_la_ls ni_la_os ne_la550_b551 ne_la550_b554 ni_si_ov ni_si_ls ni_si_os ne_si550_b551 ne_si550_b554 ni_ov_ls ni_ov_os ne_ov550_b551 ne_ov550_b554 ni_ls_os ne_ls550_b551 ne_ls550_b554 ne_os550_b551 ne_os550_b554 ne_b551_b554 (by decide) (by decide) (by decide) (by decide) rfl rfl rfl rfl rfl) hZ (hw _ (List.mem_of_getElem? (i := 60) rfl)) (hw _ (List.mem_of_getElem? (i := 2) rfl)) (by decide) (by decide)) q649a q649c (g := (mkF m 161 #[.val (.int p0), .val (.int p1), .val (.long q2), .second, .val (.long q3), .second, .val (.int p4), .val (.int p5), .val (.int (0 : Int32)), .val (.int (1 : Int32)), .val (.ref b538), .val (.ref b551), .val (.ref b554), .val (.ref b563), .val (.ref b573), .val (.int (1 : Int32)), .unset] [(.ref b538)])) rfl (by rw [hml]; rfl) (Steps.refl _) (argsL := []) (rest := []) (lenOf pd_0 rfl) rfl (by show 2 * 0 + _ ≤ _; exact Nat.le_of_eq rfl) (hb hby at_161) (fun _ _ => ⟨rfl, rfl, (by decide : 11 + 0 ≤ _), (by decide : 306 + 0 ≤ _)⟩)
      dsimp only [Pt.U, Pt.locs, Pt.cells, Pt.slots] at X649 l649 y649 z649 st649 hQ649
      rw [l649, y649, z649] at X649
      replace X649 : Stand p l e room_1 s m #[(.int p0), (.int p1), (.long q2), (.long q3), (.int p4), (.int p5)] below meth c T649 _ 11 306 := X649
      obtain ⟨rfl, Nq649, oK649, oFaintArrays649, oFalongArrays649, oFaslotIndices649, oFaoldValues649, oFalevelStarts649, oFaouterStamps649, oFalastStamp649, oFaentries649, oFalevel649, oFastamp649, oAia649, oAla649, oAxi649, oAxj649⟩ := hQ649
      have N649 := Fr.app N643 Nq649
      have k650 : ∀ tg_, Steps p.tables e below (T649.setTop (mkF m 179 #[.val (.int p0), .val (.int p1), .val (.long q2), .second, .val (.long q3), .second, .val (.int p4), .val (.int p5), .val (.int (0 : Int32)), .val (.int (1 : Int32)), .val (.ref b538), .val (.ref b551), .val (.ref b554), .val (.ref b563), .val (.ref b573), .val (.int (1 : Int32)), .val (.int p1)] [(.ref b551)])) tg_ → Steps p.tables e below (s₁.setTop (entryFrame m #[(.int p0), (.int p1), (.long q2), (.long q3), (.int p4), (.int p5)] maxLocals)) tg_ := by
        intro tg_ kt
        refine k622 tg_ ?_
        refine XS.iconst X621.here hx rfl (hb hby at_122) ?_
        show Steps p.tables e below (T621.setTop (mkF m 123 #[.val (.int p0), .val (.int p1), .val (.long q2), .second, .val (.long q3), .second, .val (.int p4), .val (.int p5), .val (.int (0 : Int32)), .val (.int (1 : Int32)), .val (.ref b538), .val (.ref b551), .val (.ref b554), .val (.ref b563), .val (.ref b573), .unset, .unset] [(.int (1 : Int32))])) _
        refine XS.istore X621.here hx rfl (hb hby at_123) rfl (l' := #[.val (.int p0), .val (.int p1), .val (.long q2), .second, .val (.long q3), .second, .val (.int p4), .val (.int p5), .val (.int (0 : Int32)), .val (.int (1 : Int32)), .val (.ref b538), .val (.ref b551), .val (.ref b554), .val (.ref b563), .val (.ref b573), .val (.int (1 : Int32)), .unset]) rfl ?_
        show Steps p.tables e below (T621.setTop (mkF m 125 #[.val (.int p0), .val (.int p1), .val (.long q2), .second, .val (.long q3), .second, .val (.int p4), .val (.int p5), .val (.int (0 : Int32)), .val (.int (1 : Int32)), .val (.ref b538), .val (.ref b551), .val (.ref b554), .val (.ref b563), .val (.ref b573), .val (.int (1 : Int32)), .unset] [])) _
        refine XS.iload X621.here hx rfl (hb hby at_125) rfl ?_
        show Steps p.tables e below (T621.setTop (mkF m 127 #[.val (.int p0), .val (.int p1), .val (.long q2), .second, .val (.long q3), .second, .val (.int p4), .val (.int p5), .val (.int (0 : Int32)), .val (.int (1 : Int32)), .val (.ref b538), .val (.ref b551), .val (.ref b554), .val (.ref b563), .val (.ref b573), .val (.int (1 : Int32)), .unset] [(.int (1 : Int32))])) _
        refine XS.ifNo X621.here hx rfl (hb hby at_127) rfl ((if0 _ _).trans (feq (by decide : ¬ ((1 : Int32) = (0 : Int32)))).1) ?_
        show Steps p.tables e below (T621.setTop (mkF m 130 #[.val (.int p0), .val (.int p1), .val (.long q2), .second, .val (.long q3), .second, .val (.int p4), .val (.int p5), .val (.int (0 : Int32)), .val (.int (1 : Int32)), .val (.ref b538), .val (.ref b551), .val (.ref b554), .val (.ref b563), .val (.ref b573), .val (.int (1 : Int32)), .unset] [])) _
        refine XS.aload X621.here hx rfl (hb hby at_130) rfl rfl ?_
        show Steps p.tables e below (T621.setTop (mkF m 132 #[.val (.int p0), .val (.int p1), .val (.long q2), .second, .val (.long q3), .second, .val (.int p4), .val (.int p5), .val (.int (0 : Int32)), .val (.int (1 : Int32)), .val (.ref b538), .val (.ref b551), .val (.ref b554), .val (.ref b563), .val (.ref b573), .val (.int (1 : Int32)), .unset] [(.ref b538)])) _
        refine st627.trans ?_
        show Steps p.tables e below (T627.setTop (mkF m 135 #[.val (.int p0), .val (.int p1), .val (.long q2), .second, .val (.long q3), .second, .val (.int p4), .val (.int p5), .val (.int (0 : Int32)), .val (.int (1 : Int32)), .val (.ref b538), .val (.ref b551), .val (.ref b554), .val (.ref b563), .val (.ref b573), .val (.int (1 : Int32)), .unset] [])) _
        refine XS.aload X627.here hx rfl (hb hby at_135) rfl rfl ?_
        show Steps p.tables e below (T627.setTop (mkF m 137 #[.val (.int p0), .val (.int p1), .val (.long q2), .second, .val (.long q3), .second, .val (.int p4), .val (.int p5), .val (.int (0 : Int32)), .val (.int (1 : Int32)), .val (.ref b538), .val (.ref b551), .val (.ref b554), .val (.ref b563), .val (.ref b573), .val (.int (1 : Int32)), .unset] [(.ref b538)])) _
        refine XS.aload X627.here hx rfl (hb hby at_137) rfl rfl ?_
        show Steps p.tables e below (T627.setTop (mkF m 139 #[.val (.int p0), .val (.int p1), .val (.long q2), .second, .val (.long q3), .second, .val (.int p4), .val (.int p5), .val (.int (0 : Int32)), .val (.int (1 : Int32)), .val (.ref b538), .val (.ref b551), .val (.ref b554), .val (.ref b563), .val (.ref b573), .val (.int (1 : Int32)), .unset] [(.ref b554), (.ref b538)])) _
        refine XS.aload X627.here hx rfl (hb hby at_139) rfl rfl ?_
        show Steps p.tables e below (T627.setTop (mkF m 141 #[.val (.int p0), .val (.int p1), .val (.long q2), .second, .val (.long q3), .second, .val (.int p4), .val (.int p5), .val (.int (0 : Int32)), .val (.int (1 : Int32)), .val (.ref b538), .val (.ref b551), .val (.ref b554), .val (.ref b563), .val (.ref b573), .val (.int (1 : Int32)), .unset] [(.ref b573), (.ref b554), (.ref b538)])) _
        refine XS.iconst X627.here hx rfl (hb hby at_141) ?_
        show Steps p.tables e below (T627.setTop (mkF m 142 #[.val (.int p0), .val (.int p1), .val (.long q2), .second, .val (.long q3), .second, .val (.int p4), .val (.int p5), .val (.int (0 : Int32)), .val (.int (1 : Int32)), .val (.ref b538), .val (.ref b551), .val (.ref b554), .val (.ref b563), .val (.ref b573), .val (.int (1 : Int32)), .unset] [(.int (1 : Int32)), (.ref b573), (.ref b554), (.ref b538)])) _
        refine XS.iload X627.here hx rfl (hb hby at_142) rfl ?_
        show Steps p.tables e below (T627.setTop (mkF m 144 #[.val (.int p0), .val (.int p1), .val (.long q2), .second, .val (.long q3), .second, .val (.int p4), .val (.int p5), .val (.int (0 : Int32)), .val (.int (1 : Int32)), .val (.ref b538), .val (.ref b551), .val (.ref b554), .val (.ref b563), .val (.ref b573), .val (.int (1 : Int32)), .unset] [(.int p4), (.int (1 : Int32)), (.ref b573), (.ref b554), (.ref b538)])) _
        refine XS.i2l X627.here hx rfl (hb hby at_144) rfl ?_
        show Steps p.tables e below (T627.setTop (mkF m 145 #[.val (.int p0), .val (.int p1), .val (.long q2), .second, .val (.long q3), .second, .val (.int p4), .val (.int p5), .val (.int (0 : Int32)), .val (.int (1 : Int32)), .val (.ref b538), .val (.ref b551), .val (.ref b554), .val (.ref b563), .val (.ref b573), .val (.int (1 : Int32)), .unset] [(.long (p4.toInt64)), (.int (1 : Int32)), (.ref b573), (.ref b554), (.ref b538)])) _
        refine st637.trans ?_
        show Steps p.tables e below (T637.setTop (mkF m 148 #[.val (.int p0), .val (.int p1), .val (.long q2), .second, .val (.long q3), .second, .val (.int p4), .val (.int p5), .val (.int (0 : Int32)), .val (.int (1 : Int32)), .val (.ref b538), .val (.ref b551), .val (.ref b554), .val (.ref b563), .val (.ref b573), .val (.int (1 : Int32)), .unset] [])) _
        refine XS.aload X637.here hx rfl (hb hby at_148) rfl rfl ?_
        show Steps p.tables e below (T637.setTop (mkF m 150 #[.val (.int p0), .val (.int p1), .val (.long q2), .second, .val (.long q3), .second, .val (.int p4), .val (.int p5), .val (.int (0 : Int32)), .val (.int (1 : Int32)), .val (.ref b538), .val (.ref b551), .val (.ref b554), .val (.ref b563), .val (.ref b573), .val (.int (1 : Int32)), .unset] [(.ref b538)])) _
        refine XS.aload X637.here hx rfl (hb hby at_150) rfl rfl ?_
        show Steps p.tables e below (T637.setTop (mkF m 152 #[.val (.int p0), .val (.int p1), .val (.long q2), .second, .val (.long q3), .second, .val (.int p4), .val (.int p5), .val (.int (0 : Int32)), .val (.int (1 : Int32)), .val (.ref b538), .val (.ref b551), .val (.ref b554), .val (.ref b563), .val (.ref b573), .val (.int (1 : Int32)), .unset] [(.ref b551), (.ref b538)])) _
        refine XS.aload X637.here hx rfl (hb hby at_152) rfl rfl ?_
        show Steps p.tables e below (T637.setTop (mkF m 154 #[.val (.int p0), .val (.int p1), .val (.long q2), .second, .val (.long q3), .second, .val (.int p4), .val (.int p5), .val (.int (0 : Int32)), .val (.int (1 : Int32)), .val (.ref b538), .val (.ref b551), .val (.ref b554), .val (.ref b563), .val (.ref b573), .val (.int (1 : Int32)), .unset] [(.ref b563), (.ref b551), (.ref b538)])) _
        refine XS.iconst X637.here hx rfl (hb hby at_154) ?_
        show Steps p.tables e below (T637.setTop (mkF m 155 #[.val (.int p0), .val (.int p1), .val (.long q2), .second, .val (.long q3), .second, .val (.int p4), .val (.int p5), .val (.int (0 : Int32)), .val (.int (1 : Int32)), .val (.ref b538), .val (.ref b551), .val (.ref b554), .val (.ref b563), .val (.ref b573), .val (.int (1 : Int32)), .unset] [(.int (1 : Int32)), (.ref b563), (.ref b551), (.ref b538)])) _
        refine XS.iloadN X637.here hx rfl (hb hby at_155) rfl ?_
        show Steps p.tables e below (T637.setTop (mkF m 156 #[.val (.int p0), .val (.int p1), .val (.long q2), .second, .val (.long q3), .second, .val (.int p4), .val (.int p5), .val (.int (0 : Int32)), .val (.int (1 : Int32)), .val (.ref b538), .val (.ref b551), .val (.ref b554), .val (.ref b563), .val (.ref b573), .val (.int (1 : Int32)), .unset] [(.int p0), (.int (1 : Int32)), (.ref b563), (.ref b551), (.ref b538)])) _
        refine st643.trans ?_
        show Steps p.tables e below (T643.setTop (mkF m 159 #[.val (.int p0), .val (.int p1), .val (.long q2), .second, .val (.long q3), .second, .val (.int p4), .val (.int p5), .val (.int (0 : Int32)), .val (.int (1 : Int32)), .val (.ref b538), .val (.ref b551), .val (.ref b554), .val (.ref b563), .val (.ref b573), .val (.int (1 : Int32)), .unset] [])) _
        refine XS.aload X643.here hx rfl (hb hby at_159) rfl rfl ?_
        show Steps p.tables e below (T643.setTop (mkF m 161 #[.val (.int p0), .val (.int p1), .val (.long q2), .second, .val (.long q3), .second, .val (.int p4), .val (.int p5), .val (.int (0 : Int32)), .val (.int (1 : Int32)), .val (.ref b538), .val (.ref b551), .val (.ref b554), .val (.ref b563), .val (.ref b573), .val (.int (1 : Int32)), .unset] [(.ref b538)])) _
        refine st649.trans ?_
        show Steps p.tables e below (T649.setTop (mkF m 164 #[.val (.int p0), .val (.int p1), .val (.long q2), .second, .val (.long q3), .second, .val (.int p4), .val (.int p5), .val (.int (0 : Int32)), .val (.int (1 : Int32)), .val (.ref b538), .val (.ref b551), .val (.ref b554), .val (.ref b563), .val (.ref b573), .val (.int (1 : Int32)), .unset] [])) _
        refine XS.iload X649.here hx rfl (hb hby at_164) rfl ?_
        show Steps p.tables e below (T649.setTop (mkF m 166 #[.val (.int p0), .val (.int p1), .val (.long q2), .second, .val (.long q3), .second, .val (.int p4), .val (.int p5), .val (.int (0 : Int32)), .val (.int (1 : Int32)), .val (.ref b538), .val (.ref b551), .val (.ref b554), .val (.ref b563), .val (.ref b573), .val (.int (1 : Int32)), .unset] [(.int (0 : Int32))])) _
        refine XS.ifYes X649.here hx rfl (pc0 := 166) (pc' := 174) rfl (hb hby at_166) rfl ((if0 _ _).trans (teq (by decide : (0 : Int32) = (0 : Int32))).1) (by decide) (by decide) ?_
        show Steps p.tables e below (T649.setTop (mkF m 174 #[.val (.int p0), .val (.int p1), .val (.long q2), .second, .val (.long q3), .second, .val (.int p4), .val (.int p5), .val (.int (0 : Int32)), .val (.int (1 : Int32)), .val (.ref b538), .val (.ref b551), .val (.ref b554), .val (.ref b563), .val (.ref b573), .val (.int (1 : Int32)), .unset] [])) _
        refine XS.iloadN X649.here hx rfl (hb hby at_174) rfl ?_
        show Steps p.tables e below (T649.setTop (mkF m 175 #[.val (.int p0), .val (.int p1), .val (.long q2), .second, .val (.long q3), .second, .val (.int p4), .val (.int p5), .val (.int (0 : Int32)), .val (.int (1 : Int32)), .val (.ref b538), .val (.ref b551), .val (.ref b554), .val (.ref b563), .val (.ref b573), .val (.int (1 : Int32)), .unset] [(.int p1)])) _
        refine XS.istore X649.here hx rfl (hb hby at_175) rfl (l' := #[.val (.int p0), .val (.int p1), .val (.long q2), .second, .val (.long q3), .second, .val (.int p4), .val (.int p5), .val (.int (0 : Int32)), .val (.int (1 : Int32)), .val (.ref b538), .val (.ref b551), .val (.ref b554), .val (.ref b563), .val (.ref b573), .val (.int (1 : Int32)), .val (.int p1)]) rfl ?_
        show Steps p.tables e below (T649.setTop (mkF m 177 #[.val (.int p0), .val (.int p1), .val (.long q2), .second, .val (.long q3), .second, .val (.int p4), .val (.int p5), .val (.int (0 : Int32)), .val (.int (1 : Int32)), .val (.ref b538), .val (.ref b551), .val (.ref b554), .val (.ref b563), .val (.ref b573), .val (.int (1 : Int32)), .val (.int p1)] [])) _
        refine XS.aload X649.here hx rfl (hb hby at_177) rfl rfl ?_
        show Steps p.tables e below (T649.setTop (mkF m 179 #[.val (.int p0), .val (.int p1), .val (.long q2), .second, .val (.long q3), .second, .val (.int p4), .val (.int p5), .val (.int (0 : Int32)), .val (.int (1 : Int32)), .val (.ref b538), .val (.ref b551), .val (.ref b554), .val (.ref b563), .val (.ref b573), .val (.int (1 : Int32)), .val (.int p1)] [(.ref b551)])) _
        exact kt
      have hc183_651 : p1 = p1 := rfl
      have hc200_652 : q2 = q2 := rfl
      have f654 := (f645.keep oK649)
      obtain ⟨cq653, kq653, q653a, q653b, q653c⟩ := isOf hZ rfl f654
      obtain ⟨_, _, ⟨T653, L653, kc653, nc653⟩, -, X653, ⟨Lc653, hQ653, l653, y653, z653⟩, st653⟩ := X649.virtualBack hx (y := (⟨"com/example/tablewise/tablewise/propagation/Trail", "level", "()I"⟩ : MethodName)) (z := (⟨"com/example/tablewise/tablewise/propagation/Trail", "level", "()I"⟩ : MethodName)) hown (mvT hZ (hw _ (List.mem_of_getElem? (i := 61) rfl))) (mvT hZ (hw _ (List.mem_of_getElem? (i := 62) rfl))) (notFace_of_selects (args := #[]) (mvT hZ (hw _ (List.mem_of_getElem? (i := 64) rfl)))) (mvT hZ (hw _ (List.mem_of_getElem? (i := 64) rfl))) (mvT hZ (hw _ (List.mem_of_getElem? (i := 63) rfl))) (by decide) (backOf (W := 0) (rm8 l Z a0 hw [] b538 ((((0 : Int32) + (1 : Int32)) + (1 : Int32)) - (1 : Int32)) T649.heap n0 oFalevel649) hZ (hw _ (List.mem_of_getElem? (i := 65) rfl)) (hw _ (List.mem_of_getElem? (i := 2) rfl)) (by decide) (by decide)) q653a q653c (g := (mkF m 214 #[.val (.int p0), .val (.int p1), .val (.long q2), .second, .val (.long q3), .second, .val (.int p4), .val (.int p5), .val (.int (0 : Int32)), .val (.int (1 : Int32)), .val (.ref b538), .val (.ref b551), .val (.ref b554), .val (.ref b563), .val (.ref b573), .val (.int (1 : Int32)), .val (.int p1)] [(.ref b538)])) rfl (by rw [hml]; rfl) (Steps.refl _) (argsL := []) (rest := []) (lenOf pd_4 rfl) rfl (by show 2 * 0 + _ ≤ _; exact Nat.le_of_eq rfl) (hb hby at_214) (fun _ _ => ⟨rfl, rfl, (by decide : 11 + 0 ≤ _), (by decide : 306 + 0 ≤ _)⟩)
      dsimp only [Pt.U, Pt.locs, Pt.cells, Pt.slots] at X653 l653 y653 z653 st653 hQ653
      rw [l653, y653, z653] at X653
      replace X653 : Stand p l e room_1 s m #[(.int p0), (.int p1), (.long q2), (.long q3), (.int p4), (.int p5)] below meth c T653 _ 11 306 := X653
      obtain ⟨rfl, Nq653, eq653⟩ := hQ653
      have N653 := Fr.app N649 Nq653
      have hc218_655 : ((((0 : Int32) + (1 : Int32)) + (1 : Int32)) - (1 : Int32)) = (1 : Int32) := (by decide)
      have k656 : ∀ tg_, Steps p.tables e below (T653.setTop (mkF m 222 #[.val (.int p0), .val (.int p1), .val (.long q2), .second, .val (.long q3), .second, .val (.int p4), .val (.int p5), .val (.int (0 : Int32)), .val (.int (1 : Int32)), .val (.ref b538), .val (.ref b551), .val (.ref b554), .val (.ref b563), .val (.ref b573), .val (.int (1 : Int32)), .val (.int p1)] [(.int (1 : Int32))])) tg_ → Steps p.tables e below (s₁.setTop (entryFrame m #[(.int p0), (.int p1), (.long q2), (.long q3), (.int p4), (.int p5)] maxLocals)) tg_ := by
        intro tg_ kt
        refine k650 tg_ ?_
        refine XS.iconst X649.here hx rfl (hb hby at_179) ?_
        show Steps p.tables e below (T649.setTop (mkF m 180 #[.val (.int p0), .val (.int p1), .val (.long q2), .second, .val (.long q3), .second, .val (.int p4), .val (.int p5), .val (.int (0 : Int32)), .val (.int (1 : Int32)), .val (.ref b538), .val (.ref b551), .val (.ref b554), .val (.ref b563), .val (.ref b573), .val (.int (1 : Int32)), .val (.int p1)] [(.int (0 : Int32)), (.ref b551)])) _
        refine own_ldI X649 hx hZ rfl oAxi649 (i := 0) (by decide : (0 : Int32).toInt = ((0 : Nat) : Int)) (by decide) rfl (g := (mkF m 180 #[.val (.int p0), .val (.int p1), .val (.long q2), .second, .val (.long q3), .second, .val (.int p4), .val (.int p5), .val (.int (0 : Int32)), .val (.int (1 : Int32)), .val (.ref b538), .val (.ref b551), .val (.ref b554), .val (.ref b563), .val (.ref b573), .val (.int (1 : Int32)), .val (.int p1)] [(.int (0 : Int32)), (.ref b551)])) rfl rfl (hb hby at_180) _ ?_
        show Steps p.tables e below (T649.setTop (mkF m 181 #[.val (.int p0), .val (.int p1), .val (.long q2), .second, .val (.long q3), .second, .val (.int p4), .val (.int p5), .val (.int (0 : Int32)), .val (.int (1 : Int32)), .val (.ref b538), .val (.ref b551), .val (.ref b554), .val (.ref b563), .val (.ref b573), .val (.int (1 : Int32)), .val (.int p1)] [(.int p1)])) _
        refine XS.iload X649.here hx rfl (hb hby at_181) rfl ?_
        show Steps p.tables e below (T649.setTop (mkF m 183 #[.val (.int p0), .val (.int p1), .val (.long q2), .second, .val (.long q3), .second, .val (.int p4), .val (.int p5), .val (.int (0 : Int32)), .val (.int (1 : Int32)), .val (.ref b538), .val (.ref b551), .val (.ref b554), .val (.ref b563), .val (.ref b573), .val (.int (1 : Int32)), .val (.int p1)] [(.int p1), (.int p1)])) _
        refine XS.icmpNo X649.here hx rfl (hb hby at_183) rfl (teq hc183_651).2 ?_
        show Steps p.tables e below (T649.setTop (mkF m 186 #[.val (.int p0), .val (.int p1), .val (.long q2), .second, .val (.long q3), .second, .val (.int p4), .val (.int p5), .val (.int (0 : Int32)), .val (.int (1 : Int32)), .val (.ref b538), .val (.ref b551), .val (.ref b554), .val (.ref b563), .val (.ref b573), .val (.int (1 : Int32)), .val (.int p1)] [])) _
        refine XS.aload X649.here hx rfl (hb hby at_186) rfl rfl ?_
        show Steps p.tables e below (T649.setTop (mkF m 188 #[.val (.int p0), .val (.int p1), .val (.long q2), .second, .val (.long q3), .second, .val (.int p4), .val (.int p5), .val (.int (0 : Int32)), .val (.int (1 : Int32)), .val (.ref b538), .val (.ref b551), .val (.ref b554), .val (.ref b563), .val (.ref b573), .val (.int (1 : Int32)), .val (.int p1)] [(.ref b551)])) _
        refine XS.iconst X649.here hx rfl (hb hby at_188) ?_
        show Steps p.tables e below (T649.setTop (mkF m 189 #[.val (.int p0), .val (.int p1), .val (.long q2), .second, .val (.long q3), .second, .val (.int p4), .val (.int p5), .val (.int (0 : Int32)), .val (.int (1 : Int32)), .val (.ref b538), .val (.ref b551), .val (.ref b554), .val (.ref b563), .val (.ref b573), .val (.int (1 : Int32)), .val (.int p1)] [(.int (1 : Int32)), (.ref b551)])) _
        refine own_ldI X649 hx hZ rfl oAxi649 (i := 1) (by decide : (1 : Int32).toInt = ((1 : Nat) : Int)) (by decide) (own_i2l p1) (g := (mkF m 189 #[.val (.int p0), .val (.int p1), .val (.long q2), .second, .val (.long q3), .second, .val (.int p4), .val (.int p5), .val (.int (0 : Int32)), .val (.int (1 : Int32)), .val (.ref b538), .val (.ref b551), .val (.ref b554), .val (.ref b563), .val (.ref b573), .val (.int (1 : Int32)), .val (.int p1)] [(.int (1 : Int32)), (.ref b551)])) rfl rfl (hb hby at_189) _ ?_
        show Steps p.tables e below (T649.setTop (mkF m 190 #[.val (.int p0), .val (.int p1), .val (.long q2), .second, .val (.long q3), .second, .val (.int p4), .val (.int p5), .val (.int (0 : Int32)), .val (.int (1 : Int32)), .val (.ref b538), .val (.ref b551), .val (.ref b554), .val (.ref b563), .val (.ref b573), .val (.int (1 : Int32)), .val (.int p1)] [(.int p1)])) _
        refine XS.iloadN X649.here hx rfl (hb hby at_190) rfl ?_
        show Steps p.tables e below (T649.setTop (mkF m 191 #[.val (.int p0), .val (.int p1), .val (.long q2), .second, .val (.long q3), .second, .val (.int p4), .val (.int p5), .val (.int (0 : Int32)), .val (.int (1 : Int32)), .val (.ref b538), .val (.ref b551), .val (.ref b554), .val (.ref b563), .val (.ref b573), .val (.int (1 : Int32)), .val (.int p1)] [(.int p1), (.int p1)])) _
        refine XS.icmpNo X649.here hx rfl (hb hby at_191) rfl (teq hc183_651).2 ?_
        show Steps p.tables e below (T649.setTop (mkF m 194 #[.val (.int p0), .val (.int p1), .val (.long q2), .second, .val (.long q3), .second, .val (.int p4), .val (.int p5), .val (.int (0 : Int32)), .val (.int (1 : Int32)), .val (.ref b538), .val (.ref b551), .val (.ref b554), .val (.ref b563), .val (.ref b573), .val (.int (1 : Int32)), .val (.int p1)] [])) _
        refine XS.aload X649.here hx rfl (hb hby at_194) rfl rfl ?_
        show Steps p.tables e below (T649.setTop (mkF m 196 #[.val (.int p0), .val (.int p1), .val (.long q2), .second, .val (.long q3), .second, .val (.int p4), .val (.int p5), .val (.int (0 : Int32)), .val (.int (1 : Int32)), .val (.ref b538), .val (.ref b551), .val (.ref b554), .val (.ref b563), .val (.ref b573), .val (.int (1 : Int32)), .val (.int p1)] [(.ref b554)])) _
        refine XS.iconst X649.here hx rfl (hb hby at_196) ?_
        show Steps p.tables e below (T649.setTop (mkF m 197 #[.val (.int p0), .val (.int p1), .val (.long q2), .second, .val (.long q3), .second, .val (.int p4), .val (.int p5), .val (.int (0 : Int32)), .val (.int (1 : Int32)), .val (.ref b538), .val (.ref b551), .val (.ref b554), .val (.ref b563), .val (.ref b573), .val (.int (1 : Int32)), .val (.int p1)] [(.int (0 : Int32)), (.ref b554)])) _
        refine own_ldJ X649 hx hZ rfl oAxj649 (i := 0) (by decide : (0 : Int32).toInt = ((0 : Nat) : Int)) (by decide) rfl (g := (mkF m 197 #[.val (.int p0), .val (.int p1), .val (.long q2), .second, .val (.long q3), .second, .val (.int p4), .val (.int p5), .val (.int (0 : Int32)), .val (.int (1 : Int32)), .val (.ref b538), .val (.ref b551), .val (.ref b554), .val (.ref b563), .val (.ref b573), .val (.int (1 : Int32)), .val (.int p1)] [(.int (0 : Int32)), (.ref b554)])) rfl rfl (hb hby at_197) _ ?_
        show Steps p.tables e below (T649.setTop (mkF m 198 #[.val (.int p0), .val (.int p1), .val (.long q2), .second, .val (.long q3), .second, .val (.int p4), .val (.int p5), .val (.int (0 : Int32)), .val (.int (1 : Int32)), .val (.ref b538), .val (.ref b551), .val (.ref b554), .val (.ref b563), .val (.ref b573), .val (.int (1 : Int32)), .val (.int p1)] [(.long q2)])) _
        refine XS.lloadN X649.here hx rfl (hb hby at_198) rfl ?_
        show Steps p.tables e below (T649.setTop (mkF m 199 #[.val (.int p0), .val (.int p1), .val (.long q2), .second, .val (.long q3), .second, .val (.int p4), .val (.int p5), .val (.int (0 : Int32)), .val (.int (1 : Int32)), .val (.ref b538), .val (.ref b551), .val (.ref b554), .val (.ref b563), .val (.ref b573), .val (.int (1 : Int32)), .val (.int p1)] [(.long q2), (.long q2)])) _
        refine XS.lcmp X649.here hx rfl (hb hby at_199) rfl ?_
        show Steps p.tables e below (T649.setTop (mkF m 200 #[.val (.int p0), .val (.int p1), .val (.long q2), .second, .val (.long q3), .second, .val (.int p4), .val (.int p5), .val (.int (0 : Int32)), .val (.int (1 : Int32)), .val (.ref b538), .val (.ref b551), .val (.ref b554), .val (.ref b563), .val (.ref b573), .val (.int (1 : Int32)), .val (.int p1)] [(.int (lcmpW q2 q2))])) _
        refine XS.ifNo X649.here hx rfl (hb hby at_200) rfl ((if0 _ _).trans (teq ((show ((lcmpW q2 q2) = 0) ↔ (q2 = q2) from lw_eq q2 q2).mpr hc200_652)).2) ?_
        show Steps p.tables e below (T649.setTop (mkF m 203 #[.val (.int p0), .val (.int p1), .val (.long q2), .second, .val (.long q3), .second, .val (.int p4), .val (.int p5), .val (.int (0 : Int32)), .val (.int (1 : Int32)), .val (.ref b538), .val (.ref b551), .val (.ref b554), .val (.ref b563), .val (.ref b573), .val (.int (1 : Int32)), .val (.int p1)] [])) _
        refine XS.aload X649.here hx rfl (hb hby at_203) rfl rfl ?_
        show Steps p.tables e below (T649.setTop (mkF m 205 #[.val (.int p0), .val (.int p1), .val (.long q2), .second, .val (.long q3), .second, .val (.int p4), .val (.int p5), .val (.int (0 : Int32)), .val (.int (1 : Int32)), .val (.ref b538), .val (.ref b551), .val (.ref b554), .val (.ref b563), .val (.ref b573), .val (.int (1 : Int32)), .val (.int p1)] [(.ref b554)])) _
        refine XS.iconst X649.here hx rfl (hb hby at_205) ?_
        show Steps p.tables e below (T649.setTop (mkF m 206 #[.val (.int p0), .val (.int p1), .val (.long q2), .second, .val (.long q3), .second, .val (.int p4), .val (.int p5), .val (.int (0 : Int32)), .val (.int (1 : Int32)), .val (.ref b538), .val (.ref b551), .val (.ref b554), .val (.ref b563), .val (.ref b573), .val (.int (1 : Int32)), .val (.int p1)] [(.int (1 : Int32)), (.ref b554)])) _
        refine own_ldJ X649 hx hZ rfl oAxj649 (i := 1) (by decide : (1 : Int32).toInt = ((1 : Nat) : Int)) (by decide) rfl (g := (mkF m 206 #[.val (.int p0), .val (.int p1), .val (.long q2), .second, .val (.long q3), .second, .val (.int p4), .val (.int p5), .val (.int (0 : Int32)), .val (.int (1 : Int32)), .val (.ref b538), .val (.ref b551), .val (.ref b554), .val (.ref b563), .val (.ref b573), .val (.int (1 : Int32)), .val (.int p1)] [(.int (1 : Int32)), (.ref b554)])) rfl rfl (hb hby at_206) _ ?_
        show Steps p.tables e below (T649.setTop (mkF m 207 #[.val (.int p0), .val (.int p1), .val (.long q2), .second, .val (.long q3), .second, .val (.int p4), .val (.int p5), .val (.int (0 : Int32)), .val (.int (1 : Int32)), .val (.ref b538), .val (.ref b551), .val (.ref b554), .val (.ref b563), .val (.ref b573), .val (.int (1 : Int32)), .val (.int p1)] [(.long q2)])) _
        refine XS.lloadN X649.here hx rfl (hb hby at_207) rfl ?_
        show Steps p.tables e below (T649.setTop (mkF m 208 #[.val (.int p0), .val (.int p1), .val (.long q2), .second, .val (.long q3), .second, .val (.int p4), .val (.int p5), .val (.int (0 : Int32)), .val (.int (1 : Int32)), .val (.ref b538), .val (.ref b551), .val (.ref b554), .val (.ref b563), .val (.ref b573), .val (.int (1 : Int32)), .val (.int p1)] [(.long q2), (.long q2)])) _
        refine XS.lcmp X649.here hx rfl (hb hby at_208) rfl ?_
        show Steps p.tables e below (T649.setTop (mkF m 209 #[.val (.int p0), .val (.int p1), .val (.long q2), .second, .val (.long q3), .second, .val (.int p4), .val (.int p5), .val (.int (0 : Int32)), .val (.int (1 : Int32)), .val (.ref b538), .val (.ref b551), .val (.ref b554), .val (.ref b563), .val (.ref b573), .val (.int (1 : Int32)), .val (.int p1)] [(.int (lcmpW q2 q2))])) _
        refine XS.ifNo X649.here hx rfl (hb hby at_209) rfl ((if0 _ _).trans (teq ((show ((lcmpW q2 q2) = 0) ↔ (q2 = q2) from lw_eq q2 q2).mpr hc200_652)).2) ?_
        show Steps p.tables e below (T649.setTop (mkF m 212 #[.val (.int p0), .val (.int p1), .val (.long q2), .second, .val (.long q3), .second, .val (.int p4), .val (.int p5), .val (.int (0 : Int32)), .val (.int (1 : Int32)), .val (.ref b538), .val (.ref b551), .val (.ref b554), .val (.ref b563), .val (.ref b573), .val (.int (1 : Int32)), .val (.int p1)] [])) _
        refine XS.aload X649.here hx rfl (hb hby at_212) rfl rfl ?_
        show Steps p.tables e below (T649.setTop (mkF m 214 #[.val (.int p0), .val (.int p1), .val (.long q2), .second, .val (.long q3), .second, .val (.int p4), .val (.int p5), .val (.int (0 : Int32)), .val (.int (1 : Int32)), .val (.ref b538), .val (.ref b551), .val (.ref b554), .val (.ref b563), .val (.ref b573), .val (.int (1 : Int32)), .val (.int p1)] [(.ref b538)])) _
        refine st653.trans ?_
        show Steps p.tables e below (T653.setTop (mkF m 217 #[.val (.int p0), .val (.int p1), .val (.long q2), .second, .val (.long q3), .second, .val (.int p4), .val (.int p5), .val (.int (0 : Int32)), .val (.int (1 : Int32)), .val (.ref b538), .val (.ref b551), .val (.ref b554), .val (.ref b563), .val (.ref b573), .val (.int (1 : Int32)), .val (.int p1)] [(.int ((((0 : Int32) + (1 : Int32)) + (1 : Int32)) - (1 : Int32)))])) _
        refine XS.iconst X653.here hx rfl (hb hby at_217) ?_
        show Steps p.tables e below (T653.setTop (mkF m 218 #[.val (.int p0), .val (.int p1), .val (.long q2), .second, .val (.long q3), .second, .val (.int p4), .val (.int p5), .val (.int (0 : Int32)), .val (.int (1 : Int32)), .val (.ref b538), .val (.ref b551), .val (.ref b554), .val (.ref b563), .val (.ref b573), .val (.int (1 : Int32)), .val (.int p1)] [(.int (1 : Int32)), (.int ((((0 : Int32) + (1 : Int32)) + (1 : Int32)) - (1 : Int32)))])) _
        refine XS.icmpNo X653.here hx rfl (hb hby at_218) rfl (teq hc218_655).2 ?_
        show Steps p.tables e below (T653.setTop (mkF m 221 #[.val (.int p0), .val (.int p1), .val (.long q2), .second, .val (.long q3), .second, .val (.int p4), .val (.int p5), .val (.int (0 : Int32)), .val (.int (1 : Int32)), .val (.ref b538), .val (.ref b551), .val (.ref b554), .val (.ref b563), .val (.ref b573), .val (.int (1 : Int32)), .val (.int p1)] [])) _
        refine XS.iconst X653.here hx rfl (hb hby at_221) ?_
        show Steps p.tables e below (T653.setTop (mkF m 222 #[.val (.int p0), .val (.int p1), .val (.long q2), .second, .val (.long q3), .second, .val (.int p4), .val (.int p5), .val (.int (0 : Int32)), .val (.int (1 : Int32)), .val (.ref b538), .val (.ref b551), .val (.ref b554), .val (.ref b563), .val (.ref b573), .val (.int (1 : Int32)), .val (.int p1)] [(.int (1 : Int32))])) _
        exact kt
      have f657 := (Nat.le_trans f644 oK649.1)
      have f658 := (((f630.keep oK637).keep oK643).keep oK649)
      have f659 := (oAsi643.keep oK649 (ninS (Ne.symm ni_a_si) (ninS (Ne.symm ni_ia_si) (ninS (Ne.symm ni_la_si) (ninS ne_si550_b551 (ninS ne_si550_b554 nin0))))))
      have f660 := (oAov643.keep oK649 (ninS (Ne.symm ni_a_ov) (ninS (Ne.symm ni_ia_ov) (ninS (Ne.symm ni_la_ov) (ninS ne_ov550_b551 (ninS ne_ov550_b554 nin0))))))
      have f661 := ((oAmk637.keep oK643 (ninS (Ne.symm ne_b538_b573) (ninS (Ne.symm ne_ia550_b573) (ninS (Ne.symm ne_la550_b573) (ninS (Ne.symm ne_si550_b573) (ninS (Ne.symm ne_ov550_b573) (ninS (Ne.symm ne_b551_b573) (ninS (Ne.symm ne_b563_b573) nin0)))))))).keep oK649 (ninS (Ne.symm ne_b538_b573) (ninS (Ne.symm ne_ia550_b573) (ninS (Ne.symm ne_la550_b573) (ninS (Ne.symm ne_b551_b573) (ninS (Ne.symm ne_b554_b573) nin0))))))
      obtain ⟨cq662, kq662, q662a, q662b, q662c⟩ := isOf hZ eq653 f654
      obtain ⟨_, _, ⟨T662, L662, kc662, nc662⟩, -, X662, ⟨Lc662, hQ662, l662, y662, z662⟩, st662⟩ := X653.virtualBack hx (y := (⟨"com/example/tablewise/tablewise/propagation/Trail", "set", "([J[JIJ)V"⟩ : MethodName)) (z := (⟨"com/example/tablewise/tablewise/propagation/Trail", "set", "([J[JIJ)V"⟩ : MethodName)) hown (mvT hZ (hw _ (List.mem_of_getElem? (i := 50) rfl))) (mvT hZ (hw _ (List.mem_of_getElem? (i := 51) rfl))) (notFace_of_selects (args := #[]) (mvT hZ (hw _ (List.mem_of_getElem? (i := 53) rfl)))) (mvT hZ (hw _ (List.mem_of_getElem? (i := 53) rfl))) (mvT hZ (hw _ (List.mem_of_getElem? (i := 52) rfl))) (by decide) (backOf (W := 0) (rmsetJr l Z a0 hw [] b538 b554 b573 (0 : Int32) q3 ia550 la550 si550 ov550 ls550 os550 (2 : Int32) ((((0 : Int32) + (1 : Int32)) + (1 : Int32)) - (1 : Int32)) ((own_upd (own_upd (fun _ => 0) 0 (0 : Int64)) 1 ((0 : Int64) + (1 : Int64))) 1) (((0 : Int64) + (1 : Int64)) + (1 : Int64)) 2 (own_upd (own_upd (own_upd (own_upd (own_upd (fun _ => .null) 0 (.ref b551)) 1 .null) 2 .null) 3 (.ref b551)) 3 .null) (own_upd (own_upd (own_upd (own_upd (own_upd (fun _ => .null) 0 .null) 1 (.ref b554)) 2 (.ref b554)) 3 .null) 2 .null) (own_upd (own_upd (own_upd (own_upd (fun _ => 0) 0 (0 : Int32)) 1 (1 : Int32)) 2 (1 : Int32)) 3 (1 : Int32)) (own_upd (own_upd (own_upd (own_upd (fun _ => 0) 0 (((own_upd (own_upd (fun _ => 0) 0 p0) 1 p1) 0).toInt64)) 1 ((own_upd (own_upd (fun _ => 0) 0 q2) 1 q3) 1)) 2 ((own_upd (own_upd (own_upd (fun _ => 0) 0 q2) 1 q3) 1 q2) 1)) 3 (((own_upd (own_upd (own_upd (fun _ => 0) 0 p0) 1 p1) 0 p1) 1).toInt64)) 0 (own_upd (own_upd (own_upd (own_upd (own_upd (fun _ => 0) 0 q2) 1 q3) 1 q2) 1 (p4.toInt64)) 1 ((own_upd (own_upd (own_upd (own_upd (fun _ => 0) 0 (((own_upd (own_upd (fun _ => 0) 0 p0) 1 p1) 0).toInt64)) 1 ((own_upd (own_upd (fun _ => 0) 0 q2) 1 q3) 1)) 2 ((own_upd (own_upd (own_upd (fun _ => 0) 0 q2) 1 q3) 1 q2) 1)) 3 (((own_upd (own_upd (own_upd (fun _ => 0) 0 p0) 1 p1) 0 p1) 1).toInt64)) 2)) (own_upd (own_upd (fun _ => 0) 1 ((0 : Int64) + (1 : Int64))) 1 (((0 : Int64) + (1 : Int64)) + (1 : Int64))) T649.heap n0 f657 f654 f658 oFaintArrays649 oFalongArrays649 oFaslotIndices649 oFaoldValues649 oFaentries649 oFalevelStarts649 oFaouterStamps649 oFalevel649 oFastamp649 oFalastStamp649 oAia649 oAla649 f659 f660 oAxj649 f661 ge_b538 gi_ia gi_la gi_si gi_ov ge_b554 ge_b573 ni_a_ia ni_a_la ni_a_si ni_a_ov ne_b538_b554 ne_b538_b573 ni_ia_la ni_ia_si ni_ia_ov ne_ia550_b554 ne_ia550_b573 ni_la_si ni_la_ov ne_la550_b554 ne_la550_b573 ni_si_ov ne_si550_b554 ne_si550_b573 ne_ov550_b554 ne_ov550_b573 ne_b554_b573 (by decide) (by decide) (by decide) (by decide) (by decide)) hZ (hw _ (List.mem_of_getElem? (i := 54) rfl)) (hw _ (List.mem_of_getElem? (i := 2) rfl)) (by decide) (by decide)) q662a q662c (g := (mkF m 237 #[.val (.int p0), .val (.int p1), .val (.long q2), .second, .val (.long q3), .second, .val (.int p4), .val (.int p5), .val (.int (0 : Int32)), .val (.int (1 : Int32)), .val (.ref b538), .val (.ref b551), .val (.ref b554), .val (.ref b563), .val (.ref b573), .val (.int (1 : Int32)), .val (.int p1)] [(.long q3), (.int (0 : Int32)), (.ref b573), (.ref b554), (.ref b538)])) rfl (by rw [hml]; rfl) (Steps.refl _) (argsL := [(.ref b554), (.ref b573), (.int (0 : Int32)), (.long q3)]) (rest := []) (lenOf pd_3 rfl) rfl (by show 2 * 0 + _ ≤ _; exact Nat.le_of_eq rfl) (hb hby at_237) (fun _ _ => ⟨rfl, eq653, (by decide : 11 + 0 ≤ _), (by decide : 306 + 0 ≤ _)⟩)
      dsimp only [Pt.U, Pt.locs, Pt.cells, Pt.slots] at X662 l662 y662 z662 st662 hQ662
      rw [l662, y662, z662] at X662
      replace X662 : Stand p l e room_1 s m #[(.int p0), (.int p1), (.long q2), (.long q3), (.int p4), (.int p5)] below meth c T662 _ 11 306 := X662
      obtain ⟨rfl, Nq662, oK662, oFaintArrays662, oFalongArrays662, oFaslotIndices662, oFaoldValues662, oFalevelStarts662, oFaouterStamps662, oFalevel662, oFastamp662, oFalastStamp662, oFaentries662, oAia662, oAla662, oAsi662, oAov662, oAar662, oAmk662⟩ := hQ662
      have N662 := Fr.app N653 Nq662
      have f663 := (Nat.le_trans f657 oK662.1)
      have f664 := (f654.keep oK662)
      have f665 := ((f646.keep oK649 (ninS (Ne.symm ni_a_ls) (ninS (Ne.symm ni_ia_ls) (ninS (Ne.symm ni_la_ls) (ninS ne_ls550_b551 (ninS ne_ls550_b554 nin0)))))).keep oK662 (ninS (Ne.symm ni_a_ls) (ninS (Ne.symm ni_ia_ls) (ninS (Ne.symm ni_la_ls) (ninS (Ne.symm ni_si_ls) (ninS (Ne.symm ni_ov_ls) (ninS ne_ls550_b554 (ninS ne_ls550_b573 nin0))))))))
      have f666 := ((f647.keep oK649 (ninS (Ne.symm ni_a_os) (ninS (Ne.symm ni_ia_os) (ninS (Ne.symm ni_la_os) (ninS ne_os550_b551 (ninS ne_os550_b554 nin0)))))).keep oK662 (ninS (Ne.symm ni_a_os) (ninS (Ne.symm ni_ia_os) (ninS (Ne.symm ni_la_os) (ninS (Ne.symm ni_si_os) (ninS (Ne.symm ni_ov_os) (ninS ne_os550_b554 (ninS ne_os550_b573 nin0))))))))
      have f667 := (oAxi649.keep oK662 (ninS (Ne.symm ne_b538_b551) (ninS (Ne.symm ne_ia550_b551) (ninS (Ne.symm ne_la550_b551) (ninS (Ne.symm ne_si550_b551) (ninS (Ne.symm ne_ov550_b551) (ninS ne_b551_b554 (ninS ne_b551_b573 nin0))))))))
      obtain ⟨cq668, kq668, q668a, q668b, q668c⟩ := isOf hZ rfl f664
      obtain ⟨_, _, ⟨T668, L668, kc668, nc668⟩, -, X668, ⟨Lc668, hQ668, l668, y668, z668⟩, st668⟩ := X662.virtualBack hx (y := (⟨"com/example/tablewise/tablewise/propagation/Trail", "closeLevel", "()V"⟩ : MethodName)) (z := (⟨"com/example/tablewise/tablewise/propagation/Trail", "closeLevel", "()V"⟩ : MethodName)) hown (mvT hZ (hw _ (List.mem_of_getElem? (i := 56) rfl))) (mvT hZ (hw _ (List.mem_of_getElem? (i := 57) rfl))) (notFace_of_selects (args := #[]) (mvT hZ (hw _ (List.mem_of_getElem? (i := 59) rfl)))) (mvT hZ (hw _ (List.mem_of_getElem? (i := 59) rfl))) (mvT hZ (hw _ (List.mem_of_getElem? (i := 58) rfl))) (by decide) (backOf (W := 0) (rmclB l Z a0 hw [] b538 ia550 la550 si550 ov550 ls550 os550 ((2 : Int32) + (1 : Int32)) ((((0 : Int32) + (1 : Int32)) + (1 : Int32)) - (1 : Int32)) ((own_upd (own_upd (fun _ => 0) 0 (0 : Int64)) 1 ((0 : Int64) + (1 : Int64))) 1) (((0 : Int64) + (1 : Int64)) + (1 : Int64)) (own_upd (own_upd (own_upd (own_upd (own_upd (own_upd (fun _ => .null) 0 (.ref b551)) 1 .null) 2 .null) 3 (.ref b551)) 3 .null) 2 .null) (own_upd (own_upd (own_upd (own_upd (own_upd (own_upd (fun _ => .null) 0 .null) 1 (.ref b554)) 2 (.ref b554)) 3 .null) 2 .null) 2 (.ref b554)) (own_upd (own_upd (own_upd (own_upd (own_upd (fun _ => 0) 0 (0 : Int32)) 1 (1 : Int32)) 2 (1 : Int32)) 3 (1 : Int32)) 2 (0 : Int32)) (own_upd (own_upd (own_upd (own_upd (own_upd (fun _ => 0) 0 (((own_upd (own_upd (fun _ => 0) 0 p0) 1 p1) 0).toInt64)) 1 ((own_upd (own_upd (fun _ => 0) 0 q2) 1 q3) 1)) 2 ((own_upd (own_upd (own_upd (fun _ => 0) 0 q2) 1 q3) 1 q2) 1)) 3 (((own_upd (own_upd (own_upd (fun _ => 0) 0 p0) 1 p1) 0 p1) 1).toInt64)) 2 ((own_upd (own_upd (own_upd (own_upd (own_upd (fun _ => 0) 0 q2) 1 q3) 1 q2) 1 (p4.toInt64)) 1 ((own_upd (own_upd (own_upd (own_upd (fun _ => 0) 0 (((own_upd (own_upd (fun _ => 0) 0 p0) 1 p1) 0).toInt64)) 1 ((own_upd (own_upd (fun _ => 0) 0 q2) 1 q3) 1)) 2 ((own_upd (own_upd (own_upd (fun _ => 0) 0 q2) 1 q3) 1 q2) 1)) 3 (((own_upd (own_upd (own_upd (fun _ => 0) 0 p0) 1 p1) 0 p1) 1).toInt64)) 2)) 0)) b551 b554 0 (own_upd (own_upd (fun _ => 0) 0 (0 : Int32)) 1 (((0 : Int32) + (1 : Int32)) + (1 : Int32))) (own_upd (own_upd (fun _ => 0) 0 (0 : Int64)) 1 ((0 : Int64) + (1 : Int64))) (own_upd (own_upd (own_upd (own_upd (own_upd (fun _ => 0) 0 p0) 1 p1) 0 p1) 1 p0) 1 (((own_upd (own_upd (own_upd (own_upd (fun _ => 0) 0 (((own_upd (own_upd (fun _ => 0) 0 p0) 1 p1) 0).toInt64)) 1 ((own_upd (own_upd (fun _ => 0) 0 q2) 1 q3) 1)) 2 ((own_upd (own_upd (own_upd (fun _ => 0) 0 q2) 1 q3) 1 q2) 1)) 3 (((own_upd (own_upd (own_upd (fun _ => 0) 0 p0) 1 p1) 0 p1) 1).toInt64)) 3).toInt32)) (own_upd (own_upd (own_upd (own_upd (own_upd (own_upd (fun _ => 0) 0 q2) 1 q3) 1 q2) 1 (p4.toInt64)) 1 ((own_upd (own_upd (own_upd (own_upd (fun _ => 0) 0 (((own_upd (own_upd (fun _ => 0) 0 p0) 1 p1) 0).toInt64)) 1 ((own_upd (own_upd (fun _ => 0) 0 q2) 1 q3) 1)) 2 ((own_upd (own_upd (own_upd (fun _ => 0) 0 q2) 1 q3) 1 q2) 1)) 3 (((own_upd (own_upd (own_upd (fun _ => 0) 0 p0) 1 p1) 0 p1) 1).toInt64)) 2)) 0 q3) T662.heap n0 f663 f664 oFaintArrays662 oFalongArrays662 oFaslotIndices662 oFaoldValues662 oFaentries662 oFalevelStarts662 oFaouterStamps662 oFalevel662 oFastamp662 oFalastStamp662 oAia662 oAla662 oAsi662 oAov662 f665 f666 f667 oAar662 ge_b538 gi_ia gi_la ge_b551 ge_b554 ni_a_ia ni_a_la ni_a_si ni_a_ov ni_a_ls ni_a_os ne_b538_b551 ne_b538_b554 ni_ia_la ni_ia_si ni_ia_ov ni_ia_ls ni_ia_os ne_ia550_b551 ne_ia550_b554 ni_la_si ni_la_ov ni_la_ls ni_la_os ne_la550_b551 ne_la550_b554 ni_si_ov ni_si_ls ni_si_os ne_si550_b551 ne_si550_b554 ni_ov_ls ni_ov_os ne_ov550_b551 ne_ov550_b554 ni_ls_os ne_ls550_b551 ne_ls550_b554 ne_os550_b551 ne_os550_b554 ne_b551_b554 (by decide) (by decide) (by decide) (by decide) rfl rfl rfl rfl rfl rfl rfl rfl) hZ (hw _ (List.mem_of_getElem? (i := 60) rfl)) (hw _ (List.mem_of_getElem? (i := 2) rfl)) (by decide) (by decide)) q668a q668c (g := (mkF m 242 #[.val (.int p0), .val (.int p1), .val (.long q2), .second, .val (.long q3), .second, .val (.int p4), .val (.int p5), .val (.int (0 : Int32)), .val (.int (1 : Int32)), .val (.ref b538), .val (.ref b551), .val (.ref b554), .val (.ref b563), .val (.ref b573), .val (.int (1 : Int32)), .val (.int p1)] [(.ref b538)])) rfl (by rw [hml]; rfl) (Steps.refl _) (argsL := []) (rest := []) (lenOf pd_0 rfl) rfl (by show 2 * 0 + _ ≤ _; exact Nat.le_of_eq rfl) (hb hby at_242) (fun _ _ => ⟨rfl, rfl, (by decide : 11 + 0 ≤ _), (by decide : 306 + 0 ≤ _)⟩)
      dsimp only [Pt.U, Pt.locs, Pt.cells, Pt.slots] at X668 l668 y668 z668 st668 hQ668
      rw [l668, y668, z668] at X668
      replace X668 : Stand p l e room_1 s m #[(.int p0), (.int p1), (.long q2), (.long q3), (.int p4), (.int p5)] below meth c T668 _ 11 306 := X668
      obtain ⟨rfl, Nq668, oK668, oFaintArrays668, oFalongArrays668, oFaslotIndices668, oFaoldValues668, oFalevelStarts668, oFaouterStamps668, oFalastStamp668, oFaentries668, oFalevel668, oFastamp668, oAia668, oAla668, oAxi668, oAxj668⟩ := hQ668
      have N668 := Fr.app N662 Nq668
      have hc255_669 : p0 = p0 := rfl
      have k670 : ∀ tg_, Steps p.tables e below (T668.setTop (mkF m 271 #[.val (.int p0), .val (.int p1), .val (.long q2), .second, .val (.long q3), .second, .val (.int p4), .val (.int p5), .val (.int (0 : Int32)), .val (.int (1 : Int32)), .val (.ref b538), .val (.ref b551), .val (.ref b554), .val (.ref b563), .val (.ref b573), .val (.int (1 : Int32)), .val (.int p1)] [(.long q2), (.long q2)])) tg_ → Steps p.tables e below (s₁.setTop (entryFrame m #[(.int p0), (.int p1), (.long q2), (.long q3), (.int p4), (.int p5)] maxLocals)) tg_ := by
        intro tg_ kt
        refine k656 tg_ ?_
        refine XS.goto X653.here hx rfl (pc0 := 222) (pc' := 226) rfl (hb hby at_222) (by decide) (by decide) ?_
        show Steps p.tables e below (T653.setTop (mkF m 226 #[.val (.int p0), .val (.int p1), .val (.long q2), .second, .val (.long q3), .second, .val (.int p4), .val (.int p5), .val (.int (0 : Int32)), .val (.int (1 : Int32)), .val (.ref b538), .val (.ref b551), .val (.ref b554), .val (.ref b563), .val (.ref b573), .val (.int (1 : Int32)), .val (.int p1)] [(.int (1 : Int32))])) _
        refine XS.istore X653.here hx rfl (hb hby at_226) rfl (l' := #[.val (.int p0), .val (.int p1), .val (.long q2), .second, .val (.long q3), .second, .val (.int p4), .val (.int p5), .val (.int (0 : Int32)), .val (.int (1 : Int32)), .val (.ref b538), .val (.ref b551), .val (.ref b554), .val (.ref b563), .val (.ref b573), .val (.int (1 : Int32)), .val (.int p1)]) rfl ?_
        show Steps p.tables e below (T653.setTop (mkF m 228 #[.val (.int p0), .val (.int p1), .val (.long q2), .second, .val (.long q3), .second, .val (.int p4), .val (.int p5), .val (.int (0 : Int32)), .val (.int (1 : Int32)), .val (.ref b538), .val (.ref b551), .val (.ref b554), .val (.ref b563), .val (.ref b573), .val (.int (1 : Int32)), .val (.int p1)] [])) _
        refine XS.aload X653.here hx rfl (hb hby at_228) rfl rfl ?_
        show Steps p.tables e below (T653.setTop (mkF m 230 #[.val (.int p0), .val (.int p1), .val (.long q2), .second, .val (.long q3), .second, .val (.int p4), .val (.int p5), .val (.int (0 : Int32)), .val (.int (1 : Int32)), .val (.ref b538), .val (.ref b551), .val (.ref b554), .val (.ref b563), .val (.ref b573), .val (.int (1 : Int32)), .val (.int p1)] [(.ref b538)])) _
        refine XS.aload X653.here hx rfl (hb hby at_230) rfl rfl ?_
        show Steps p.tables e below (T653.setTop (mkF m 232 #[.val (.int p0), .val (.int p1), .val (.long q2), .second, .val (.long q3), .second, .val (.int p4), .val (.int p5), .val (.int (0 : Int32)), .val (.int (1 : Int32)), .val (.ref b538), .val (.ref b551), .val (.ref b554), .val (.ref b563), .val (.ref b573), .val (.int (1 : Int32)), .val (.int p1)] [(.ref b554), (.ref b538)])) _
        refine XS.aload X653.here hx rfl (hb hby at_232) rfl rfl ?_
        show Steps p.tables e below (T653.setTop (mkF m 234 #[.val (.int p0), .val (.int p1), .val (.long q2), .second, .val (.long q3), .second, .val (.int p4), .val (.int p5), .val (.int (0 : Int32)), .val (.int (1 : Int32)), .val (.ref b538), .val (.ref b551), .val (.ref b554), .val (.ref b563), .val (.ref b573), .val (.int (1 : Int32)), .val (.int p1)] [(.ref b573), (.ref b554), (.ref b538)])) _
        refine XS.iconst X653.here hx rfl (hb hby at_234) ?_
        show Steps p.tables e below (T653.setTop (mkF m 235 #[.val (.int p0), .val (.int p1), .val (.long q2), .second, .val (.long q3), .second, .val (.int p4), .val (.int p5), .val (.int (0 : Int32)), .val (.int (1 : Int32)), .val (.ref b538), .val (.ref b551), .val (.ref b554), .val (.ref b563), .val (.ref b573), .val (.int (1 : Int32)), .val (.int p1)] [(.int (0 : Int32)), (.ref b573), (.ref b554), (.ref b538)])) _
        refine XS.lload X653.here hx rfl (hb hby at_235) rfl ?_
        show Steps p.tables e below (T653.setTop (mkF m 237 #[.val (.int p0), .val (.int p1), .val (.long q2), .second, .val (.long q3), .second, .val (.int p4), .val (.int p5), .val (.int (0 : Int32)), .val (.int (1 : Int32)), .val (.ref b538), .val (.ref b551), .val (.ref b554), .val (.ref b563), .val (.ref b573), .val (.int (1 : Int32)), .val (.int p1)] [(.long q3), (.int (0 : Int32)), (.ref b573), (.ref b554), (.ref b538)])) _
        refine st662.trans ?_
        show Steps p.tables e below (T662.setTop (mkF m 240 #[.val (.int p0), .val (.int p1), .val (.long q2), .second, .val (.long q3), .second, .val (.int p4), .val (.int p5), .val (.int (0 : Int32)), .val (.int (1 : Int32)), .val (.ref b538), .val (.ref b551), .val (.ref b554), .val (.ref b563), .val (.ref b573), .val (.int (1 : Int32)), .val (.int p1)] [])) _
        refine XS.aload X662.here hx rfl (hb hby at_240) rfl rfl ?_
        show Steps p.tables e below (T662.setTop (mkF m 242 #[.val (.int p0), .val (.int p1), .val (.long q2), .second, .val (.long q3), .second, .val (.int p4), .val (.int p5), .val (.int (0 : Int32)), .val (.int (1 : Int32)), .val (.ref b538), .val (.ref b551), .val (.ref b554), .val (.ref b563), .val (.ref b573), .val (.int (1 : Int32)), .val (.int p1)] [(.ref b538)])) _
        refine st668.trans ?_
        show Steps p.tables e below (T668.setTop (mkF m 245 #[.val (.int p0), .val (.int p1), .val (.long q2), .second, .val (.long q3), .second, .val (.int p4), .val (.int p5), .val (.int (0 : Int32)), .val (.int (1 : Int32)), .val (.ref b538), .val (.ref b551), .val (.ref b554), .val (.ref b563), .val (.ref b573), .val (.int (1 : Int32)), .val (.int p1)] [])) _
        refine XS.iload X668.here hx rfl (hb hby at_245) rfl ?_
        show Steps p.tables e below (T668.setTop (mkF m 247 #[.val (.int p0), .val (.int p1), .val (.long q2), .second, .val (.long q3), .second, .val (.int p4), .val (.int p5), .val (.int (0 : Int32)), .val (.int (1 : Int32)), .val (.ref b538), .val (.ref b551), .val (.ref b554), .val (.ref b563), .val (.ref b573), .val (.int (1 : Int32)), .val (.int p1)] [(.int (1 : Int32))])) _
        refine XS.ifNo X668.here hx rfl (hb hby at_247) rfl ((if0 _ _).trans (feq (by decide : ¬ ((1 : Int32) = (0 : Int32)))).1) ?_
        show Steps p.tables e below (T668.setTop (mkF m 250 #[.val (.int p0), .val (.int p1), .val (.long q2), .second, .val (.long q3), .second, .val (.int p4), .val (.int p5), .val (.int (0 : Int32)), .val (.int (1 : Int32)), .val (.ref b538), .val (.ref b551), .val (.ref b554), .val (.ref b563), .val (.ref b573), .val (.int (1 : Int32)), .val (.int p1)] [])) _
        refine XS.aload X668.here hx rfl (hb hby at_250) rfl rfl ?_
        show Steps p.tables e below (T668.setTop (mkF m 252 #[.val (.int p0), .val (.int p1), .val (.long q2), .second, .val (.long q3), .second, .val (.int p4), .val (.int p5), .val (.int (0 : Int32)), .val (.int (1 : Int32)), .val (.ref b538), .val (.ref b551), .val (.ref b554), .val (.ref b563), .val (.ref b573), .val (.int (1 : Int32)), .val (.int p1)] [(.ref b551)])) _
        refine XS.iconst X668.here hx rfl (hb hby at_252) ?_
        show Steps p.tables e below (T668.setTop (mkF m 253 #[.val (.int p0), .val (.int p1), .val (.long q2), .second, .val (.long q3), .second, .val (.int p4), .val (.int p5), .val (.int (0 : Int32)), .val (.int (1 : Int32)), .val (.ref b538), .val (.ref b551), .val (.ref b554), .val (.ref b563), .val (.ref b573), .val (.int (1 : Int32)), .val (.int p1)] [(.int (0 : Int32)), (.ref b551)])) _
        refine own_ldI X668 hx hZ rfl oAxi668 (i := 0) (by decide : (0 : Int32).toInt = ((0 : Nat) : Int)) (by decide) (own_i2l p0) (g := (mkF m 253 #[.val (.int p0), .val (.int p1), .val (.long q2), .second, .val (.long q3), .second, .val (.int p4), .val (.int p5), .val (.int (0 : Int32)), .val (.int (1 : Int32)), .val (.ref b538), .val (.ref b551), .val (.ref b554), .val (.ref b563), .val (.ref b573), .val (.int (1 : Int32)), .val (.int p1)] [(.int (0 : Int32)), (.ref b551)])) rfl rfl (hb hby at_253) _ ?_
        show Steps p.tables e below (T668.setTop (mkF m 254 #[.val (.int p0), .val (.int p1), .val (.long q2), .second, .val (.long q3), .second, .val (.int p4), .val (.int p5), .val (.int (0 : Int32)), .val (.int (1 : Int32)), .val (.ref b538), .val (.ref b551), .val (.ref b554), .val (.ref b563), .val (.ref b573), .val (.int (1 : Int32)), .val (.int p1)] [(.int p0)])) _
        refine XS.iloadN X668.here hx rfl (hb hby at_254) rfl ?_
        show Steps p.tables e below (T668.setTop (mkF m 255 #[.val (.int p0), .val (.int p1), .val (.long q2), .second, .val (.long q3), .second, .val (.int p4), .val (.int p5), .val (.int (0 : Int32)), .val (.int (1 : Int32)), .val (.ref b538), .val (.ref b551), .val (.ref b554), .val (.ref b563), .val (.ref b573), .val (.int (1 : Int32)), .val (.int p1)] [(.int p0), (.int p0)])) _
        refine XS.icmpNo X668.here hx rfl (hb hby at_255) rfl (teq hc255_669).2 ?_
        show Steps p.tables e below (T668.setTop (mkF m 258 #[.val (.int p0), .val (.int p1), .val (.long q2), .second, .val (.long q3), .second, .val (.int p4), .val (.int p5), .val (.int (0 : Int32)), .val (.int (1 : Int32)), .val (.ref b538), .val (.ref b551), .val (.ref b554), .val (.ref b563), .val (.ref b573), .val (.int (1 : Int32)), .val (.int p1)] [])) _
        refine XS.aload X668.here hx rfl (hb hby at_258) rfl rfl ?_
        show Steps p.tables e below (T668.setTop (mkF m 260 #[.val (.int p0), .val (.int p1), .val (.long q2), .second, .val (.long q3), .second, .val (.int p4), .val (.int p5), .val (.int (0 : Int32)), .val (.int (1 : Int32)), .val (.ref b538), .val (.ref b551), .val (.ref b554), .val (.ref b563), .val (.ref b573), .val (.int (1 : Int32)), .val (.int p1)] [(.ref b551)])) _
        refine XS.iconst X668.here hx rfl (hb hby at_260) ?_
        show Steps p.tables e below (T668.setTop (mkF m 261 #[.val (.int p0), .val (.int p1), .val (.long q2), .second, .val (.long q3), .second, .val (.int p4), .val (.int p5), .val (.int (0 : Int32)), .val (.int (1 : Int32)), .val (.ref b538), .val (.ref b551), .val (.ref b554), .val (.ref b563), .val (.ref b573), .val (.int (1 : Int32)), .val (.int p1)] [(.int (1 : Int32)), (.ref b551)])) _
        refine own_ldI X668 hx hZ rfl oAxi668 (i := 1) (by decide : (1 : Int32).toInt = ((1 : Nat) : Int)) (by decide) (own_i2l p1) (g := (mkF m 261 #[.val (.int p0), .val (.int p1), .val (.long q2), .second, .val (.long q3), .second, .val (.int p4), .val (.int p5), .val (.int (0 : Int32)), .val (.int (1 : Int32)), .val (.ref b538), .val (.ref b551), .val (.ref b554), .val (.ref b563), .val (.ref b573), .val (.int (1 : Int32)), .val (.int p1)] [(.int (1 : Int32)), (.ref b551)])) rfl rfl (hb hby at_261) _ ?_
        show Steps p.tables e below (T668.setTop (mkF m 262 #[.val (.int p0), .val (.int p1), .val (.long q2), .second, .val (.long q3), .second, .val (.int p4), .val (.int p5), .val (.int (0 : Int32)), .val (.int (1 : Int32)), .val (.ref b538), .val (.ref b551), .val (.ref b554), .val (.ref b563), .val (.ref b573), .val (.int (1 : Int32)), .val (.int p1)] [(.int p1)])) _
        refine XS.iloadN X668.here hx rfl (hb hby at_262) rfl ?_
        show Steps p.tables e below (T668.setTop (mkF m 263 #[.val (.int p0), .val (.int p1), .val (.long q2), .second, .val (.long q3), .second, .val (.int p4), .val (.int p5), .val (.int (0 : Int32)), .val (.int (1 : Int32)), .val (.ref b538), .val (.ref b551), .val (.ref b554), .val (.ref b563), .val (.ref b573), .val (.int (1 : Int32)), .val (.int p1)] [(.int p1), (.int p1)])) _
        refine XS.icmpNo X668.here hx rfl (hb hby at_263) rfl (teq hc183_651).2 ?_
        show Steps p.tables e below (T668.setTop (mkF m 266 #[.val (.int p0), .val (.int p1), .val (.long q2), .second, .val (.long q3), .second, .val (.int p4), .val (.int p5), .val (.int (0 : Int32)), .val (.int (1 : Int32)), .val (.ref b538), .val (.ref b551), .val (.ref b554), .val (.ref b563), .val (.ref b573), .val (.int (1 : Int32)), .val (.int p1)] [])) _
        refine XS.aload X668.here hx rfl (hb hby at_266) rfl rfl ?_
        show Steps p.tables e below (T668.setTop (mkF m 268 #[.val (.int p0), .val (.int p1), .val (.long q2), .second, .val (.long q3), .second, .val (.int p4), .val (.int p5), .val (.int (0 : Int32)), .val (.int (1 : Int32)), .val (.ref b538), .val (.ref b551), .val (.ref b554), .val (.ref b563), .val (.ref b573), .val (.int (1 : Int32)), .val (.int p1)] [(.ref b554)])) _
        refine XS.iconst X668.here hx rfl (hb hby at_268) ?_
        show Steps p.tables e below (T668.setTop (mkF m 269 #[.val (.int p0), .val (.int p1), .val (.long q2), .second, .val (.long q3), .second, .val (.int p4), .val (.int p5), .val (.int (0 : Int32)), .val (.int (1 : Int32)), .val (.ref b538), .val (.ref b551), .val (.ref b554), .val (.ref b563), .val (.ref b573), .val (.int (1 : Int32)), .val (.int p1)] [(.int (0 : Int32)), (.ref b554)])) _
        refine own_ldJ X668 hx hZ rfl oAxj668 (i := 0) (by decide : (0 : Int32).toInt = ((0 : Nat) : Int)) (by decide) rfl (g := (mkF m 269 #[.val (.int p0), .val (.int p1), .val (.long q2), .second, .val (.long q3), .second, .val (.int p4), .val (.int p5), .val (.int (0 : Int32)), .val (.int (1 : Int32)), .val (.ref b538), .val (.ref b551), .val (.ref b554), .val (.ref b563), .val (.ref b573), .val (.int (1 : Int32)), .val (.int p1)] [(.int (0 : Int32)), (.ref b554)])) rfl rfl (hb hby at_269) _ ?_
        show Steps p.tables e below (T668.setTop (mkF m 270 #[.val (.int p0), .val (.int p1), .val (.long q2), .second, .val (.long q3), .second, .val (.int p4), .val (.int p5), .val (.int (0 : Int32)), .val (.int (1 : Int32)), .val (.ref b538), .val (.ref b551), .val (.ref b554), .val (.ref b563), .val (.ref b573), .val (.int (1 : Int32)), .val (.int p1)] [(.long q2)])) _
        refine XS.lloadN X668.here hx rfl (hb hby at_270) rfl ?_
        show Steps p.tables e below (T668.setTop (mkF m 271 #[.val (.int p0), .val (.int p1), .val (.long q2), .second, .val (.long q3), .second, .val (.int p4), .val (.int p5), .val (.int (0 : Int32)), .val (.int (1 : Int32)), .val (.ref b538), .val (.ref b551), .val (.ref b554), .val (.ref b563), .val (.ref b573), .val (.int (1 : Int32)), .val (.int p1)] [(.long q2), (.long q2)])) _
        exact kt
      have hc282_671 : q3 = q3 := rfl
      have f673 := (f664.keep oK668)
      obtain ⟨cq672, kq672, q672a, q672b, q672c⟩ := isOf hZ rfl f673
      obtain ⟨_, _, ⟨T672, L672, kc672, nc672⟩, -, X672, ⟨Lc672, hQ672, l672, y672, z672⟩, st672⟩ := X668.virtualBack hx (y := (⟨"com/example/tablewise/tablewise/propagation/Trail", "level", "()I"⟩ : MethodName)) (z := (⟨"com/example/tablewise/tablewise/propagation/Trail", "level", "()I"⟩ : MethodName)) hown (mvT hZ (hw _ (List.mem_of_getElem? (i := 61) rfl))) (mvT hZ (hw _ (List.mem_of_getElem? (i := 62) rfl))) (notFace_of_selects (args := #[]) (mvT hZ (hw _ (List.mem_of_getElem? (i := 64) rfl)))) (mvT hZ (hw _ (List.mem_of_getElem? (i := 64) rfl))) (mvT hZ (hw _ (List.mem_of_getElem? (i := 63) rfl))) (by decide) (backOf (W := 0) (rm8 l Z a0 hw [] b538 (((((0 : Int32) + (1 : Int32)) + (1 : Int32)) - (1 : Int32)) - (1 : Int32)) T668.heap n0 oFalevel668) hZ (hw _ (List.mem_of_getElem? (i := 65) rfl)) (hw _ (List.mem_of_getElem? (i := 2) rfl)) (by decide) (by decide)) q672a q672c (g := (mkF m 287 #[.val (.int p0), .val (.int p1), .val (.long q2), .second, .val (.long q3), .second, .val (.int p4), .val (.int p5), .val (.int (0 : Int32)), .val (.int (1 : Int32)), .val (.ref b538), .val (.ref b551), .val (.ref b554), .val (.ref b563), .val (.ref b573), .val (.int (1 : Int32)), .val (.int p1)] [(.ref b538)])) rfl (by rw [hml]; rfl) (Steps.refl _) (argsL := []) (rest := []) (lenOf pd_4 rfl) rfl (by show 2 * 0 + _ ≤ _; exact Nat.le_of_eq rfl) (hb hby at_287) (fun _ _ => ⟨rfl, rfl, (by decide : 11 + 0 ≤ _), (by decide : 306 + 0 ≤ _)⟩)
      dsimp only [Pt.U, Pt.locs, Pt.cells, Pt.slots] at X672 l672 y672 z672 st672 hQ672
      rw [l672, y672, z672] at X672
      replace X672 : Stand p l e room_1 s m #[(.int p0), (.int p1), (.long q2), (.long q3), (.int p4), (.int p5)] below meth c T672 _ 11 306 := X672
      obtain ⟨rfl, Nq672, eq672⟩ := hQ672
      have N672 := Fr.app N668 Nq672
      have hc290_674 : (((((0 : Int32) + (1 : Int32)) + (1 : Int32)) - (1 : Int32)) - (1 : Int32)) = (0 : Int32) := (by decide)
      have k675 : ∀ tg_, Steps p.tables e below (T672.setTop (mkF m 298 #[.val (.int p0), .val (.int p1), .val (.long q2), .second, .val (.long q3), .second, .val (.int p4), .val (.int p5), .val (.int (0 : Int32)), .val (.int (1 : Int32)), .val (.ref b538), .val (.ref b551), .val (.ref b554), .val (.ref b563), .val (.ref b573), .val (.int (1 : Int32)), .val (.int p1)] [(.int (1 : Int32))])) tg_ → Steps p.tables e below (s₁.setTop (entryFrame m #[(.int p0), (.int p1), (.long q2), (.long q3), (.int p4), (.int p5)] maxLocals)) tg_ := by
        intro tg_ kt
        refine k670 tg_ ?_
        refine XS.lcmp X668.here hx rfl (hb hby at_271) rfl ?_
        show Steps p.tables e below (T668.setTop (mkF m 272 #[.val (.int p0), .val (.int p1), .val (.long q2), .second, .val (.long q3), .second, .val (.int p4), .val (.int p5), .val (.int (0 : Int32)), .val (.int (1 : Int32)), .val (.ref b538), .val (.ref b551), .val (.ref b554), .val (.ref b563), .val (.ref b573), .val (.int (1 : Int32)), .val (.int p1)] [(.int (lcmpW q2 q2))])) _
        refine XS.ifNo X668.here hx rfl (hb hby at_272) rfl ((if0 _ _).trans (teq ((show ((lcmpW q2 q2) = 0) ↔ (q2 = q2) from lw_eq q2 q2).mpr hc200_652)).2) ?_
        show Steps p.tables e below (T668.setTop (mkF m 275 #[.val (.int p0), .val (.int p1), .val (.long q2), .second, .val (.long q3), .second, .val (.int p4), .val (.int p5), .val (.int (0 : Int32)), .val (.int (1 : Int32)), .val (.ref b538), .val (.ref b551), .val (.ref b554), .val (.ref b563), .val (.ref b573), .val (.int (1 : Int32)), .val (.int p1)] [])) _
        refine XS.aload X668.here hx rfl (hb hby at_275) rfl rfl ?_
        show Steps p.tables e below (T668.setTop (mkF m 277 #[.val (.int p0), .val (.int p1), .val (.long q2), .second, .val (.long q3), .second, .val (.int p4), .val (.int p5), .val (.int (0 : Int32)), .val (.int (1 : Int32)), .val (.ref b538), .val (.ref b551), .val (.ref b554), .val (.ref b563), .val (.ref b573), .val (.int (1 : Int32)), .val (.int p1)] [(.ref b554)])) _
        refine XS.iconst X668.here hx rfl (hb hby at_277) ?_
        show Steps p.tables e below (T668.setTop (mkF m 278 #[.val (.int p0), .val (.int p1), .val (.long q2), .second, .val (.long q3), .second, .val (.int p4), .val (.int p5), .val (.int (0 : Int32)), .val (.int (1 : Int32)), .val (.ref b538), .val (.ref b551), .val (.ref b554), .val (.ref b563), .val (.ref b573), .val (.int (1 : Int32)), .val (.int p1)] [(.int (1 : Int32)), (.ref b554)])) _
        refine own_ldJ X668 hx hZ rfl oAxj668 (i := 1) (by decide : (1 : Int32).toInt = ((1 : Nat) : Int)) (by decide) rfl (g := (mkF m 278 #[.val (.int p0), .val (.int p1), .val (.long q2), .second, .val (.long q3), .second, .val (.int p4), .val (.int p5), .val (.int (0 : Int32)), .val (.int (1 : Int32)), .val (.ref b538), .val (.ref b551), .val (.ref b554), .val (.ref b563), .val (.ref b573), .val (.int (1 : Int32)), .val (.int p1)] [(.int (1 : Int32)), (.ref b554)])) rfl rfl (hb hby at_278) _ ?_
        show Steps p.tables e below (T668.setTop (mkF m 279 #[.val (.int p0), .val (.int p1), .val (.long q2), .second, .val (.long q3), .second, .val (.int p4), .val (.int p5), .val (.int (0 : Int32)), .val (.int (1 : Int32)), .val (.ref b538), .val (.ref b551), .val (.ref b554), .val (.ref b563), .val (.ref b573), .val (.int (1 : Int32)), .val (.int p1)] [(.long q3)])) _
        refine XS.lload X668.here hx rfl (hb hby at_279) rfl ?_
        show Steps p.tables e below (T668.setTop (mkF m 281 #[.val (.int p0), .val (.int p1), .val (.long q2), .second, .val (.long q3), .second, .val (.int p4), .val (.int p5), .val (.int (0 : Int32)), .val (.int (1 : Int32)), .val (.ref b538), .val (.ref b551), .val (.ref b554), .val (.ref b563), .val (.ref b573), .val (.int (1 : Int32)), .val (.int p1)] [(.long q3), (.long q3)])) _
        refine XS.lcmp X668.here hx rfl (hb hby at_281) rfl ?_
        show Steps p.tables e below (T668.setTop (mkF m 282 #[.val (.int p0), .val (.int p1), .val (.long q2), .second, .val (.long q3), .second, .val (.int p4), .val (.int p5), .val (.int (0 : Int32)), .val (.int (1 : Int32)), .val (.ref b538), .val (.ref b551), .val (.ref b554), .val (.ref b563), .val (.ref b573), .val (.int (1 : Int32)), .val (.int p1)] [(.int (lcmpW q3 q3))])) _
        refine XS.ifNo X668.here hx rfl (hb hby at_282) rfl ((if0 _ _).trans (teq ((show ((lcmpW q3 q3) = 0) ↔ (q3 = q3) from lw_eq q3 q3).mpr hc282_671)).2) ?_
        show Steps p.tables e below (T668.setTop (mkF m 285 #[.val (.int p0), .val (.int p1), .val (.long q2), .second, .val (.long q3), .second, .val (.int p4), .val (.int p5), .val (.int (0 : Int32)), .val (.int (1 : Int32)), .val (.ref b538), .val (.ref b551), .val (.ref b554), .val (.ref b563), .val (.ref b573), .val (.int (1 : Int32)), .val (.int p1)] [])) _
        refine XS.aload X668.here hx rfl (hb hby at_285) rfl rfl ?_
        show Steps p.tables e below (T668.setTop (mkF m 287 #[.val (.int p0), .val (.int p1), .val (.long q2), .second, .val (.long q3), .second, .val (.int p4), .val (.int p5), .val (.int (0 : Int32)), .val (.int (1 : Int32)), .val (.ref b538), .val (.ref b551), .val (.ref b554), .val (.ref b563), .val (.ref b573), .val (.int (1 : Int32)), .val (.int p1)] [(.ref b538)])) _
        refine st672.trans ?_
        show Steps p.tables e below (T672.setTop (mkF m 290 #[.val (.int p0), .val (.int p1), .val (.long q2), .second, .val (.long q3), .second, .val (.int p4), .val (.int p5), .val (.int (0 : Int32)), .val (.int (1 : Int32)), .val (.ref b538), .val (.ref b551), .val (.ref b554), .val (.ref b563), .val (.ref b573), .val (.int (1 : Int32)), .val (.int p1)] [(.int (((((0 : Int32) + (1 : Int32)) + (1 : Int32)) - (1 : Int32)) - (1 : Int32)))])) _
        refine XS.ifNo X672.here hx rfl (hb hby at_290) rfl ((if0 _ _).trans (teq hc290_674).2) ?_
        show Steps p.tables e below (T672.setTop (mkF m 293 #[.val (.int p0), .val (.int p1), .val (.long q2), .second, .val (.long q3), .second, .val (.int p4), .val (.int p5), .val (.int (0 : Int32)), .val (.int (1 : Int32)), .val (.ref b538), .val (.ref b551), .val (.ref b554), .val (.ref b563), .val (.ref b573), .val (.int (1 : Int32)), .val (.int p1)] [])) _
        refine XS.iconst X672.here hx rfl (hb hby at_293) ?_
        show Steps p.tables e below (T672.setTop (mkF m 294 #[.val (.int p0), .val (.int p1), .val (.long q2), .second, .val (.long q3), .second, .val (.int p4), .val (.int p5), .val (.int (0 : Int32)), .val (.int (1 : Int32)), .val (.ref b538), .val (.ref b551), .val (.ref b554), .val (.ref b563), .val (.ref b573), .val (.int (1 : Int32)), .val (.int p1)] [(.int (1 : Int32))])) _
        refine XS.goto X672.here hx rfl (pc0 := 294) (pc' := 298) rfl (hb hby at_294) (by decide) (by decide) ?_
        show Steps p.tables e below (T672.setTop (mkF m 298 #[.val (.int p0), .val (.int p1), .val (.long q2), .second, .val (.long q3), .second, .val (.int p4), .val (.int p5), .val (.int (0 : Int32)), .val (.int (1 : Int32)), .val (.ref b538), .val (.ref b551), .val (.ref b554), .val (.ref b563), .val (.ref b573), .val (.int (1 : Int32)), .val (.int p1)] [(.int (1 : Int32))])) _
        exact kt
      obtain ⟨fs, hr, hrun, hended, hW, hsame⟩ := X672.leave (v := some (.int (1 : Int32))) (fun h => by rw [Bd.returns] at h; cases h) (hlocks := by first | exact BodyLoose.notSynchronized Bd | exact Body.notSynchronized Bd)
      refine ⟨_, _, k675 _ (retN X672 hx (t := .boolean) Bd.returns (by simp) (hb hby at_298) hr), hrun, hended, _, _, rfl, ?_, ⟨_, rfl⟩, hW, hsame.mono (by decide) (by decide)⟩
      show Q0 Z p0 p1 q2 q3 p4 p5 h0 n0 _ T672.heap _
      rw [eq672]
      exact ⟨rfl, N672⟩
  · have k676 : ∀ tg_, Steps p.tables e below (s₁.setTop (mkF m 18 #[.val (.int p0), .val (.int p1), .val (.long q2), .second, .val (.long q3), .second, .val (.int p4), .val (.int p5), .val (.int (1 : Int32)), .unset, .unset, .unset, .unset, .unset, .unset, .unset, .unset] [(.int (p5 &&& (2 : Int32)))])) tg_ → Steps p.tables e below (s₁.setTop (entryFrame m #[(.int p0), (.int p1), (.long q2), (.long q3), (.int p4), (.int p5)] maxLocals)) tg_ := by
      intro tg_ kt
      refine k430 tg_ ?_
      refine XS.ifNo X0.here hx rfl (hb hby at_4) rfl ((if0 _ _).trans (feq hc4_431).1) ?_
      show Steps p.tables e below (s₁.setTop (mkF m 7 #[.val (.int p0), .val (.int p1), .val (.long q2), .second, .val (.long q3), .second, .val (.int p4), .val (.int p5), .unset, .unset, .unset, .unset, .unset, .unset, .unset, .unset, .unset] [])) _
      refine XS.iconst X0.here hx rfl (hb hby at_7) ?_
      show Steps p.tables e below (s₁.setTop (mkF m 8 #[.val (.int p0), .val (.int p1), .val (.long q2), .second, .val (.long q3), .second, .val (.int p4), .val (.int p5), .unset, .unset, .unset, .unset, .unset, .unset, .unset, .unset, .unset] [(.int (1 : Int32))])) _
      refine XS.goto X0.here hx rfl (pc0 := 8) (pc' := 12) rfl (hb hby at_8) (by decide) (by decide) ?_
      show Steps p.tables e below (s₁.setTop (mkF m 12 #[.val (.int p0), .val (.int p1), .val (.long q2), .second, .val (.long q3), .second, .val (.int p4), .val (.int p5), .unset, .unset, .unset, .unset, .unset, .unset, .unset, .unset, .unset] [(.int (1 : Int32))])) _
      refine XS.istore X0.here hx rfl (hb hby at_12) rfl (l' := #[.val (.int p0), .val (.int p1), .val (.long q2), .second, .val (.long q3), .second, .val (.int p4), .val (.int p5), .val (.int (1 : Int32)), .unset, .unset, .unset, .unset, .unset, .unset, .unset, .unset]) rfl ?_
      show Steps p.tables e below (s₁.setTop (mkF m 14 #[.val (.int p0), .val (.int p1), .val (.long q2), .second, .val (.long q3), .second, .val (.int p4), .val (.int p5), .val (.int (1 : Int32)), .unset, .unset, .unset, .unset, .unset, .unset, .unset, .unset] [])) _
      refine XS.iload X0.here hx rfl (hb hby at_14) rfl ?_
      show Steps p.tables e below (s₁.setTop (mkF m 16 #[.val (.int p0), .val (.int p1), .val (.long q2), .second, .val (.long q3), .second, .val (.int p4), .val (.int p5), .val (.int (1 : Int32)), .unset, .unset, .unset, .unset, .unset, .unset, .unset, .unset] [(.int p5)])) _
      refine XS.iconst X0.here hx rfl (hb hby at_16) ?_
      show Steps p.tables e below (s₁.setTop (mkF m 17 #[.val (.int p0), .val (.int p1), .val (.long q2), .second, .val (.long q3), .second, .val (.int p4), .val (.int p5), .val (.int (1 : Int32)), .unset, .unset, .unset, .unset, .unset, .unset, .unset, .unset] [(.int (2 : Int32)), (.int p5)])) _
      refine XS.iand X0.here hx rfl (hb hby at_17) rfl ?_
      show Steps p.tables e below (s₁.setTop (mkF m 18 #[.val (.int p0), .val (.int p1), .val (.long q2), .second, .val (.long q3), .second, .val (.int p4), .val (.int p5), .val (.int (1 : Int32)), .unset, .unset, .unset, .unset, .unset, .unset, .unset, .unset] [(.int (p5 &&& (2 : Int32)))])) _
      exact kt
    by_cases hc18_677 : (p5 &&& (2 : Int32)) = (0 : Int32)
    · obtain ⟨T678, h678, X678, e678, E678, A678, D678, -, st678⟩ := newO X0 hx hZ hown (hw _ (List.mem_of_getElem? (i := 0) rfl)) (hw _ (List.mem_of_getElem? (i := 1) rfl)) (hw _ (List.mem_of_getElem? (i := 2) rfl)) e0 (g := (mkF m 28 #[.val (.int p0), .val (.int p1), .val (.long q2), .second, .val (.long q3), .second, .val (.int p4), .val (.int p5), .val (.int (1 : Int32)), .val (.int (0 : Int32)), .unset, .unset, .unset, .unset, .unset, .unset, .unset] [])) rfl (hb hby at_28) (by decide) (by decide)
      obtain ⟨b678, g678⟩ : ∃ z, z = h0.size := ⟨_, rfl⟩
      rw [← g678] at A678 D678 st678
      have ge_b678 : n0 ≤ b678 := Nat.le_trans Z0 (Nat.le_of_eq g678.symm)
      have F679 : Fld Z h678 b678 "com/example/tablewise/tablewise/propagation/Trail" "intArrays" "[[I" .null := D678 (Or.inl (hw _ (List.mem_of_getElem? (i := 12) rfl))) (ty := (.array (.array .int))) (by decide)
      have F680 : Fld Z h678 b678 "com/example/tablewise/tablewise/propagation/Trail" "longArrays" "[[J" .null := D678 (Or.inl (hw _ (List.mem_of_getElem? (i := 16) rfl))) (ty := (.array (.array .long))) (by decide)
      have F681 : Fld Z h678 b678 "com/example/tablewise/tablewise/propagation/Trail" "slotIndices" "[I" .null := D678 (Or.inl (hw _ (List.mem_of_getElem? (i := 19) rfl))) (ty := (.array .int)) (by decide)
      have F682 : Fld Z h678 b678 "com/example/tablewise/tablewise/propagation/Trail" "oldValues" "[J" .null := D678 (Or.inl (hw _ (List.mem_of_getElem? (i := 22) rfl))) (ty := (.array .long)) (by decide)
      have F683 : Fld Z h678 b678 "com/example/tablewise/tablewise/propagation/Trail" "levelStarts" "[I" .null := D678 (Or.inl (hw _ (List.mem_of_getElem? (i := 24) rfl))) (ty := (.array .int)) (by decide)
      have F684 : Fld Z h678 b678 "com/example/tablewise/tablewise/propagation/Trail" "outerStamps" "[J" .null := D678 (Or.inl (hw _ (List.mem_of_getElem? (i := 26) rfl))) (ty := (.array .long)) (by decide)
      have F685 : Fld Z h678 b678 "com/example/tablewise/tablewise/propagation/Trail" "level" "I" (.int (0 : Int32)) := D678 (Or.inl (hw _ (List.mem_of_getElem? (i := 33) rfl))) (ty := .int) (by decide)
      have F686 : Fld Z h678 b678 "com/example/tablewise/tablewise/propagation/Trail" "entries" "I" (.int (0 : Int32)) := D678 (Or.inl (hw _ (List.mem_of_getElem? (i := 35) rfl))) (ty := .int) (by decide)
      have F687 : Fld Z h678 b678 "com/example/tablewise/tablewise/propagation/Trail" "stamp" "J" (.long (0 : Int64)) := D678 (Or.inl (hw _ (List.mem_of_getElem? (i := 37) rfl))) (ty := .long) (by decide)
      have F688 : Fld Z h678 b678 "com/example/tablewise/tablewise/propagation/Trail" "lastStamp" "J" (.long (0 : Int64)) := D678 (Or.inl (hw _ (List.mem_of_getElem? (i := 39) rfl))) (ty := .long) (by decide)
      have f689 := (Nat.le_trans Z0 ((Keep.refl _ []).ext E678).1)
      obtain ⟨_, _, ⟨T690, L690, kc690, nc690⟩, -, X690, ⟨Lc690, hQ690, l690, y690, z690⟩, st690⟩ := X678.specialBack hx (y := (⟨"com/example/tablewise/tablewise/propagation/Trail", "<init>", "()V"⟩ : MethodName)) rfl hown (mvT hZ (hw _ (List.mem_of_getElem? (i := 3) rfl))) (mvT hZ (hw _ (List.mem_of_getElem? (i := 4) rfl))) (mvT hZ (hw _ (List.mem_of_getElem? (i := 5) rfl))) (by decide) (backOf (W := 1) (rm1 l Z a0 hw [] b678 h678 n0 f689 A678 F679 F680 F681 F682 F686 F683 F684 F685 F687 F688 ge_b678) hZ (hw _ (List.mem_of_getElem? (i := 5) rfl)) (hw _ (List.mem_of_getElem? (i := 2) rfl)) (by decide) (by decide)) (g := (mkF m 32 #[.val (.int p0), .val (.int p1), .val (.long q2), .second, .val (.long q3), .second, .val (.int p4), .val (.int p5), .val (.int (1 : Int32)), .val (.int (0 : Int32)), .unset, .unset, .unset, .unset, .unset, .unset, .unset] [(.ref b678), (.ref b678)])) rfl (by rw [hml]; rfl) (Steps.refl _) (a := b678) (argsL := []) (rest := [(.ref b678)]) (lenOf pd_0 rfl) rfl (by show 2 * 0 + _ ≤ _; exact Nat.le_of_eq rfl) (hb hby at_32) (fun _ _ => ⟨rfl, e678, (by decide : 1 + 6 ≤ _), (by decide : 10 + 288 ≤ _)⟩)
      dsimp only [Pt.U, Pt.locs, Pt.cells, Pt.slots] at X690 l690 y690 z690 st690 hQ690
      rw [l690, y690, z690] at X690
      replace X690 : Stand p l e room_1 s m #[(.int p0), (.int p1), (.long q2), (.long q3), (.int p4), (.int p5)] below meth c T690 _ 7 298 := X690
      obtain ⟨rfl, Nq690, oK690, oFaentries690, oFalevel690, oFastamp690, oFalastStamp690, m0_690⟩ := hQ690
      have N690 := Fr.app N0 Nq690
      obtain ⟨ia690, la690, si690, ov690, ls690, os690, Fi_ia, Fi_la, Fi_si, Fi_ov, Fi_ls, Fi_os, Vi_ia, Vi_la, Vi_si, Vi_ov, Vi_ls, Vi_os, gi_ia, gi_la, gi_si, gi_ov, gi_ls, gi_os, ni_a_ia, ni_a_la, ni_a_si, ni_a_ov, ni_a_ls, ni_a_os, ni_ia_la, ni_ia_si, ni_ia_ov, ni_ia_ls, ni_ia_os, ni_la_si, ni_la_ov, ni_la_ls, ni_la_os, ni_si_ov, ni_si_ls, ni_si_os, ni_ov_ls, ni_ov_os, ni_ls_os⟩ := m0_690
      obtain ⟨T691, h691, kA691, X691, e691, E691, A691, Ex691, st691⟩ := newPE X690 hx hZ (hw _ (List.mem_of_getElem? (i := 17) rfl)) rfl (g := (mkF m 38 #[.val (.int p0), .val (.int p1), .val (.long q2), .second, .val (.long q3), .second, .val (.int p4), .val (.int p5), .val (.int (1 : Int32)), .val (.int (0 : Int32)), .val (.ref b678), .unset, .unset, .unset, .unset, .unset, .unset] [(.int (2 : Int32))])) rfl (hb hby at_38) rfl (by decide) (cap := 2) (by decide) (by decide) (by decide) (by decide) (ad := "[I") (by decide)
      obtain ⟨b691, g691⟩ : ∃ z, z = T690.heap.size := ⟨_, rfl⟩
      rw [← g691] at A691 st691 Ex691
      have f692 := (A678.keep oK690)
      have ne_b678_b691 : b678 ≠ b691 := Nat.ne_of_lt (Nat.lt_of_lt_of_le (f692).lt (Nat.le_of_eq g691.symm))
      have ne_ia690_b691 : ia690 ≠ b691 := Nat.ne_of_lt (Nat.lt_of_lt_of_le (Vi_ia).lt (Nat.le_of_eq g691.symm))
      have ne_la690_b691 : la690 ≠ b691 := Nat.ne_of_lt (Nat.lt_of_lt_of_le (Vi_la).lt (Nat.le_of_eq g691.symm))
      have ne_si690_b691 : si690 ≠ b691 := Nat.ne_of_lt (Nat.lt_of_lt_of_le (Vi_si).lt (Nat.le_of_eq g691.symm))
      have ne_ov690_b691 : ov690 ≠ b691 := Nat.ne_of_lt (Nat.lt_of_lt_of_le (Vi_ov).lt (Nat.le_of_eq g691.symm))
      have ne_ls690_b691 : ls690 ≠ b691 := Nat.ne_of_lt (Nat.lt_of_lt_of_le (Vi_ls).lt (Nat.le_of_eq g691.symm))
      have ne_os690_b691 : os690 ≠ b691 := Nat.ne_of_lt (Nat.lt_of_lt_of_le (Vi_os).lt (Nat.le_of_eq g691.symm))
      have f693 := (Nat.le_trans f689 oK690.1)
      have ge_b691 : n0 ≤ b691 := Nat.le_trans f693 (Nat.le_of_eq g691.symm)
      have V691 : own_AI Z h691 b691 .int 2 (fun _ => 0) := own_newI (by decide : (2 : Int32).toInt = ((2 : Nat) : Int)) A691 rfl
      obtain ⟨T694, h694, kA694, X694, e694, E694, A694, Ex694, st694⟩ := newPE X691 hx hZ (hw _ (List.mem_of_getElem? (i := 20) rfl)) e691 (g := (mkF m 43 #[.val (.int p0), .val (.int p1), .val (.long q2), .second, .val (.long q3), .second, .val (.int p4), .val (.int p5), .val (.int (1 : Int32)), .val (.int (0 : Int32)), .val (.ref b678), .val (.ref b691), .unset, .unset, .unset, .unset, .unset] [(.int (2 : Int32))])) rfl (hb hby at_43) rfl (by decide) (cap := 2) (by decide) (by decide) (by decide) (by decide) (ad := "[J") (by decide)
      obtain ⟨b694, g694⟩ : ∃ z, z = h691.size := ⟨_, rfl⟩
      rw [← g694] at A694 st694 Ex694
      have f695 := (f692.keep ((Keep.refl _ []).ext E691))
      have ne_b678_b694 : b678 ≠ b694 := Nat.ne_of_lt (Nat.lt_of_lt_of_le (f695).lt (Nat.le_of_eq g694.symm))
      have f696 := (Vi_ia.keep ((Keep.refl _ []).ext E691) nin0)
      have ne_ia690_b694 : ia690 ≠ b694 := Nat.ne_of_lt (Nat.lt_of_lt_of_le (f696).lt (Nat.le_of_eq g694.symm))
      have f697 := (Vi_la.keep ((Keep.refl _ []).ext E691) nin0)
      have ne_la690_b694 : la690 ≠ b694 := Nat.ne_of_lt (Nat.lt_of_lt_of_le (f697).lt (Nat.le_of_eq g694.symm))
      have f698 := (Vi_si.keep ((Keep.refl _ []).ext E691) nin0)
      have ne_si690_b694 : si690 ≠ b694 := Nat.ne_of_lt (Nat.lt_of_lt_of_le (f698).lt (Nat.le_of_eq g694.symm))
      have f699 := (Vi_ov.keep ((Keep.refl _ []).ext E691) nin0)
      have ne_ov690_b694 : ov690 ≠ b694 := Nat.ne_of_lt (Nat.lt_of_lt_of_le (f699).lt (Nat.le_of_eq g694.symm))
      have f700 := (Vi_ls.keep ((Keep.refl _ []).ext E691) nin0)
      have ne_ls690_b694 : ls690 ≠ b694 := Nat.ne_of_lt (Nat.lt_of_lt_of_le (f700).lt (Nat.le_of_eq g694.symm))
      have f701 := (Vi_os.keep ((Keep.refl _ []).ext E691) nin0)
      have ne_os690_b694 : os690 ≠ b694 := Nat.ne_of_lt (Nat.lt_of_lt_of_le (f701).lt (Nat.le_of_eq g694.symm))
      have ne_b691_b694 : b691 ≠ b694 := Nat.ne_of_lt (Nat.lt_of_lt_of_le (Ex691).lt (Nat.le_of_eq g694.symm))
      have f702 := (Nat.le_trans f693 ((Keep.refl _ []).ext E691).1)
      have ge_b694 : n0 ≤ b694 := Nat.le_trans f702 (Nat.le_of_eq g694.symm)
      have V694 : own_AL Z h694 b694 2 (fun _ => 0) := own_newL (by decide : (2 : Int32).toInt = ((2 : Nat) : Int)) A694
      obtain ⟨T703, h703, kA703, X703, e703, E703, A703, Ex703, st703⟩ := newPE X694 hx hZ (hw _ (List.mem_of_getElem? (i := 20) rfl)) e694 (g := (mkF m 48 #[.val (.int p0), .val (.int p1), .val (.long q2), .second, .val (.long q3), .second, .val (.int p4), .val (.int p5), .val (.int (1 : Int32)), .val (.int (0 : Int32)), .val (.ref b678), .val (.ref b691), .val (.ref b694), .unset, .unset, .unset, .unset] [(.int (2 : Int32))])) rfl (hb hby at_48) rfl (by decide) (cap := 2) (by decide) (by decide) (by decide) (by decide) (ad := "[J") (by decide)
      obtain ⟨b703, g703⟩ : ∃ z, z = h694.size := ⟨_, rfl⟩
      rw [← g703] at A703 st703 Ex703
      have f704 := (f695.keep ((Keep.refl _ []).ext E694))
      have ne_b678_b703 : b678 ≠ b703 := Nat.ne_of_lt (Nat.lt_of_lt_of_le (f704).lt (Nat.le_of_eq g703.symm))
      have f705 := (f696.keep ((Keep.refl _ []).ext E694) nin0)
      have ne_ia690_b703 : ia690 ≠ b703 := Nat.ne_of_lt (Nat.lt_of_lt_of_le (f705).lt (Nat.le_of_eq g703.symm))
      have f706 := (f697.keep ((Keep.refl _ []).ext E694) nin0)
      have ne_la690_b703 : la690 ≠ b703 := Nat.ne_of_lt (Nat.lt_of_lt_of_le (f706).lt (Nat.le_of_eq g703.symm))
      have f707 := (f698.keep ((Keep.refl _ []).ext E694) nin0)
      have ne_si690_b703 : si690 ≠ b703 := Nat.ne_of_lt (Nat.lt_of_lt_of_le (f707).lt (Nat.le_of_eq g703.symm))
      have f708 := (f699.keep ((Keep.refl _ []).ext E694) nin0)
      have ne_ov690_b703 : ov690 ≠ b703 := Nat.ne_of_lt (Nat.lt_of_lt_of_le (f708).lt (Nat.le_of_eq g703.symm))
      have f709 := (f700.keep ((Keep.refl _ []).ext E694) nin0)
      have ne_ls690_b703 : ls690 ≠ b703 := Nat.ne_of_lt (Nat.lt_of_lt_of_le (f709).lt (Nat.le_of_eq g703.symm))
      have f710 := (f701.keep ((Keep.refl _ []).ext E694) nin0)
      have ne_os690_b703 : os690 ≠ b703 := Nat.ne_of_lt (Nat.lt_of_lt_of_le (f710).lt (Nat.le_of_eq g703.symm))
      have f711 := (Ex691.keep ((Keep.refl _ []).ext E694))
      have ne_b691_b703 : b691 ≠ b703 := Nat.ne_of_lt (Nat.lt_of_lt_of_le (f711).lt (Nat.le_of_eq g703.symm))
      have ne_b694_b703 : b694 ≠ b703 := Nat.ne_of_lt (Nat.lt_of_lt_of_le (Ex694).lt (Nat.le_of_eq g703.symm))
      have f712 := (Nat.le_trans f702 ((Keep.refl _ []).ext E694).1)
      have ge_b703 : n0 ≤ b703 := Nat.le_trans f712 (Nat.le_of_eq g703.symm)
      have V703 : own_AL Z h703 b703 2 (fun _ => 0) := own_newL (by decide : (2 : Int32).toInt = ((2 : Nat) : Int)) A703
      obtain ⟨T713, h713, kA713, X713, e713, E713, A713, Ex713, st713⟩ := newPE X703 hx hZ (hw _ (List.mem_of_getElem? (i := 20) rfl)) e703 (g := (mkF m 53 #[.val (.int p0), .val (.int p1), .val (.long q2), .second, .val (.long q3), .second, .val (.int p4), .val (.int p5), .val (.int (1 : Int32)), .val (.int (0 : Int32)), .val (.ref b678), .val (.ref b691), .val (.ref b694), .val (.ref b703), .unset, .unset, .unset] [(.int (2 : Int32))])) rfl (hb hby at_53) rfl (by decide) (cap := 2) (by decide) (by decide) (by decide) (by decide) (ad := "[J") (by decide)
      obtain ⟨b713, g713⟩ : ∃ z, z = h703.size := ⟨_, rfl⟩
      rw [← g713] at A713 st713 Ex713
      have f714 := (f704.keep ((Keep.refl _ []).ext E703))
      have ne_b678_b713 : b678 ≠ b713 := Nat.ne_of_lt (Nat.lt_of_lt_of_le (f714).lt (Nat.le_of_eq g713.symm))
      have f715 := (f705.keep ((Keep.refl _ []).ext E703) nin0)
      have ne_ia690_b713 : ia690 ≠ b713 := Nat.ne_of_lt (Nat.lt_of_lt_of_le (f715).lt (Nat.le_of_eq g713.symm))
      have f716 := (f706.keep ((Keep.refl _ []).ext E703) nin0)
      have ne_la690_b713 : la690 ≠ b713 := Nat.ne_of_lt (Nat.lt_of_lt_of_le (f716).lt (Nat.le_of_eq g713.symm))
      have f717 := (f707.keep ((Keep.refl _ []).ext E703) nin0)
      have ne_si690_b713 : si690 ≠ b713 := Nat.ne_of_lt (Nat.lt_of_lt_of_le (f717).lt (Nat.le_of_eq g713.symm))
      have f718 := (f708.keep ((Keep.refl _ []).ext E703) nin0)
      have ne_ov690_b713 : ov690 ≠ b713 := Nat.ne_of_lt (Nat.lt_of_lt_of_le (f718).lt (Nat.le_of_eq g713.symm))
      have f719 := (f709.keep ((Keep.refl _ []).ext E703) nin0)
      have ne_ls690_b713 : ls690 ≠ b713 := Nat.ne_of_lt (Nat.lt_of_lt_of_le (f719).lt (Nat.le_of_eq g713.symm))
      have f720 := (f710.keep ((Keep.refl _ []).ext E703) nin0)
      have ne_os690_b713 : os690 ≠ b713 := Nat.ne_of_lt (Nat.lt_of_lt_of_le (f720).lt (Nat.le_of_eq g713.symm))
      have f721 := (f711.keep ((Keep.refl _ []).ext E703))
      have ne_b691_b713 : b691 ≠ b713 := Nat.ne_of_lt (Nat.lt_of_lt_of_le (f721).lt (Nat.le_of_eq g713.symm))
      have f722 := (Ex694.keep ((Keep.refl _ []).ext E703))
      have ne_b694_b713 : b694 ≠ b713 := Nat.ne_of_lt (Nat.lt_of_lt_of_le (f722).lt (Nat.le_of_eq g713.symm))
      have ne_b703_b713 : b703 ≠ b713 := Nat.ne_of_lt (Nat.lt_of_lt_of_le (Ex703).lt (Nat.le_of_eq g713.symm))
      have f723 := (Nat.le_trans f712 ((Keep.refl _ []).ext E703).1)
      have ge_b713 : n0 ≤ b713 := Nat.le_trans f723 (Nat.le_of_eq g713.symm)
      have V713 : own_AL Z h713 b713 2 (fun _ => 0) := own_newL (by decide : (2 : Int32).toInt = ((2 : Nat) : Int)) A713
      have f724 := (((V691.keep ((Keep.refl _ []).ext E694) nin0).keep ((Keep.refl _ []).ext E703) nin0).keep ((Keep.refl _ []).ext E713) nin0)
      obtain ⟨T725, h725, X725, e725, W725, V725, st725⟩ := own_stI X713 hx hZ e713 f724 (i := 0) (by decide : (0 : Int32).toInt = ((0 : Nat) : Int)) (by decide) (g := (mkF m 61 #[.val (.int p0), .val (.int p1), .val (.long q2), .second, .val (.long q3), .second, .val (.int p4), .val (.int p5), .val (.int (1 : Int32)), .val (.int (0 : Int32)), .val (.ref b678), .val (.ref b691), .val (.ref b694), .val (.ref b703), .val (.ref b713), .unset, .unset] [(.int p0), (.int (0 : Int32)), (.ref b691)])) rfl rfl (hb hby at_61)
      have N725 := Fr.snoc X725 N690 ge_b691
      have k726 : ∀ tg_, Steps p.tables e below (T725.setTop (mkF m 66 #[.val (.int p0), .val (.int p1), .val (.long q2), .second, .val (.long q3), .second, .val (.int p4), .val (.int p5), .val (.int (1 : Int32)), .val (.int (0 : Int32)), .val (.ref b678), .val (.ref b691), .val (.ref b694), .val (.ref b703), .val (.ref b713), .unset, .unset] [(.int p1), (.int (1 : Int32)), (.ref b691)])) tg_ → Steps p.tables e below (s₁.setTop (entryFrame m #[(.int p0), (.int p1), (.long q2), (.long q3), (.int p4), (.int p5)] maxLocals)) tg_ := by
        intro tg_ kt
        refine k676 tg_ ?_
        refine XS.ifYes X0.here hx rfl (pc0 := 18) (pc' := 25) rfl (hb hby at_18) rfl ((if0 _ _).trans (teq hc18_677).1) (by decide) (by decide) ?_
        show Steps p.tables e below (s₁.setTop (mkF m 25 #[.val (.int p0), .val (.int p1), .val (.long q2), .second, .val (.long q3), .second, .val (.int p4), .val (.int p5), .val (.int (1 : Int32)), .unset, .unset, .unset, .unset, .unset, .unset, .unset, .unset] [])) _
        refine XS.iconst X0.here hx rfl (hb hby at_25) ?_
        show Steps p.tables e below (s₁.setTop (mkF m 26 #[.val (.int p0), .val (.int p1), .val (.long q2), .second, .val (.long q3), .second, .val (.int p4), .val (.int p5), .val (.int (1 : Int32)), .unset, .unset, .unset, .unset, .unset, .unset, .unset, .unset] [(.int (0 : Int32))])) _
        refine XS.istore X0.here hx rfl (hb hby at_26) rfl (l' := #[.val (.int p0), .val (.int p1), .val (.long q2), .second, .val (.long q3), .second, .val (.int p4), .val (.int p5), .val (.int (1 : Int32)), .val (.int (0 : Int32)), .unset, .unset, .unset, .unset, .unset, .unset, .unset]) rfl ?_
        show Steps p.tables e below (s₁.setTop (mkF m 28 #[.val (.int p0), .val (.int p1), .val (.long q2), .second, .val (.long q3), .second, .val (.int p4), .val (.int p5), .val (.int (1 : Int32)), .val (.int (0 : Int32)), .unset, .unset, .unset, .unset, .unset, .unset, .unset] [])) _
        refine st678 _ ?_
        show Steps p.tables e below (T678.setTop (mkF m 31 #[.val (.int p0), .val (.int p1), .val (.long q2), .second, .val (.long q3), .second, .val (.int p4), .val (.int p5), .val (.int (1 : Int32)), .val (.int (0 : Int32)), .unset, .unset, .unset, .unset, .unset, .unset, .unset] [(.ref b678)])) _
        refine XS.dup X678.here hx rfl (hb hby at_31) rfl rfl ?_
        show Steps p.tables e below (T678.setTop (mkF m 32 #[.val (.int p0), .val (.int p1), .val (.long q2), .second, .val (.long q3), .second, .val (.int p4), .val (.int p5), .val (.int (1 : Int32)), .val (.int (0 : Int32)), .unset, .unset, .unset, .unset, .unset, .unset, .unset] [(.ref b678), (.ref b678)])) _
        refine st690.trans ?_
        show Steps p.tables e below (T690.setTop (mkF m 35 #[.val (.int p0), .val (.int p1), .val (.long q2), .second, .val (.long q3), .second, .val (.int p4), .val (.int p5), .val (.int (1 : Int32)), .val (.int (0 : Int32)), .unset, .unset, .unset, .unset, .unset, .unset, .unset] [(.ref b678)])) _
        refine XS.astore X690.here hx rfl (hb hby at_35) rfl rfl (l' := #[.val (.int p0), .val (.int p1), .val (.long q2), .second, .val (.long q3), .second, .val (.int p4), .val (.int p5), .val (.int (1 : Int32)), .val (.int (0 : Int32)), .val (.ref b678), .unset, .unset, .unset, .unset, .unset, .unset]) rfl ?_
        show Steps p.tables e below (T690.setTop (mkF m 37 #[.val (.int p0), .val (.int p1), .val (.long q2), .second, .val (.long q3), .second, .val (.int p4), .val (.int p5), .val (.int (1 : Int32)), .val (.int (0 : Int32)), .val (.ref b678), .unset, .unset, .unset, .unset, .unset, .unset] [])) _
        refine XS.iconst X690.here hx rfl (hb hby at_37) ?_
        show Steps p.tables e below (T690.setTop (mkF m 38 #[.val (.int p0), .val (.int p1), .val (.long q2), .second, .val (.long q3), .second, .val (.int p4), .val (.int p5), .val (.int (1 : Int32)), .val (.int (0 : Int32)), .val (.ref b678), .unset, .unset, .unset, .unset, .unset, .unset] [(.int (2 : Int32))])) _
        refine st691 _ ?_
        show Steps p.tables e below (T691.setTop (mkF m 40 #[.val (.int p0), .val (.int p1), .val (.long q2), .second, .val (.long q3), .second, .val (.int p4), .val (.int p5), .val (.int (1 : Int32)), .val (.int (0 : Int32)), .val (.ref b678), .unset, .unset, .unset, .unset, .unset, .unset] [(.ref b691)])) _
        refine XS.astore X691.here hx rfl (hb hby at_40) rfl rfl (l' := #[.val (.int p0), .val (.int p1), .val (.long q2), .second, .val (.long q3), .second, .val (.int p4), .val (.int p5), .val (.int (1 : Int32)), .val (.int (0 : Int32)), .val (.ref b678), .val (.ref b691), .unset, .unset, .unset, .unset, .unset]) rfl ?_
        show Steps p.tables e below (T691.setTop (mkF m 42 #[.val (.int p0), .val (.int p1), .val (.long q2), .second, .val (.long q3), .second, .val (.int p4), .val (.int p5), .val (.int (1 : Int32)), .val (.int (0 : Int32)), .val (.ref b678), .val (.ref b691), .unset, .unset, .unset, .unset, .unset] [])) _
        refine XS.iconst X691.here hx rfl (hb hby at_42) ?_
        show Steps p.tables e below (T691.setTop (mkF m 43 #[.val (.int p0), .val (.int p1), .val (.long q2), .second, .val (.long q3), .second, .val (.int p4), .val (.int p5), .val (.int (1 : Int32)), .val (.int (0 : Int32)), .val (.ref b678), .val (.ref b691), .unset, .unset, .unset, .unset, .unset] [(.int (2 : Int32))])) _
        refine st694 _ ?_
        show Steps p.tables e below (T694.setTop (mkF m 45 #[.val (.int p0), .val (.int p1), .val (.long q2), .second, .val (.long q3), .second, .val (.int p4), .val (.int p5), .val (.int (1 : Int32)), .val (.int (0 : Int32)), .val (.ref b678), .val (.ref b691), .unset, .unset, .unset, .unset, .unset] [(.ref b694)])) _
        refine XS.astore X694.here hx rfl (hb hby at_45) rfl rfl (l' := #[.val (.int p0), .val (.int p1), .val (.long q2), .second, .val (.long q3), .second, .val (.int p4), .val (.int p5), .val (.int (1 : Int32)), .val (.int (0 : Int32)), .val (.ref b678), .val (.ref b691), .val (.ref b694), .unset, .unset, .unset, .unset]) rfl ?_
        show Steps p.tables e below (T694.setTop (mkF m 47 #[.val (.int p0), .val (.int p1), .val (.long q2), .second, .val (.long q3), .second, .val (.int p4), .val (.int p5), .val (.int (1 : Int32)), .val (.int (0 : Int32)), .val (.ref b678), .val (.ref b691), .val (.ref b694), .unset, .unset, .unset, .unset] [])) _
        refine XS.iconst X694.here hx rfl (hb hby at_47) ?_
        show Steps p.tables e below (T694.setTop (mkF m 48 #[.val (.int p0), .val (.int p1), .val (.long q2), .second, .val (.long q3), .second, .val (.int p4), .val (.int p5), .val (.int (1 : Int32)), .val (.int (0 : Int32)), .val (.ref b678), .val (.ref b691), .val (.ref b694), .unset, .unset, .unset, .unset] [(.int (2 : Int32))])) _
        refine st703 _ ?_
        show Steps p.tables e below (T703.setTop (mkF m 50 #[.val (.int p0), .val (.int p1), .val (.long q2), .second, .val (.long q3), .second, .val (.int p4), .val (.int p5), .val (.int (1 : Int32)), .val (.int (0 : Int32)), .val (.ref b678), .val (.ref b691), .val (.ref b694), .unset, .unset, .unset, .unset] [(.ref b703)])) _
        refine XS.astore X703.here hx rfl (hb hby at_50) rfl rfl (l' := #[.val (.int p0), .val (.int p1), .val (.long q2), .second, .val (.long q3), .second, .val (.int p4), .val (.int p5), .val (.int (1 : Int32)), .val (.int (0 : Int32)), .val (.ref b678), .val (.ref b691), .val (.ref b694), .val (.ref b703), .unset, .unset, .unset]) rfl ?_
        show Steps p.tables e below (T703.setTop (mkF m 52 #[.val (.int p0), .val (.int p1), .val (.long q2), .second, .val (.long q3), .second, .val (.int p4), .val (.int p5), .val (.int (1 : Int32)), .val (.int (0 : Int32)), .val (.ref b678), .val (.ref b691), .val (.ref b694), .val (.ref b703), .unset, .unset, .unset] [])) _
        refine XS.iconst X703.here hx rfl (hb hby at_52) ?_
        show Steps p.tables e below (T703.setTop (mkF m 53 #[.val (.int p0), .val (.int p1), .val (.long q2), .second, .val (.long q3), .second, .val (.int p4), .val (.int p5), .val (.int (1 : Int32)), .val (.int (0 : Int32)), .val (.ref b678), .val (.ref b691), .val (.ref b694), .val (.ref b703), .unset, .unset, .unset] [(.int (2 : Int32))])) _
        refine st713 _ ?_
        show Steps p.tables e below (T713.setTop (mkF m 55 #[.val (.int p0), .val (.int p1), .val (.long q2), .second, .val (.long q3), .second, .val (.int p4), .val (.int p5), .val (.int (1 : Int32)), .val (.int (0 : Int32)), .val (.ref b678), .val (.ref b691), .val (.ref b694), .val (.ref b703), .unset, .unset, .unset] [(.ref b713)])) _
        refine XS.astore X713.here hx rfl (hb hby at_55) rfl rfl (l' := #[.val (.int p0), .val (.int p1), .val (.long q2), .second, .val (.long q3), .second, .val (.int p4), .val (.int p5), .val (.int (1 : Int32)), .val (.int (0 : Int32)), .val (.ref b678), .val (.ref b691), .val (.ref b694), .val (.ref b703), .val (.ref b713), .unset, .unset]) rfl ?_
        show Steps p.tables e below (T713.setTop (mkF m 57 #[.val (.int p0), .val (.int p1), .val (.long q2), .second, .val (.long q3), .second, .val (.int p4), .val (.int p5), .val (.int (1 : Int32)), .val (.int (0 : Int32)), .val (.ref b678), .val (.ref b691), .val (.ref b694), .val (.ref b703), .val (.ref b713), .unset, .unset] [])) _
        refine XS.aload X713.here hx rfl (hb hby at_57) rfl rfl ?_
        show Steps p.tables e below (T713.setTop (mkF m 59 #[.val (.int p0), .val (.int p1), .val (.long q2), .second, .val (.long q3), .second, .val (.int p4), .val (.int p5), .val (.int (1 : Int32)), .val (.int (0 : Int32)), .val (.ref b678), .val (.ref b691), .val (.ref b694), .val (.ref b703), .val (.ref b713), .unset, .unset] [(.ref b691)])) _
        refine XS.iconst X713.here hx rfl (hb hby at_59) ?_
        show Steps p.tables e below (T713.setTop (mkF m 60 #[.val (.int p0), .val (.int p1), .val (.long q2), .second, .val (.long q3), .second, .val (.int p4), .val (.int p5), .val (.int (1 : Int32)), .val (.int (0 : Int32)), .val (.ref b678), .val (.ref b691), .val (.ref b694), .val (.ref b703), .val (.ref b713), .unset, .unset] [(.int (0 : Int32)), (.ref b691)])) _
        refine XS.iloadN X713.here hx rfl (hb hby at_60) rfl ?_
        show Steps p.tables e below (T713.setTop (mkF m 61 #[.val (.int p0), .val (.int p1), .val (.long q2), .second, .val (.long q3), .second, .val (.int p4), .val (.int p5), .val (.int (1 : Int32)), .val (.int (0 : Int32)), .val (.ref b678), .val (.ref b691), .val (.ref b694), .val (.ref b703), .val (.ref b713), .unset, .unset] [(.int p0), (.int (0 : Int32)), (.ref b691)])) _
        refine st725 _ ?_
        show Steps p.tables e below (T725.setTop (mkF m 62 #[.val (.int p0), .val (.int p1), .val (.long q2), .second, .val (.long q3), .second, .val (.int p4), .val (.int p5), .val (.int (1 : Int32)), .val (.int (0 : Int32)), .val (.ref b678), .val (.ref b691), .val (.ref b694), .val (.ref b703), .val (.ref b713), .unset, .unset] [])) _
        refine XS.aload X725.here hx rfl (hb hby at_62) rfl rfl ?_
        show Steps p.tables e below (T725.setTop (mkF m 64 #[.val (.int p0), .val (.int p1), .val (.long q2), .second, .val (.long q3), .second, .val (.int p4), .val (.int p5), .val (.int (1 : Int32)), .val (.int (0 : Int32)), .val (.ref b678), .val (.ref b691), .val (.ref b694), .val (.ref b703), .val (.ref b713), .unset, .unset] [(.ref b691)])) _
        refine XS.iconst X725.here hx rfl (hb hby at_64) ?_
        show Steps p.tables e below (T725.setTop (mkF m 65 #[.val (.int p0), .val (.int p1), .val (.long q2), .second, .val (.long q3), .second, .val (.int p4), .val (.int p5), .val (.int (1 : Int32)), .val (.int (0 : Int32)), .val (.ref b678), .val (.ref b691), .val (.ref b694), .val (.ref b703), .val (.ref b713), .unset, .unset] [(.int (1 : Int32)), (.ref b691)])) _
        refine XS.iloadN X725.here hx rfl (hb hby at_65) rfl ?_
        show Steps p.tables e below (T725.setTop (mkF m 66 #[.val (.int p0), .val (.int p1), .val (.long q2), .second, .val (.long q3), .second, .val (.int p4), .val (.int p5), .val (.int (1 : Int32)), .val (.int (0 : Int32)), .val (.ref b678), .val (.ref b691), .val (.ref b694), .val (.ref b703), .val (.ref b713), .unset, .unset] [(.int p1), (.int (1 : Int32)), (.ref b691)])) _
        exact kt
      obtain ⟨T727, h727, X727, e727, W727, V727, st727⟩ := own_stI X725 hx hZ e725 V725 (i := 1) (by decide : (1 : Int32).toInt = ((1 : Nat) : Int)) (by decide) (g := (mkF m 66 #[.val (.int p0), .val (.int p1), .val (.long q2), .second, .val (.long q3), .second, .val (.int p4), .val (.int p5), .val (.int (1 : Int32)), .val (.int (0 : Int32)), .val (.ref b678), .val (.ref b691), .val (.ref b694), .val (.ref b703), .val (.ref b713), .unset, .unset] [(.int p1), (.int (1 : Int32)), (.ref b691)])) rfl rfl (hb hby at_66)
      have N727 := Fr.snoc X727 N725 ge_b691
      have f728 := ((((V694.keep ((Keep.refl _ []).ext E703) nin0).keep ((Keep.refl _ []).ext E713) nin0).keep (Keep.of_wr W725) (ninS (Ne.symm ne_b691_b694) nin0)).keep (Keep.of_wr W727) (ninS (Ne.symm ne_b691_b694) nin0))
      obtain ⟨T729, h729, X729, e729, W729, V729, st729⟩ := own_stJ X727 hx hZ e727 f728 (i := 0) (by decide : (0 : Int32).toInt = ((0 : Nat) : Int)) (by decide) (g := (mkF m 71 #[.val (.int p0), .val (.int p1), .val (.long q2), .second, .val (.long q3), .second, .val (.int p4), .val (.int p5), .val (.int (1 : Int32)), .val (.int (0 : Int32)), .val (.ref b678), .val (.ref b691), .val (.ref b694), .val (.ref b703), .val (.ref b713), .unset, .unset] [(.long q2), (.int (0 : Int32)), (.ref b694)])) rfl rfl (hb hby at_71)
      have N729 := Fr.snoc X729 N727 ge_b694
      obtain ⟨T730, h730, X730, e730, W730, V730, st730⟩ := own_stJ X729 hx hZ e729 V729 (i := 1) (by decide : (1 : Int32).toInt = ((1 : Nat) : Int)) (by decide) (g := (mkF m 77 #[.val (.int p0), .val (.int p1), .val (.long q2), .second, .val (.long q3), .second, .val (.int p4), .val (.int p5), .val (.int (1 : Int32)), .val (.int (0 : Int32)), .val (.ref b678), .val (.ref b691), .val (.ref b694), .val (.ref b703), .val (.ref b713), .unset, .unset] [(.long q3), (.int (1 : Int32)), (.ref b694)])) rfl rfl (hb hby at_77)
      have N730 := Fr.snoc X730 N729 ge_b694
      have f731 := (Nat.le_trans (Nat.le_trans (Nat.le_trans (Nat.le_trans (Nat.le_trans f723 ((Keep.refl _ []).ext E713).1) (Keep.of_wr W725).1) (Keep.of_wr W727).1) (Keep.of_wr W729).1) (Keep.of_wr W730).1)
      have f732 := (((((f714.keep ((Keep.refl _ []).ext E713)).keep (Keep.of_wr W725)).keep (Keep.of_wr W727)).keep (Keep.of_wr W729)).keep (Keep.of_wr W730))
      have f733 := ((((((((Fi_ia.keep ((Keep.refl _ []).ext E691) nin0).keep ((Keep.refl _ []).ext E694) nin0).keep ((Keep.refl _ []).ext E703) nin0).keep ((Keep.refl _ []).ext E713) nin0).keep (Keep.of_wr W725) (ninS ne_b678_b691 nin0)).keep (Keep.of_wr W727) (ninS ne_b678_b691 nin0)).keep (Keep.of_wr W729) (ninS ne_b678_b694 nin0)).keep (Keep.of_wr W730) (ninS ne_b678_b694 nin0))
      have f734 := ((((((((Fi_la.keep ((Keep.refl _ []).ext E691) nin0).keep ((Keep.refl _ []).ext E694) nin0).keep ((Keep.refl _ []).ext E703) nin0).keep ((Keep.refl _ []).ext E713) nin0).keep (Keep.of_wr W725) (ninS ne_b678_b691 nin0)).keep (Keep.of_wr W727) (ninS ne_b678_b691 nin0)).keep (Keep.of_wr W729) (ninS ne_b678_b694 nin0)).keep (Keep.of_wr W730) (ninS ne_b678_b694 nin0))
      have f735 := ((((((((Fi_si.keep ((Keep.refl _ []).ext E691) nin0).keep ((Keep.refl _ []).ext E694) nin0).keep ((Keep.refl _ []).ext E703) nin0).keep ((Keep.refl _ []).ext E713) nin0).keep (Keep.of_wr W725) (ninS ne_b678_b691 nin0)).keep (Keep.of_wr W727) (ninS ne_b678_b691 nin0)).keep (Keep.of_wr W729) (ninS ne_b678_b694 nin0)).keep (Keep.of_wr W730) (ninS ne_b678_b694 nin0))
      have f736 := ((((((((Fi_ov.keep ((Keep.refl _ []).ext E691) nin0).keep ((Keep.refl _ []).ext E694) nin0).keep ((Keep.refl _ []).ext E703) nin0).keep ((Keep.refl _ []).ext E713) nin0).keep (Keep.of_wr W725) (ninS ne_b678_b691 nin0)).keep (Keep.of_wr W727) (ninS ne_b678_b691 nin0)).keep (Keep.of_wr W729) (ninS ne_b678_b694 nin0)).keep (Keep.of_wr W730) (ninS ne_b678_b694 nin0))
      have f737 := ((((((((oFaentries690.keep ((Keep.refl _ []).ext E691) nin0).keep ((Keep.refl _ []).ext E694) nin0).keep ((Keep.refl _ []).ext E703) nin0).keep ((Keep.refl _ []).ext E713) nin0).keep (Keep.of_wr W725) (ninS ne_b678_b691 nin0)).keep (Keep.of_wr W727) (ninS ne_b678_b691 nin0)).keep (Keep.of_wr W729) (ninS ne_b678_b694 nin0)).keep (Keep.of_wr W730) (ninS ne_b678_b694 nin0))
      have f738 := ((((((((Fi_ls.keep ((Keep.refl _ []).ext E691) nin0).keep ((Keep.refl _ []).ext E694) nin0).keep ((Keep.refl _ []).ext E703) nin0).keep ((Keep.refl _ []).ext E713) nin0).keep (Keep.of_wr W725) (ninS ne_b678_b691 nin0)).keep (Keep.of_wr W727) (ninS ne_b678_b691 nin0)).keep (Keep.of_wr W729) (ninS ne_b678_b694 nin0)).keep (Keep.of_wr W730) (ninS ne_b678_b694 nin0))
      have f739 := ((((((((Fi_os.keep ((Keep.refl _ []).ext E691) nin0).keep ((Keep.refl _ []).ext E694) nin0).keep ((Keep.refl _ []).ext E703) nin0).keep ((Keep.refl _ []).ext E713) nin0).keep (Keep.of_wr W725) (ninS ne_b678_b691 nin0)).keep (Keep.of_wr W727) (ninS ne_b678_b691 nin0)).keep (Keep.of_wr W729) (ninS ne_b678_b694 nin0)).keep (Keep.of_wr W730) (ninS ne_b678_b694 nin0))
      have f740 := ((((((((oFalevel690.keep ((Keep.refl _ []).ext E691) nin0).keep ((Keep.refl _ []).ext E694) nin0).keep ((Keep.refl _ []).ext E703) nin0).keep ((Keep.refl _ []).ext E713) nin0).keep (Keep.of_wr W725) (ninS ne_b678_b691 nin0)).keep (Keep.of_wr W727) (ninS ne_b678_b691 nin0)).keep (Keep.of_wr W729) (ninS ne_b678_b694 nin0)).keep (Keep.of_wr W730) (ninS ne_b678_b694 nin0))
      have f741 := ((((((((oFastamp690.keep ((Keep.refl _ []).ext E691) nin0).keep ((Keep.refl _ []).ext E694) nin0).keep ((Keep.refl _ []).ext E703) nin0).keep ((Keep.refl _ []).ext E713) nin0).keep (Keep.of_wr W725) (ninS ne_b678_b691 nin0)).keep (Keep.of_wr W727) (ninS ne_b678_b691 nin0)).keep (Keep.of_wr W729) (ninS ne_b678_b694 nin0)).keep (Keep.of_wr W730) (ninS ne_b678_b694 nin0))
      have f742 := ((((((((oFalastStamp690.keep ((Keep.refl _ []).ext E691) nin0).keep ((Keep.refl _ []).ext E694) nin0).keep ((Keep.refl _ []).ext E703) nin0).keep ((Keep.refl _ []).ext E713) nin0).keep (Keep.of_wr W725) (ninS ne_b678_b691 nin0)).keep (Keep.of_wr W727) (ninS ne_b678_b691 nin0)).keep (Keep.of_wr W729) (ninS ne_b678_b694 nin0)).keep (Keep.of_wr W730) (ninS ne_b678_b694 nin0))
      have f743 := (((((f719.keep ((Keep.refl _ []).ext E713) nin0).keep (Keep.of_wr W725) (ninS ne_ls690_b691 nin0)).keep (Keep.of_wr W727) (ninS ne_ls690_b691 nin0)).keep (Keep.of_wr W729) (ninS ne_ls690_b694 nin0)).keep (Keep.of_wr W730) (ninS ne_ls690_b694 nin0))
      have f744 := (((((f720.keep ((Keep.refl _ []).ext E713) nin0).keep (Keep.of_wr W725) (ninS ne_os690_b691 nin0)).keep (Keep.of_wr W727) (ninS ne_os690_b691 nin0)).keep (Keep.of_wr W729) (ninS ne_os690_b694 nin0)).keep (Keep.of_wr W730) (ninS ne_os690_b694 nin0))
      obtain ⟨cq745, kq745, q745a, q745b, q745c⟩ := isOf hZ e730 f732
      obtain ⟨_, _, ⟨T745, L745, kc745, nc745⟩, -, X745, ⟨Lc745, hQ745, l745, y745, z745⟩, st745⟩ := X730.virtualBack hx (y := (⟨"com/example/tablewise/tablewise/propagation/Trail", "openLevel", "()V"⟩ : MethodName)) (z := (⟨"com/example/tablewise/tablewise/propagation/Trail", "openLevel", "()V"⟩ : MethodName)) hown (mvT hZ (hw _ (List.mem_of_getElem? (i := 27) rfl))) (mvT hZ (hw _ (List.mem_of_getElem? (i := 28) rfl))) (notFace_of_selects (args := #[]) (mvT hZ (hw _ (List.mem_of_getElem? (i := 30) rfl)))) (mvT hZ (hw _ (List.mem_of_getElem? (i := 30) rfl))) (mvT hZ (hw _ (List.mem_of_getElem? (i := 29) rfl))) (by decide) (backOf (W := 0) (rm3 l Z a0 hw [] b678 ia690 la690 si690 ov690 ls690 os690 (0 : Int32) (0 : Int32) (0 : Int64) (0 : Int64) 0 (fun _ => 0) (fun _ => 0) h730 n0 f731 f732 f733 f734 f735 f736 f737 f738 f739 f740 f741 f742 f743 f744 ge_b678 gi_ls gi_os ni_a_ls ni_a_os ni_ls_os (by decide) (by decide)) hZ (hw _ (List.mem_of_getElem? (i := 31) rfl)) (hw _ (List.mem_of_getElem? (i := 2) rfl)) (by decide) (by decide)) q745a q745c (g := (mkF m 80 #[.val (.int p0), .val (.int p1), .val (.long q2), .second, .val (.long q3), .second, .val (.int p4), .val (.int p5), .val (.int (1 : Int32)), .val (.int (0 : Int32)), .val (.ref b678), .val (.ref b691), .val (.ref b694), .val (.ref b703), .val (.ref b713), .unset, .unset] [(.ref b678)])) rfl (by rw [hml]; rfl) (Steps.refl _) (argsL := []) (rest := []) (lenOf pd_0 rfl) rfl (by show 2 * 0 + _ ≤ _; exact Nat.le_of_eq rfl) (hb hby at_80) (fun _ _ => ⟨rfl, e730, (by decide : 11 + 0 ≤ _), (by decide : 306 + 0 ≤ _)⟩)
      dsimp only [Pt.U, Pt.locs, Pt.cells, Pt.slots] at X745 l745 y745 z745 st745 hQ745
      rw [l745, y745, z745] at X745
      replace X745 : Stand p l e room_1 s m #[(.int p0), (.int p1), (.long q2), (.long q3), (.int p4), (.int p5)] below meth c T745 _ 11 306 := X745
      obtain ⟨rfl, Nq745, oK745, oFaintArrays745, oFalongArrays745, oFaslotIndices745, oFaoldValues745, oFaentries745, oFalevelStarts745, oFaouterStamps745, oFalevel745, oFastamp745, oFalastStamp745, oAls745, oAos745⟩ := hQ745
      have N745 := Fr.app N730 Nq745
      have f746 := (Nat.le_trans f731 oK745.1)
      have f747 := (f732.keep oK745)
      have f748 := ((((((f721.keep ((Keep.refl _ []).ext E713)).keep (Keep.of_wr W725)).keep (Keep.of_wr W727)).keep (Keep.of_wr W729)).keep (Keep.of_wr W730)).keep oK745)
      have f749 := ((((((f715.keep ((Keep.refl _ []).ext E713) nin0).keep (Keep.of_wr W725) (ninS ne_ia690_b691 nin0)).keep (Keep.of_wr W727) (ninS ne_ia690_b691 nin0)).keep (Keep.of_wr W729) (ninS ne_ia690_b694 nin0)).keep (Keep.of_wr W730) (ninS ne_ia690_b694 nin0)).keep oK745 (ninS (Ne.symm ni_a_ia) (ninS ni_ia_ls (ninS ni_ia_os nin0))))
      have f750 := ((((((f716.keep ((Keep.refl _ []).ext E713) nin0).keep (Keep.of_wr W725) (ninS ne_la690_b691 nin0)).keep (Keep.of_wr W727) (ninS ne_la690_b691 nin0)).keep (Keep.of_wr W729) (ninS ne_la690_b694 nin0)).keep (Keep.of_wr W730) (ninS ne_la690_b694 nin0)).keep oK745 (ninS (Ne.symm ni_a_la) (ninS ni_la_ls (ninS ni_la_os nin0))))
      have f751 := ((((((f717.keep ((Keep.refl _ []).ext E713) nin0).keep (Keep.of_wr W725) (ninS ne_si690_b691 nin0)).keep (Keep.of_wr W727) (ninS ne_si690_b691 nin0)).keep (Keep.of_wr W729) (ninS ne_si690_b694 nin0)).keep (Keep.of_wr W730) (ninS ne_si690_b694 nin0)).keep oK745 (ninS (Ne.symm ni_a_si) (ninS ni_si_ls (ninS ni_si_os nin0))))
      have f752 := ((((((f718.keep ((Keep.refl _ []).ext E713) nin0).keep (Keep.of_wr W725) (ninS ne_ov690_b691 nin0)).keep (Keep.of_wr W727) (ninS ne_ov690_b691 nin0)).keep (Keep.of_wr W729) (ninS ne_ov690_b694 nin0)).keep (Keep.of_wr W730) (ninS ne_ov690_b694 nin0)).keep oK745 (ninS (Ne.symm ni_a_ov) (ninS ni_ov_ls (ninS ni_ov_os nin0))))
      have f753 := (((V727.keep (Keep.of_wr W729) (ninS ne_b691_b694 nin0)).keep (Keep.of_wr W730) (ninS ne_b691_b694 nin0)).keep oK745 (ninS (Ne.symm ne_b678_b691) (ninS (Ne.symm ne_ls690_b691) (ninS (Ne.symm ne_os690_b691) nin0))))
      have f754 := ((((((V703.keep ((Keep.refl _ []).ext E713) nin0).keep (Keep.of_wr W725) (ninS (Ne.symm ne_b691_b703) nin0)).keep (Keep.of_wr W727) (ninS (Ne.symm ne_b691_b703) nin0)).keep (Keep.of_wr W729) (ninS (Ne.symm ne_b694_b703) nin0)).keep (Keep.of_wr W730) (ninS (Ne.symm ne_b694_b703) nin0)).keep oK745 (ninS (Ne.symm ne_b678_b703) (ninS (Ne.symm ne_ls690_b703) (ninS (Ne.symm ne_os690_b703) nin0))))
      obtain ⟨cq755, kq755, q755a, q755b, q755c⟩ := isOf hZ rfl f747
      obtain ⟨_, _, ⟨T755, L755, kc755, nc755⟩, -, X755, ⟨Lc755, hQ755, l755, y755, z755⟩, st755⟩ := X745.virtualBack hx (y := (⟨"com/example/tablewise/tablewise/propagation/Trail", "set", "([I[JII)V"⟩ : MethodName)) (z := (⟨"com/example/tablewise/tablewise/propagation/Trail", "set", "([I[JII)V"⟩ : MethodName)) hown (mvT hZ (hw _ (List.mem_of_getElem? (i := 40) rfl))) (mvT hZ (hw _ (List.mem_of_getElem? (i := 41) rfl))) (notFace_of_selects (args := #[]) (mvT hZ (hw _ (List.mem_of_getElem? (i := 43) rfl)))) (mvT hZ (hw _ (List.mem_of_getElem? (i := 43) rfl))) (mvT hZ (hw _ (List.mem_of_getElem? (i := 42) rfl))) (by decide) (backOf (W := 0) (rmsetIr l Z a0 hw [] b678 b691 b703 (0 : Int32) p1 ia690 la690 si690 ov690 ls690 os690 (0 : Int32) ((0 : Int32) + (1 : Int32)) ((0 : Int64) + (1 : Int64)) ((0 : Int64) + (1 : Int64)) 0 (fun _ => .null) (fun _ => .null) (fun _ => 0) (fun _ => 0) 0 (own_upd (own_upd (fun _ => 0) 0 p0) 1 p1) (fun _ => 0) T745.heap n0 f746 f747 f748 oFaintArrays745 oFalongArrays745 oFaslotIndices745 oFaoldValues745 oFaentries745 oFalevelStarts745 oFaouterStamps745 oFalevel745 oFastamp745 oFalastStamp745 f749 f750 f751 f752 f753 f754 ge_b678 gi_ia gi_la gi_si gi_ov ge_b691 ge_b703 ni_a_ia ni_a_la ni_a_si ni_a_ov ne_b678_b691 ne_b678_b703 ni_ia_la ni_ia_si ni_ia_ov ne_ia690_b691 ne_ia690_b703 ni_la_si ni_la_ov ne_la690_b691 ne_la690_b703 ni_si_ov ne_si690_b691 ne_si690_b703 ne_ov690_b691 ne_ov690_b703 ne_b691_b703 (by decide) (by decide) (by decide) (by decide) (by decide)) hZ (hw _ (List.mem_of_getElem? (i := 44) rfl)) (hw _ (List.mem_of_getElem? (i := 2) rfl)) (by decide) (by decide)) q755a q755c (g := (mkF m 91 #[.val (.int p0), .val (.int p1), .val (.long q2), .second, .val (.long q3), .second, .val (.int p4), .val (.int p5), .val (.int (1 : Int32)), .val (.int (0 : Int32)), .val (.ref b678), .val (.ref b691), .val (.ref b694), .val (.ref b703), .val (.ref b713), .unset, .unset] [(.int p1), (.int (0 : Int32)), (.ref b703), (.ref b691), (.ref b678)])) rfl (by rw [hml]; rfl) (Steps.refl _) (argsL := [(.ref b691), (.ref b703), (.int (0 : Int32)), (.int p1)]) (rest := []) (lenOf pd_1 rfl) rfl (by show 2 * 0 + _ ≤ _; exact Nat.le_of_eq rfl) (hb hby at_91) (fun _ _ => ⟨rfl, rfl, (by decide : 11 + 0 ≤ _), (by decide : 306 + 0 ≤ _)⟩)
      dsimp only [Pt.U, Pt.locs, Pt.cells, Pt.slots] at X755 l755 y755 z755 st755 hQ755
      rw [l755, y755, z755] at X755
      replace X755 : Stand p l e room_1 s m #[(.int p0), (.int p1), (.long q2), (.long q3), (.int p4), (.int p5)] below meth c T755 _ 11 306 := X755
      obtain ⟨rfl, Nq755, oK755, oFaintArrays755, oFalongArrays755, oFaslotIndices755, oFaoldValues755, oFalevelStarts755, oFaouterStamps755, oFalevel755, oFastamp755, oFalastStamp755, oFaentries755, oAia755, oAla755, oAsi755, oAov755, oAar755, oAmk755⟩ := hQ755
      have N755 := Fr.app N745 Nq755
      have f756 := (Nat.le_trans f746 oK755.1)
      have f757 := (f747.keep oK755)
      obtain ⟨cq758, kq758, q758a, q758b, q758c⟩ := isOf hZ rfl f757
      obtain ⟨_, _, ⟨T758, L758, kc758, nc758⟩, -, X758, ⟨Lc758, hQ758, l758, y758, z758⟩, st758⟩ := X755.virtualBack hx (y := (⟨"com/example/tablewise/tablewise/propagation/Trail", "set", "([I[JII)V"⟩ : MethodName)) (z := (⟨"com/example/tablewise/tablewise/propagation/Trail", "set", "([I[JII)V"⟩ : MethodName)) hown (mvT hZ (hw _ (List.mem_of_getElem? (i := 40) rfl))) (mvT hZ (hw _ (List.mem_of_getElem? (i := 41) rfl))) (notFace_of_selects (args := #[]) (mvT hZ (hw _ (List.mem_of_getElem? (i := 43) rfl)))) (mvT hZ (hw _ (List.mem_of_getElem? (i := 43) rfl))) (mvT hZ (hw _ (List.mem_of_getElem? (i := 42) rfl))) (by decide) (backOf (W := 0) (rmsetIs l Z a0 hw [] b678 b691 b703 (0 : Int32) p4 ((0 : Int64) + (1 : Int64)) 0 (own_upd (own_upd (own_upd (fun _ => 0) 0 p0) 1 p1) 0 p1) (own_upd (fun _ => 0) 0 ((0 : Int64) + (1 : Int64))) T755.heap n0 f756 f757 oFastamp755 oAar755 oAmk755 ge_b691 ne_b691_b703 ne_b678_b691 ne_b678_b703 (by decide) (by decide) (by decide)) hZ (hw _ (List.mem_of_getElem? (i := 44) rfl)) (hw _ (List.mem_of_getElem? (i := 2) rfl)) (by decide) (by decide)) q758a q758c (g := (mkF m 108 #[.val (.int p0), .val (.int p1), .val (.long q2), .second, .val (.long q3), .second, .val (.int p4), .val (.int p5), .val (.int (1 : Int32)), .val (.int (0 : Int32)), .val (.ref b678), .val (.ref b691), .val (.ref b694), .val (.ref b703), .val (.ref b713), .unset, .unset] [(.int p4), (.int (0 : Int32)), (.ref b703), (.ref b691), (.ref b678)])) rfl (by rw [hml]; rfl) (Steps.refl _) (argsL := [(.ref b691), (.ref b703), (.int (0 : Int32)), (.int p4)]) (rest := []) (lenOf pd_1 rfl) rfl (by show 2 * 0 + _ ≤ _; exact Nat.le_of_eq rfl) (hb hby at_108) (fun _ _ => ⟨rfl, rfl, (by decide : 11 + 0 ≤ _), (by decide : 306 + 0 ≤ _)⟩)
      dsimp only [Pt.U, Pt.locs, Pt.cells, Pt.slots] at X758 l758 y758 z758 st758 hQ758
      rw [l758, y758, z758] at X758
      replace X758 : Stand p l e room_1 s m #[(.int p0), (.int p1), (.long q2), (.long q3), (.int p4), (.int p5)] below meth c T758 _ 11 306 := X758
      obtain ⟨rfl, Nq758, oK758, oAar758⟩ := hQ758
      have N758 := Fr.app N755 Nq758
      have k759 : ∀ tg_, Steps p.tables e below (T758.setTop (mkF m 113 #[.val (.int p0), .val (.int p1), .val (.long q2), .second, .val (.long q3), .second, .val (.int p4), .val (.int p5), .val (.int (1 : Int32)), .val (.int (0 : Int32)), .val (.ref b678), .val (.ref b691), .val (.ref b694), .val (.ref b703), .val (.ref b713), .unset, .unset] [(.ref b678)])) tg_ → Steps p.tables e below (s₁.setTop (entryFrame m #[(.int p0), (.int p1), (.long q2), (.long q3), (.int p4), (.int p5)] maxLocals)) tg_ := by
        intro tg_ kt
        refine k726 tg_ ?_
        refine st727 _ ?_
        show Steps p.tables e below (T727.setTop (mkF m 67 #[.val (.int p0), .val (.int p1), .val (.long q2), .second, .val (.long q3), .second, .val (.int p4), .val (.int p5), .val (.int (1 : Int32)), .val (.int (0 : Int32)), .val (.ref b678), .val (.ref b691), .val (.ref b694), .val (.ref b703), .val (.ref b713), .unset, .unset] [])) _
        refine XS.aload X727.here hx rfl (hb hby at_67) rfl rfl ?_
        show Steps p.tables e below (T727.setTop (mkF m 69 #[.val (.int p0), .val (.int p1), .val (.long q2), .second, .val (.long q3), .second, .val (.int p4), .val (.int p5), .val (.int (1 : Int32)), .val (.int (0 : Int32)), .val (.ref b678), .val (.ref b691), .val (.ref b694), .val (.ref b703), .val (.ref b713), .unset, .unset] [(.ref b694)])) _
        refine XS.iconst X727.here hx rfl (hb hby at_69) ?_
        show Steps p.tables e below (T727.setTop (mkF m 70 #[.val (.int p0), .val (.int p1), .val (.long q2), .second, .val (.long q3), .second, .val (.int p4), .val (.int p5), .val (.int (1 : Int32)), .val (.int (0 : Int32)), .val (.ref b678), .val (.ref b691), .val (.ref b694), .val (.ref b703), .val (.ref b713), .unset, .unset] [(.int (0 : Int32)), (.ref b694)])) _
        refine XS.lloadN X727.here hx rfl (hb hby at_70) rfl ?_
        show Steps p.tables e below (T727.setTop (mkF m 71 #[.val (.int p0), .val (.int p1), .val (.long q2), .second, .val (.long q3), .second, .val (.int p4), .val (.int p5), .val (.int (1 : Int32)), .val (.int (0 : Int32)), .val (.ref b678), .val (.ref b691), .val (.ref b694), .val (.ref b703), .val (.ref b713), .unset, .unset] [(.long q2), (.int (0 : Int32)), (.ref b694)])) _
        refine st729 _ ?_
        show Steps p.tables e below (T729.setTop (mkF m 72 #[.val (.int p0), .val (.int p1), .val (.long q2), .second, .val (.long q3), .second, .val (.int p4), .val (.int p5), .val (.int (1 : Int32)), .val (.int (0 : Int32)), .val (.ref b678), .val (.ref b691), .val (.ref b694), .val (.ref b703), .val (.ref b713), .unset, .unset] [])) _
        refine XS.aload X729.here hx rfl (hb hby at_72) rfl rfl ?_
        show Steps p.tables e below (T729.setTop (mkF m 74 #[.val (.int p0), .val (.int p1), .val (.long q2), .second, .val (.long q3), .second, .val (.int p4), .val (.int p5), .val (.int (1 : Int32)), .val (.int (0 : Int32)), .val (.ref b678), .val (.ref b691), .val (.ref b694), .val (.ref b703), .val (.ref b713), .unset, .unset] [(.ref b694)])) _
        refine XS.iconst X729.here hx rfl (hb hby at_74) ?_
        show Steps p.tables e below (T729.setTop (mkF m 75 #[.val (.int p0), .val (.int p1), .val (.long q2), .second, .val (.long q3), .second, .val (.int p4), .val (.int p5), .val (.int (1 : Int32)), .val (.int (0 : Int32)), .val (.ref b678), .val (.ref b691), .val (.ref b694), .val (.ref b703), .val (.ref b713), .unset, .unset] [(.int (1 : Int32)), (.ref b694)])) _
        refine XS.lload X729.here hx rfl (hb hby at_75) rfl ?_
        show Steps p.tables e below (T729.setTop (mkF m 77 #[.val (.int p0), .val (.int p1), .val (.long q2), .second, .val (.long q3), .second, .val (.int p4), .val (.int p5), .val (.int (1 : Int32)), .val (.int (0 : Int32)), .val (.ref b678), .val (.ref b691), .val (.ref b694), .val (.ref b703), .val (.ref b713), .unset, .unset] [(.long q3), (.int (1 : Int32)), (.ref b694)])) _
        refine st730 _ ?_
        show Steps p.tables e below (T730.setTop (mkF m 78 #[.val (.int p0), .val (.int p1), .val (.long q2), .second, .val (.long q3), .second, .val (.int p4), .val (.int p5), .val (.int (1 : Int32)), .val (.int (0 : Int32)), .val (.ref b678), .val (.ref b691), .val (.ref b694), .val (.ref b703), .val (.ref b713), .unset, .unset] [])) _
        refine XS.aload X730.here hx rfl (hb hby at_78) rfl rfl ?_
        show Steps p.tables e below (T730.setTop (mkF m 80 #[.val (.int p0), .val (.int p1), .val (.long q2), .second, .val (.long q3), .second, .val (.int p4), .val (.int p5), .val (.int (1 : Int32)), .val (.int (0 : Int32)), .val (.ref b678), .val (.ref b691), .val (.ref b694), .val (.ref b703), .val (.ref b713), .unset, .unset] [(.ref b678)])) _
        refine st745.trans ?_
        show Steps p.tables e below (T745.setTop (mkF m 83 #[.val (.int p0), .val (.int p1), .val (.long q2), .second, .val (.long q3), .second, .val (.int p4), .val (.int p5), .val (.int (1 : Int32)), .val (.int (0 : Int32)), .val (.ref b678), .val (.ref b691), .val (.ref b694), .val (.ref b703), .val (.ref b713), .unset, .unset] [])) _
        refine XS.aload X745.here hx rfl (hb hby at_83) rfl rfl ?_
        show Steps p.tables e below (T745.setTop (mkF m 85 #[.val (.int p0), .val (.int p1), .val (.long q2), .second, .val (.long q3), .second, .val (.int p4), .val (.int p5), .val (.int (1 : Int32)), .val (.int (0 : Int32)), .val (.ref b678), .val (.ref b691), .val (.ref b694), .val (.ref b703), .val (.ref b713), .unset, .unset] [(.ref b678)])) _
        refine XS.aload X745.here hx rfl (hb hby at_85) rfl rfl ?_
        show Steps p.tables e below (T745.setTop (mkF m 87 #[.val (.int p0), .val (.int p1), .val (.long q2), .second, .val (.long q3), .second, .val (.int p4), .val (.int p5), .val (.int (1 : Int32)), .val (.int (0 : Int32)), .val (.ref b678), .val (.ref b691), .val (.ref b694), .val (.ref b703), .val (.ref b713), .unset, .unset] [(.ref b691), (.ref b678)])) _
        refine XS.aload X745.here hx rfl (hb hby at_87) rfl rfl ?_
        show Steps p.tables e below (T745.setTop (mkF m 89 #[.val (.int p0), .val (.int p1), .val (.long q2), .second, .val (.long q3), .second, .val (.int p4), .val (.int p5), .val (.int (1 : Int32)), .val (.int (0 : Int32)), .val (.ref b678), .val (.ref b691), .val (.ref b694), .val (.ref b703), .val (.ref b713), .unset, .unset] [(.ref b703), (.ref b691), (.ref b678)])) _
        refine XS.iconst X745.here hx rfl (hb hby at_89) ?_
        show Steps p.tables e below (T745.setTop (mkF m 90 #[.val (.int p0), .val (.int p1), .val (.long q2), .second, .val (.long q3), .second, .val (.int p4), .val (.int p5), .val (.int (1 : Int32)), .val (.int (0 : Int32)), .val (.ref b678), .val (.ref b691), .val (.ref b694), .val (.ref b703), .val (.ref b713), .unset, .unset] [(.int (0 : Int32)), (.ref b703), (.ref b691), (.ref b678)])) _
        refine XS.iloadN X745.here hx rfl (hb hby at_90) rfl ?_
        show Steps p.tables e below (T745.setTop (mkF m 91 #[.val (.int p0), .val (.int p1), .val (.long q2), .second, .val (.long q3), .second, .val (.int p4), .val (.int p5), .val (.int (1 : Int32)), .val (.int (0 : Int32)), .val (.ref b678), .val (.ref b691), .val (.ref b694), .val (.ref b703), .val (.ref b713), .unset, .unset] [(.int p1), (.int (0 : Int32)), (.ref b703), (.ref b691), (.ref b678)])) _
        refine st755.trans ?_
        show Steps p.tables e below (T755.setTop (mkF m 94 #[.val (.int p0), .val (.int p1), .val (.long q2), .second, .val (.long q3), .second, .val (.int p4), .val (.int p5), .val (.int (1 : Int32)), .val (.int (0 : Int32)), .val (.ref b678), .val (.ref b691), .val (.ref b694), .val (.ref b703), .val (.ref b713), .unset, .unset] [])) _
        refine XS.iload X755.here hx rfl (hb hby at_94) rfl ?_
        show Steps p.tables e below (T755.setTop (mkF m 96 #[.val (.int p0), .val (.int p1), .val (.long q2), .second, .val (.long q3), .second, .val (.int p4), .val (.int p5), .val (.int (1 : Int32)), .val (.int (0 : Int32)), .val (.ref b678), .val (.ref b691), .val (.ref b694), .val (.ref b703), .val (.ref b713), .unset, .unset] [(.int (1 : Int32))])) _
        refine XS.ifNo X755.here hx rfl (hb hby at_96) rfl ((if0 _ _).trans (feq (by decide : ¬ ((1 : Int32) = (0 : Int32)))).1) ?_
        show Steps p.tables e below (T755.setTop (mkF m 99 #[.val (.int p0), .val (.int p1), .val (.long q2), .second, .val (.long q3), .second, .val (.int p4), .val (.int p5), .val (.int (1 : Int32)), .val (.int (0 : Int32)), .val (.ref b678), .val (.ref b691), .val (.ref b694), .val (.ref b703), .val (.ref b713), .unset, .unset] [])) _
        refine XS.aload X755.here hx rfl (hb hby at_99) rfl rfl ?_
        show Steps p.tables e below (T755.setTop (mkF m 101 #[.val (.int p0), .val (.int p1), .val (.long q2), .second, .val (.long q3), .second, .val (.int p4), .val (.int p5), .val (.int (1 : Int32)), .val (.int (0 : Int32)), .val (.ref b678), .val (.ref b691), .val (.ref b694), .val (.ref b703), .val (.ref b713), .unset, .unset] [(.ref b678)])) _
        refine XS.aload X755.here hx rfl (hb hby at_101) rfl rfl ?_
        show Steps p.tables e below (T755.setTop (mkF m 103 #[.val (.int p0), .val (.int p1), .val (.long q2), .second, .val (.long q3), .second, .val (.int p4), .val (.int p5), .val (.int (1 : Int32)), .val (.int (0 : Int32)), .val (.ref b678), .val (.ref b691), .val (.ref b694), .val (.ref b703), .val (.ref b713), .unset, .unset] [(.ref b691), (.ref b678)])) _
        refine XS.aload X755.here hx rfl (hb hby at_103) rfl rfl ?_
        show Steps p.tables e below (T755.setTop (mkF m 105 #[.val (.int p0), .val (.int p1), .val (.long q2), .second, .val (.long q3), .second, .val (.int p4), .val (.int p5), .val (.int (1 : Int32)), .val (.int (0 : Int32)), .val (.ref b678), .val (.ref b691), .val (.ref b694), .val (.ref b703), .val (.ref b713), .unset, .unset] [(.ref b703), (.ref b691), (.ref b678)])) _
        refine XS.iconst X755.here hx rfl (hb hby at_105) ?_
        show Steps p.tables e below (T755.setTop (mkF m 106 #[.val (.int p0), .val (.int p1), .val (.long q2), .second, .val (.long q3), .second, .val (.int p4), .val (.int p5), .val (.int (1 : Int32)), .val (.int (0 : Int32)), .val (.ref b678), .val (.ref b691), .val (.ref b694), .val (.ref b703), .val (.ref b713), .unset, .unset] [(.int (0 : Int32)), (.ref b703), (.ref b691), (.ref b678)])) _
        refine XS.iload X755.here hx rfl (hb hby at_106) rfl ?_
        show Steps p.tables e below (T755.setTop (mkF m 108 #[.val (.int p0), .val (.int p1), .val (.long q2), .second, .val (.long q3), .second, .val (.int p4), .val (.int p5), .val (.int (1 : Int32)), .val (.int (0 : Int32)), .val (.ref b678), .val (.ref b691), .val (.ref b694), .val (.ref b703), .val (.ref b713), .unset, .unset] [(.int p4), (.int (0 : Int32)), (.ref b703), (.ref b691), (.ref b678)])) _
        refine st758.trans ?_
        show Steps p.tables e below (T758.setTop (mkF m 111 #[.val (.int p0), .val (.int p1), .val (.long q2), .second, .val (.long q3), .second, .val (.int p4), .val (.int p5), .val (.int (1 : Int32)), .val (.int (0 : Int32)), .val (.ref b678), .val (.ref b691), .val (.ref b694), .val (.ref b703), .val (.ref b713), .unset, .unset] [])) _
        refine XS.aload X758.here hx rfl (hb hby at_111) rfl rfl ?_
        show Steps p.tables e below (T758.setTop (mkF m 113 #[.val (.int p0), .val (.int p1), .val (.long q2), .second, .val (.long q3), .second, .val (.int p4), .val (.int p5), .val (.int (1 : Int32)), .val (.int (0 : Int32)), .val (.ref b678), .val (.ref b691), .val (.ref b694), .val (.ref b703), .val (.ref b713), .unset, .unset] [(.ref b678)])) _
        exact kt
      have f760 := (Nat.le_trans f756 oK758.1)
      have f761 := (f757.keep oK758)
      have f762 := ((((((((f722.keep ((Keep.refl _ []).ext E713)).keep (Keep.of_wr W725)).keep (Keep.of_wr W727)).keep (Keep.of_wr W729)).keep (Keep.of_wr W730)).keep oK745).keep oK755).keep oK758)
      have f763 := (oFaintArrays755.keep oK758 (ninS ne_b678_b691 nin0))
      have f764 := (oFalongArrays755.keep oK758 (ninS ne_b678_b691 nin0))
      have f765 := (oFaslotIndices755.keep oK758 (ninS ne_b678_b691 nin0))
      have f766 := (oFaoldValues755.keep oK758 (ninS ne_b678_b691 nin0))
      have f767 := (oFaentries755.keep oK758 (ninS ne_b678_b691 nin0))
      have f768 := (oFalevelStarts755.keep oK758 (ninS ne_b678_b691 nin0))
      have f769 := (oFaouterStamps755.keep oK758 (ninS ne_b678_b691 nin0))
      have f770 := (oFalevel755.keep oK758 (ninS ne_b678_b691 nin0))
      have f771 := (oFastamp755.keep oK758 (ninS ne_b678_b691 nin0))
      have f772 := (oFalastStamp755.keep oK758 (ninS ne_b678_b691 nin0))
      have f773 := (oAia755.keep oK758 (ninS ne_ia690_b691 nin0))
      have f774 := (oAla755.keep oK758 (ninS ne_la690_b691 nin0))
      have f775 := (oAsi755.keep oK758 (ninS ne_si690_b691 nin0))
      have f776 := (oAov755.keep oK758 (ninS ne_ov690_b691 nin0))
      have f777 := (((V730.keep oK745 (ninS (Ne.symm ne_b678_b694) (ninS (Ne.symm ne_ls690_b694) (ninS (Ne.symm ne_os690_b694) nin0)))).keep oK755 (ninS (Ne.symm ne_b678_b694) (ninS (Ne.symm ne_ia690_b694) (ninS (Ne.symm ne_la690_b694) (ninS (Ne.symm ne_si690_b694) (ninS (Ne.symm ne_ov690_b694) (ninS (Ne.symm ne_b691_b694) (ninS ne_b694_b703 nin0)))))))).keep oK758 (ninS (Ne.symm ne_b691_b694) nin0))
      have f778 := (((((((V713.keep (Keep.of_wr W725) (ninS (Ne.symm ne_b691_b713) nin0)).keep (Keep.of_wr W727) (ninS (Ne.symm ne_b691_b713) nin0)).keep (Keep.of_wr W729) (ninS (Ne.symm ne_b694_b713) nin0)).keep (Keep.of_wr W730) (ninS (Ne.symm ne_b694_b713) nin0)).keep oK745 (ninS (Ne.symm ne_b678_b713) (ninS (Ne.symm ne_ls690_b713) (ninS (Ne.symm ne_os690_b713) nin0)))).keep oK755 (ninS (Ne.symm ne_b678_b713) (ninS (Ne.symm ne_ia690_b713) (ninS (Ne.symm ne_la690_b713) (ninS (Ne.symm ne_si690_b713) (ninS (Ne.symm ne_ov690_b713) (ninS (Ne.symm ne_b691_b713) (ninS (Ne.symm ne_b703_b713) nin0)))))))).keep oK758 (ninS (Ne.symm ne_b691_b713) nin0))
      obtain ⟨cq779, kq779, q779a, q779b, q779c⟩ := isOf hZ rfl f761
      obtain ⟨_, _, ⟨T779, L779, kc779, nc779⟩, -, X779, ⟨Lc779, hQ779, l779, y779, z779⟩, st779⟩ := X758.virtualBack hx (y := (⟨"com/example/tablewise/tablewise/propagation/Trail", "set", "([J[JIJ)V"⟩ : MethodName)) (z := (⟨"com/example/tablewise/tablewise/propagation/Trail", "set", "([J[JIJ)V"⟩ : MethodName)) hown (mvT hZ (hw _ (List.mem_of_getElem? (i := 50) rfl))) (mvT hZ (hw _ (List.mem_of_getElem? (i := 51) rfl))) (notFace_of_selects (args := #[]) (mvT hZ (hw _ (List.mem_of_getElem? (i := 53) rfl)))) (mvT hZ (hw _ (List.mem_of_getElem? (i := 53) rfl))) (mvT hZ (hw _ (List.mem_of_getElem? (i := 52) rfl))) (by decide) (backOf (W := 0) (rmsetJr l Z a0 hw [] b678 b694 b713 (1 : Int32) q2 ia690 la690 si690 ov690 ls690 os690 ((0 : Int32) + (1 : Int32)) ((0 : Int32) + (1 : Int32)) ((0 : Int64) + (1 : Int64)) ((0 : Int64) + (1 : Int64)) 1 (own_upd (fun _ => .null) 0 (.ref b691)) (own_upd (fun _ => .null) 0 .null) (own_upd (fun _ => 0) 0 (0 : Int32)) (own_upd (fun _ => 0) 0 (((own_upd (own_upd (fun _ => 0) 0 p0) 1 p1) 0).toInt64)) 1 (own_upd (own_upd (fun _ => 0) 0 q2) 1 q3) (fun _ => 0) T758.heap n0 f760 f761 f762 f763 f764 f765 f766 f767 f768 f769 f770 f771 f772 f773 f774 f775 f776 f777 f778 ge_b678 gi_ia gi_la gi_si gi_ov ge_b694 ge_b713 ni_a_ia ni_a_la ni_a_si ni_a_ov ne_b678_b694 ne_b678_b713 ni_ia_la ni_ia_si ni_ia_ov ne_ia690_b694 ne_ia690_b713 ni_la_si ni_la_ov ne_la690_b694 ne_la690_b713 ni_si_ov ne_si690_b694 ne_si690_b713 ne_ov690_b694 ne_ov690_b713 ne_b694_b713 (by decide) (by decide) (by decide) (by decide) (by decide)) hZ (hw _ (List.mem_of_getElem? (i := 54) rfl)) (hw _ (List.mem_of_getElem? (i := 2) rfl)) (by decide) (by decide)) q779a q779c (g := (mkF m 119 #[.val (.int p0), .val (.int p1), .val (.long q2), .second, .val (.long q3), .second, .val (.int p4), .val (.int p5), .val (.int (1 : Int32)), .val (.int (0 : Int32)), .val (.ref b678), .val (.ref b691), .val (.ref b694), .val (.ref b703), .val (.ref b713), .unset, .unset] [(.long q2), (.int (1 : Int32)), (.ref b713), (.ref b694), (.ref b678)])) rfl (by rw [hml]; rfl) (Steps.refl _) (argsL := [(.ref b694), (.ref b713), (.int (1 : Int32)), (.long q2)]) (rest := []) (lenOf pd_3 rfl) rfl (by show 2 * 0 + _ ≤ _; exact Nat.le_of_eq rfl) (hb hby at_119) (fun _ _ => ⟨rfl, rfl, (by decide : 11 + 0 ≤ _), (by decide : 306 + 0 ≤ _)⟩)
      dsimp only [Pt.U, Pt.locs, Pt.cells, Pt.slots] at X779 l779 y779 z779 st779 hQ779
      rw [l779, y779, z779] at X779
      replace X779 : Stand p l e room_1 s m #[(.int p0), (.int p1), (.long q2), (.long q3), (.int p4), (.int p5)] below meth c T779 _ 11 306 := X779
      obtain ⟨rfl, Nq779, oK779, oFaintArrays779, oFalongArrays779, oFaslotIndices779, oFaoldValues779, oFalevelStarts779, oFaouterStamps779, oFalevel779, oFastamp779, oFalastStamp779, oFaentries779, oAia779, oAla779, oAsi779, oAov779, oAar779, oAmk779⟩ := hQ779
      have N779 := Fr.app N758 Nq779
      have f780 := (Nat.le_trans f760 oK779.1)
      have f781 := (f761.keep oK779)
      have f782 := (f762.keep oK779)
      obtain ⟨cq783, kq783, q783a, q783b, q783c⟩ := isOf hZ rfl f781
      obtain ⟨_, _, ⟨T783, L783, kc783, nc783⟩, -, X783, ⟨Lc783, hQ783, l783, y783, z783⟩, st783⟩ := X779.virtualBack hx (y := (⟨"com/example/tablewise/tablewise/propagation/Trail", "set", "([J[JIJ)V"⟩ : MethodName)) (z := (⟨"com/example/tablewise/tablewise/propagation/Trail", "set", "([J[JIJ)V"⟩ : MethodName)) hown (mvT hZ (hw _ (List.mem_of_getElem? (i := 50) rfl))) (mvT hZ (hw _ (List.mem_of_getElem? (i := 51) rfl))) (notFace_of_selects (args := #[]) (mvT hZ (hw _ (List.mem_of_getElem? (i := 53) rfl)))) (mvT hZ (hw _ (List.mem_of_getElem? (i := 53) rfl))) (mvT hZ (hw _ (List.mem_of_getElem? (i := 52) rfl))) (by decide) (backOf (W := 0) (rmsetJr l Z a0 hw [] b678 b694 b713 (0 : Int32) q3 ia690 la690 si690 ov690 ls690 os690 (((0 : Int32) + (1 : Int32)) + (1 : Int32)) ((0 : Int32) + (1 : Int32)) ((0 : Int64) + (1 : Int64)) ((0 : Int64) + (1 : Int64)) 2 (own_upd (own_upd (fun _ => .null) 0 (.ref b691)) 1 .null) (own_upd (own_upd (fun _ => .null) 0 .null) 1 (.ref b694)) (own_upd (own_upd (fun _ => 0) 0 (0 : Int32)) 1 (1 : Int32)) (own_upd (own_upd (fun _ => 0) 0 (((own_upd (own_upd (fun _ => 0) 0 p0) 1 p1) 0).toInt64)) 1 ((own_upd (own_upd (fun _ => 0) 0 q2) 1 q3) 1)) 0 (own_upd (own_upd (own_upd (fun _ => 0) 0 q2) 1 q3) 1 q2) (own_upd (fun _ => 0) 1 ((0 : Int64) + (1 : Int64))) T779.heap n0 f780 f781 f782 oFaintArrays779 oFalongArrays779 oFaslotIndices779 oFaoldValues779 oFaentries779 oFalevelStarts779 oFaouterStamps779 oFalevel779 oFastamp779 oFalastStamp779 oAia779 oAla779 oAsi779 oAov779 oAar779 oAmk779 ge_b678 gi_ia gi_la gi_si gi_ov ge_b694 ge_b713 ni_a_ia ni_a_la ni_a_si ni_a_ov ne_b678_b694 ne_b678_b713 ni_ia_la ni_ia_si ni_ia_ov ne_ia690_b694 ne_ia690_b713 ni_la_si ni_la_ov ne_la690_b694 ne_la690_b713 ni_si_ov ne_si690_b694 ne_si690_b713 ne_ov690_b694 ne_ov690_b713 ne_b694_b713 (by decide) (by decide) (by decide) (by decide) (by decide)) hZ (hw _ (List.mem_of_getElem? (i := 54) rfl)) (hw _ (List.mem_of_getElem? (i := 2) rfl)) (by decide) (by decide)) q783a q783c (g := (mkF m 237 #[.val (.int p0), .val (.int p1), .val (.long q2), .second, .val (.long q3), .second, .val (.int p4), .val (.int p5), .val (.int (1 : Int32)), .val (.int (0 : Int32)), .val (.ref b678), .val (.ref b691), .val (.ref b694), .val (.ref b703), .val (.ref b713), .val (.int (1 : Int32)), .unset] [(.long q3), (.int (0 : Int32)), (.ref b713), (.ref b694), (.ref b678)])) rfl (by rw [hml]; rfl) (Steps.refl _) (argsL := [(.ref b694), (.ref b713), (.int (0 : Int32)), (.long q3)]) (rest := []) (lenOf pd_3 rfl) rfl (by show 2 * 0 + _ ≤ _; exact Nat.le_of_eq rfl) (hb hby at_237) (fun _ _ => ⟨rfl, rfl, (by decide : 11 + 0 ≤ _), (by decide : 306 + 0 ≤ _)⟩)
      dsimp only [Pt.U, Pt.locs, Pt.cells, Pt.slots] at X783 l783 y783 z783 st783 hQ783
      rw [l783, y783, z783] at X783
      replace X783 : Stand p l e room_1 s m #[(.int p0), (.int p1), (.long q2), (.long q3), (.int p4), (.int p5)] below meth c T783 _ 11 306 := X783
      obtain ⟨rfl, Nq783, oK783, oFaintArrays783, oFalongArrays783, oFaslotIndices783, oFaoldValues783, oFalevelStarts783, oFaouterStamps783, oFalevel783, oFastamp783, oFalastStamp783, oFaentries783, oAia783, oAla783, oAsi783, oAov783, oAar783, oAmk783⟩ := hQ783
      have N783 := Fr.app N779 Nq783
      have f784 := (Nat.le_trans f780 oK783.1)
      have f785 := (f781.keep oK783)
      have f786 := ((((oAls745.keep oK755 (ninS (Ne.symm ni_a_ls) (ninS (Ne.symm ni_ia_ls) (ninS (Ne.symm ni_la_ls) (ninS (Ne.symm ni_si_ls) (ninS (Ne.symm ni_ov_ls) (ninS ne_ls690_b691 (ninS ne_ls690_b703 nin0)))))))).keep oK758 (ninS ne_ls690_b691 nin0)).keep oK779 (ninS (Ne.symm ni_a_ls) (ninS (Ne.symm ni_ia_ls) (ninS (Ne.symm ni_la_ls) (ninS (Ne.symm ni_si_ls) (ninS (Ne.symm ni_ov_ls) (ninS ne_ls690_b694 (ninS ne_ls690_b713 nin0)))))))).keep oK783 (ninS (Ne.symm ni_a_ls) (ninS (Ne.symm ni_ia_ls) (ninS (Ne.symm ni_la_ls) (ninS (Ne.symm ni_si_ls) (ninS (Ne.symm ni_ov_ls) (ninS ne_ls690_b694 (ninS ne_ls690_b713 nin0))))))))
      have f787 := ((((oAos745.keep oK755 (ninS (Ne.symm ni_a_os) (ninS (Ne.symm ni_ia_os) (ninS (Ne.symm ni_la_os) (ninS (Ne.symm ni_si_os) (ninS (Ne.symm ni_ov_os) (ninS ne_os690_b691 (ninS ne_os690_b703 nin0)))))))).keep oK758 (ninS ne_os690_b691 nin0)).keep oK779 (ninS (Ne.symm ni_a_os) (ninS (Ne.symm ni_ia_os) (ninS (Ne.symm ni_la_os) (ninS (Ne.symm ni_si_os) (ninS (Ne.symm ni_ov_os) (ninS ne_os690_b694 (ninS ne_os690_b713 nin0)))))))).keep oK783 (ninS (Ne.symm ni_a_os) (ninS (Ne.symm ni_ia_os) (ninS (Ne.symm ni_la_os) (ninS (Ne.symm ni_si_os) (ninS (Ne.symm ni_ov_os) (ninS ne_os690_b694 (ninS ne_os690_b713 nin0))))))))
      have f788 := ((oAar758.keep oK779 (ninS (Ne.symm ne_b678_b691) (ninS (Ne.symm ne_ia690_b691) (ninS (Ne.symm ne_la690_b691) (ninS (Ne.symm ne_si690_b691) (ninS (Ne.symm ne_ov690_b691) (ninS ne_b691_b694 (ninS ne_b691_b713 nin0)))))))).keep oK783 (ninS (Ne.symm ne_b678_b691) (ninS (Ne.symm ne_ia690_b691) (ninS (Ne.symm ne_la690_b691) (ninS (Ne.symm ne_si690_b691) (ninS (Ne.symm ne_ov690_b691) (ninS ne_b691_b694 (ninS ne_b691_b713 nin0))))))))
      obtain ⟨cq789, kq789, q789a, q789b, q789c⟩ := isOf hZ rfl f785
      obtain ⟨_, _, ⟨T789, L789, kc789, nc789⟩, -, X789, ⟨Lc789, hQ789, l789, y789, z789⟩, st789⟩ := X783.virtualBack hx (y := (⟨"com/example/tablewise/tablewise/propagation/Trail", "closeLevel", "()V"⟩ : MethodName)) (z := (⟨"com/example/tablewise/tablewise/propagation/Trail", "closeLevel", "()V"⟩ : MethodName)) hown (mvT hZ (hw _ (List.mem_of_getElem? (i := 56) rfl))) (mvT hZ (hw _ (List.mem_of_getElem? (i := 57) rfl))) (notFace_of_selects (args := #[]) (mvT hZ (hw _ (List.mem_of_getElem? (i := 59) rfl)))) (mvT hZ (hw _ (List.mem_of_getElem? (i := 59) rfl))) (mvT hZ (hw _ (List.mem_of_getElem? (i := 58) rfl))) (by decide) (backOf (W := 0) (rmclB l Z a0 hw [] b678 ia690 la690 si690 ov690 ls690 os690 ((((0 : Int32) + (1 : Int32)) + (1 : Int32)) + (1 : Int32)) ((0 : Int32) + (1 : Int32)) ((0 : Int64) + (1 : Int64)) ((0 : Int64) + (1 : Int64)) (own_upd (own_upd (own_upd (fun _ => .null) 0 (.ref b691)) 1 .null) 2 .null) (own_upd (own_upd (own_upd (fun _ => .null) 0 .null) 1 (.ref b694)) 2 (.ref b694)) (own_upd (own_upd (own_upd (fun _ => 0) 0 (0 : Int32)) 1 (1 : Int32)) 2 (0 : Int32)) (own_upd (own_upd (own_upd (fun _ => 0) 0 (((own_upd (own_upd (fun _ => 0) 0 p0) 1 p1) 0).toInt64)) 1 ((own_upd (own_upd (fun _ => 0) 0 q2) 1 q3) 1)) 2 ((own_upd (own_upd (own_upd (fun _ => 0) 0 q2) 1 q3) 1 q2) 0)) b691 b694 0 (own_upd (fun _ => 0) 0 (0 : Int32)) (own_upd (fun _ => 0) 0 (0 : Int64)) (own_upd (own_upd (own_upd (own_upd (fun _ => 0) 0 p0) 1 p1) 0 p1) 0 p4) (own_upd (own_upd (own_upd (own_upd (fun _ => 0) 0 q2) 1 q3) 1 q2) 0 q3) T783.heap n0 f784 f785 oFaintArrays783 oFalongArrays783 oFaslotIndices783 oFaoldValues783 oFaentries783 oFalevelStarts783 oFaouterStamps783 oFalevel783 oFastamp783 oFalastStamp783 oAia783 oAla783 oAsi783 oAov783 f786 f787 f788 oAar783 ge_b678 gi_ia gi_la ge_b691 ge_b694 ni_a_ia ni_a_la ni_a_si ni_a_ov ni_a_ls ni_a_os ne_b678_b691 ne_b678_b694 ni_ia_la ni_ia_si ni_ia_ov ni_ia_ls ni_ia_os ne_ia690_b691 ne_ia690_b694 ni_la_si ni_la_ov ni_la_ls ni_la_os ne_la690_b691 ne_la690_b694 ni_si_ov ni_si_ls ni_si_os ne_si690_b691 ne_si690_b694 ni_ov_ls ni_ov_os ne_ov690_b691 ne_ov690_b694 ni_ls_os ne_ls690_b691 ne_ls690_b694 ne_os690_b691 ne_os690_b694 ne_b691_b694 (by decide) (by decide) (by decide) (by decide) rfl rfl rfl rfl rfl rfl rfl rfl) hZ (hw _ (List.mem_of_getElem? (i := 60) rfl)) (hw _ (List.mem_of_getElem? (i := 2) rfl)) (by decide) (by decide)) q789a q789c (g := (mkF m 242 #[.val (.int p0), .val (.int p1), .val (.long q2), .second, .val (.long q3), .second, .val (.int p4), .val (.int p5), .val (.int (1 : Int32)), .val (.int (0 : Int32)), .val (.ref b678), .val (.ref b691), .val (.ref b694), .val (.ref b703), .val (.ref b713), .val (.int (1 : Int32)), .unset] [(.ref b678)])) rfl (by rw [hml]; rfl) (Steps.refl _) (argsL := []) (rest := []) (lenOf pd_0 rfl) rfl (by show 2 * 0 + _ ≤ _; exact Nat.le_of_eq rfl) (hb hby at_242) (fun _ _ => ⟨rfl, rfl, (by decide : 11 + 0 ≤ _), (by decide : 306 + 0 ≤ _)⟩)
      dsimp only [Pt.U, Pt.locs, Pt.cells, Pt.slots] at X789 l789 y789 z789 st789 hQ789
      rw [l789, y789, z789] at X789
      replace X789 : Stand p l e room_1 s m #[(.int p0), (.int p1), (.long q2), (.long q3), (.int p4), (.int p5)] below meth c T789 _ 11 306 := X789
      obtain ⟨rfl, Nq789, oK789, oFaintArrays789, oFalongArrays789, oFaslotIndices789, oFaoldValues789, oFalevelStarts789, oFaouterStamps789, oFalastStamp789, oFaentries789, oFalevel789, oFastamp789, oAia789, oAla789, oAxi789, oAxj789⟩ := hQ789
      have N789 := Fr.app N783 Nq789
      have hc255_790 : p0 = p0 := rfl
      have k791 : ∀ tg_, Steps p.tables e below (T789.setTop (mkF m 261 #[.val (.int p0), .val (.int p1), .val (.long q2), .second, .val (.long q3), .second, .val (.int p4), .val (.int p5), .val (.int (1 : Int32)), .val (.int (0 : Int32)), .val (.ref b678), .val (.ref b691), .val (.ref b694), .val (.ref b703), .val (.ref b713), .val (.int (1 : Int32)), .unset] [(.int (1 : Int32)), (.ref b691)])) tg_ → Steps p.tables e below (s₁.setTop (entryFrame m #[(.int p0), (.int p1), (.long q2), (.long q3), (.int p4), (.int p5)] maxLocals)) tg_ := by
        intro tg_ kt
        refine k759 tg_ ?_
        refine XS.aload X758.here hx rfl (hb hby at_113) rfl rfl ?_
        show Steps p.tables e below (T758.setTop (mkF m 115 #[.val (.int p0), .val (.int p1), .val (.long q2), .second, .val (.long q3), .second, .val (.int p4), .val (.int p5), .val (.int (1 : Int32)), .val (.int (0 : Int32)), .val (.ref b678), .val (.ref b691), .val (.ref b694), .val (.ref b703), .val (.ref b713), .unset, .unset] [(.ref b694), (.ref b678)])) _
        refine XS.aload X758.here hx rfl (hb hby at_115) rfl rfl ?_
        show Steps p.tables e below (T758.setTop (mkF m 117 #[.val (.int p0), .val (.int p1), .val (.long q2), .second, .val (.long q3), .second, .val (.int p4), .val (.int p5), .val (.int (1 : Int32)), .val (.int (0 : Int32)), .val (.ref b678), .val (.ref b691), .val (.ref b694), .val (.ref b703), .val (.ref b713), .unset, .unset] [(.ref b713), (.ref b694), (.ref b678)])) _
        refine XS.iconst X758.here hx rfl (hb hby at_117) ?_
        show Steps p.tables e below (T758.setTop (mkF m 118 #[.val (.int p0), .val (.int p1), .val (.long q2), .second, .val (.long q3), .second, .val (.int p4), .val (.int p5), .val (.int (1 : Int32)), .val (.int (0 : Int32)), .val (.ref b678), .val (.ref b691), .val (.ref b694), .val (.ref b703), .val (.ref b713), .unset, .unset] [(.int (1 : Int32)), (.ref b713), (.ref b694), (.ref b678)])) _
        refine XS.lloadN X758.here hx rfl (hb hby at_118) rfl ?_
        show Steps p.tables e below (T758.setTop (mkF m 119 #[.val (.int p0), .val (.int p1), .val (.long q2), .second, .val (.long q3), .second, .val (.int p4), .val (.int p5), .val (.int (1 : Int32)), .val (.int (0 : Int32)), .val (.ref b678), .val (.ref b691), .val (.ref b694), .val (.ref b703), .val (.ref b713), .unset, .unset] [(.long q2), (.int (1 : Int32)), (.ref b713), (.ref b694), (.ref b678)])) _
        refine st779.trans ?_
        show Steps p.tables e below (T779.setTop (mkF m 122 #[.val (.int p0), .val (.int p1), .val (.long q2), .second, .val (.long q3), .second, .val (.int p4), .val (.int p5), .val (.int (1 : Int32)), .val (.int (0 : Int32)), .val (.ref b678), .val (.ref b691), .val (.ref b694), .val (.ref b703), .val (.ref b713), .unset, .unset] [])) _
        refine XS.iconst X779.here hx rfl (hb hby at_122) ?_
        show Steps p.tables e below (T779.setTop (mkF m 123 #[.val (.int p0), .val (.int p1), .val (.long q2), .second, .val (.long q3), .second, .val (.int p4), .val (.int p5), .val (.int (1 : Int32)), .val (.int (0 : Int32)), .val (.ref b678), .val (.ref b691), .val (.ref b694), .val (.ref b703), .val (.ref b713), .unset, .unset] [(.int (1 : Int32))])) _
        refine XS.istore X779.here hx rfl (hb hby at_123) rfl (l' := #[.val (.int p0), .val (.int p1), .val (.long q2), .second, .val (.long q3), .second, .val (.int p4), .val (.int p5), .val (.int (1 : Int32)), .val (.int (0 : Int32)), .val (.ref b678), .val (.ref b691), .val (.ref b694), .val (.ref b703), .val (.ref b713), .val (.int (1 : Int32)), .unset]) rfl ?_
        show Steps p.tables e below (T779.setTop (mkF m 125 #[.val (.int p0), .val (.int p1), .val (.long q2), .second, .val (.long q3), .second, .val (.int p4), .val (.int p5), .val (.int (1 : Int32)), .val (.int (0 : Int32)), .val (.ref b678), .val (.ref b691), .val (.ref b694), .val (.ref b703), .val (.ref b713), .val (.int (1 : Int32)), .unset] [])) _
        refine XS.iload X779.here hx rfl (hb hby at_125) rfl ?_
        show Steps p.tables e below (T779.setTop (mkF m 127 #[.val (.int p0), .val (.int p1), .val (.long q2), .second, .val (.long q3), .second, .val (.int p4), .val (.int p5), .val (.int (1 : Int32)), .val (.int (0 : Int32)), .val (.ref b678), .val (.ref b691), .val (.ref b694), .val (.ref b703), .val (.ref b713), .val (.int (1 : Int32)), .unset] [(.int (0 : Int32))])) _
        refine XS.ifYes X779.here hx rfl (pc0 := 127) (pc' := 228) rfl (hb hby at_127) rfl ((if0 _ _).trans (teq (by decide : (0 : Int32) = (0 : Int32))).1) (by decide) (by decide) ?_
        show Steps p.tables e below (T779.setTop (mkF m 228 #[.val (.int p0), .val (.int p1), .val (.long q2), .second, .val (.long q3), .second, .val (.int p4), .val (.int p5), .val (.int (1 : Int32)), .val (.int (0 : Int32)), .val (.ref b678), .val (.ref b691), .val (.ref b694), .val (.ref b703), .val (.ref b713), .val (.int (1 : Int32)), .unset] [])) _
        refine XS.aload X779.here hx rfl (hb hby at_228) rfl rfl ?_
        show Steps p.tables e below (T779.setTop (mkF m 230 #[.val (.int p0), .val (.int p1), .val (.long q2), .second, .val (.long q3), .second, .val (.int p4), .val (.int p5), .val (.int (1 : Int32)), .val (.int (0 : Int32)), .val (.ref b678), .val (.ref b691), .val (.ref b694), .val (.ref b703), .val (.ref b713), .val (.int (1 : Int32)), .unset] [(.ref b678)])) _
        refine XS.aload X779.here hx rfl (hb hby at_230) rfl rfl ?_
        show Steps p.tables e below (T779.setTop (mkF m 232 #[.val (.int p0), .val (.int p1), .val (.long q2), .second, .val (.long q3), .second, .val (.int p4), .val (.int p5), .val (.int (1 : Int32)), .val (.int (0 : Int32)), .val (.ref b678), .val (.ref b691), .val (.ref b694), .val (.ref b703), .val (.ref b713), .val (.int (1 : Int32)), .unset] [(.ref b694), (.ref b678)])) _
        refine XS.aload X779.here hx rfl (hb hby at_232) rfl rfl ?_
        show Steps p.tables e below (T779.setTop (mkF m 234 #[.val (.int p0), .val (.int p1), .val (.long q2), .second, .val (.long q3), .second, .val (.int p4), .val (.int p5), .val (.int (1 : Int32)), .val (.int (0 : Int32)), .val (.ref b678), .val (.ref b691), .val (.ref b694), .val (.ref b703), .val (.ref b713), .val (.int (1 : Int32)), .unset] [(.ref b713), (.ref b694), (.ref b678)])) _
        refine XS.iconst X779.here hx rfl (hb hby at_234) ?_
        show Steps p.tables e below (T779.setTop (mkF m 235 #[.val (.int p0), .val (.int p1), .val (.long q2), .second, .val (.long q3), .second, .val (.int p4), .val (.int p5), .val (.int (1 : Int32)), .val (.int (0 : Int32)), .val (.ref b678), .val (.ref b691), .val (.ref b694), .val (.ref b703), .val (.ref b713), .val (.int (1 : Int32)), .unset] [(.int (0 : Int32)), (.ref b713), (.ref b694), (.ref b678)])) _
        refine XS.lload X779.here hx rfl (hb hby at_235) rfl ?_
        show Steps p.tables e below (T779.setTop (mkF m 237 #[.val (.int p0), .val (.int p1), .val (.long q2), .second, .val (.long q3), .second, .val (.int p4), .val (.int p5), .val (.int (1 : Int32)), .val (.int (0 : Int32)), .val (.ref b678), .val (.ref b691), .val (.ref b694), .val (.ref b703), .val (.ref b713), .val (.int (1 : Int32)), .unset] [(.long q3), (.int (0 : Int32)), (.ref b713), (.ref b694), (.ref b678)])) _
        refine st783.trans ?_
        show Steps p.tables e below (T783.setTop (mkF m 240 #[.val (.int p0), .val (.int p1), .val (.long q2), .second, .val (.long q3), .second, .val (.int p4), .val (.int p5), .val (.int (1 : Int32)), .val (.int (0 : Int32)), .val (.ref b678), .val (.ref b691), .val (.ref b694), .val (.ref b703), .val (.ref b713), .val (.int (1 : Int32)), .unset] [])) _
        refine XS.aload X783.here hx rfl (hb hby at_240) rfl rfl ?_
        show Steps p.tables e below (T783.setTop (mkF m 242 #[.val (.int p0), .val (.int p1), .val (.long q2), .second, .val (.long q3), .second, .val (.int p4), .val (.int p5), .val (.int (1 : Int32)), .val (.int (0 : Int32)), .val (.ref b678), .val (.ref b691), .val (.ref b694), .val (.ref b703), .val (.ref b713), .val (.int (1 : Int32)), .unset] [(.ref b678)])) _
        refine st789.trans ?_
        show Steps p.tables e below (T789.setTop (mkF m 245 #[.val (.int p0), .val (.int p1), .val (.long q2), .second, .val (.long q3), .second, .val (.int p4), .val (.int p5), .val (.int (1 : Int32)), .val (.int (0 : Int32)), .val (.ref b678), .val (.ref b691), .val (.ref b694), .val (.ref b703), .val (.ref b713), .val (.int (1 : Int32)), .unset] [])) _
        refine XS.iload X789.here hx rfl (hb hby at_245) rfl ?_
        show Steps p.tables e below (T789.setTop (mkF m 247 #[.val (.int p0), .val (.int p1), .val (.long q2), .second, .val (.long q3), .second, .val (.int p4), .val (.int p5), .val (.int (1 : Int32)), .val (.int (0 : Int32)), .val (.ref b678), .val (.ref b691), .val (.ref b694), .val (.ref b703), .val (.ref b713), .val (.int (1 : Int32)), .unset] [(.int (1 : Int32))])) _
        refine XS.ifNo X789.here hx rfl (hb hby at_247) rfl ((if0 _ _).trans (feq (by decide : ¬ ((1 : Int32) = (0 : Int32)))).1) ?_
        show Steps p.tables e below (T789.setTop (mkF m 250 #[.val (.int p0), .val (.int p1), .val (.long q2), .second, .val (.long q3), .second, .val (.int p4), .val (.int p5), .val (.int (1 : Int32)), .val (.int (0 : Int32)), .val (.ref b678), .val (.ref b691), .val (.ref b694), .val (.ref b703), .val (.ref b713), .val (.int (1 : Int32)), .unset] [])) _
        refine XS.aload X789.here hx rfl (hb hby at_250) rfl rfl ?_
        show Steps p.tables e below (T789.setTop (mkF m 252 #[.val (.int p0), .val (.int p1), .val (.long q2), .second, .val (.long q3), .second, .val (.int p4), .val (.int p5), .val (.int (1 : Int32)), .val (.int (0 : Int32)), .val (.ref b678), .val (.ref b691), .val (.ref b694), .val (.ref b703), .val (.ref b713), .val (.int (1 : Int32)), .unset] [(.ref b691)])) _
        refine XS.iconst X789.here hx rfl (hb hby at_252) ?_
        show Steps p.tables e below (T789.setTop (mkF m 253 #[.val (.int p0), .val (.int p1), .val (.long q2), .second, .val (.long q3), .second, .val (.int p4), .val (.int p5), .val (.int (1 : Int32)), .val (.int (0 : Int32)), .val (.ref b678), .val (.ref b691), .val (.ref b694), .val (.ref b703), .val (.ref b713), .val (.int (1 : Int32)), .unset] [(.int (0 : Int32)), (.ref b691)])) _
        refine own_ldI X789 hx hZ rfl oAxi789 (i := 0) (by decide : (0 : Int32).toInt = ((0 : Nat) : Int)) (by decide) (own_i2l p0) (g := (mkF m 253 #[.val (.int p0), .val (.int p1), .val (.long q2), .second, .val (.long q3), .second, .val (.int p4), .val (.int p5), .val (.int (1 : Int32)), .val (.int (0 : Int32)), .val (.ref b678), .val (.ref b691), .val (.ref b694), .val (.ref b703), .val (.ref b713), .val (.int (1 : Int32)), .unset] [(.int (0 : Int32)), (.ref b691)])) rfl rfl (hb hby at_253) _ ?_
        show Steps p.tables e below (T789.setTop (mkF m 254 #[.val (.int p0), .val (.int p1), .val (.long q2), .second, .val (.long q3), .second, .val (.int p4), .val (.int p5), .val (.int (1 : Int32)), .val (.int (0 : Int32)), .val (.ref b678), .val (.ref b691), .val (.ref b694), .val (.ref b703), .val (.ref b713), .val (.int (1 : Int32)), .unset] [(.int p0)])) _
        refine XS.iloadN X789.here hx rfl (hb hby at_254) rfl ?_
        show Steps p.tables e below (T789.setTop (mkF m 255 #[.val (.int p0), .val (.int p1), .val (.long q2), .second, .val (.long q3), .second, .val (.int p4), .val (.int p5), .val (.int (1 : Int32)), .val (.int (0 : Int32)), .val (.ref b678), .val (.ref b691), .val (.ref b694), .val (.ref b703), .val (.ref b713), .val (.int (1 : Int32)), .unset] [(.int p0), (.int p0)])) _
        refine XS.icmpNo X789.here hx rfl (hb hby at_255) rfl (teq hc255_790).2 ?_
        show Steps p.tables e below (T789.setTop (mkF m 258 #[.val (.int p0), .val (.int p1), .val (.long q2), .second, .val (.long q3), .second, .val (.int p4), .val (.int p5), .val (.int (1 : Int32)), .val (.int (0 : Int32)), .val (.ref b678), .val (.ref b691), .val (.ref b694), .val (.ref b703), .val (.ref b713), .val (.int (1 : Int32)), .unset] [])) _
        refine XS.aload X789.here hx rfl (hb hby at_258) rfl rfl ?_
        show Steps p.tables e below (T789.setTop (mkF m 260 #[.val (.int p0), .val (.int p1), .val (.long q2), .second, .val (.long q3), .second, .val (.int p4), .val (.int p5), .val (.int (1 : Int32)), .val (.int (0 : Int32)), .val (.ref b678), .val (.ref b691), .val (.ref b694), .val (.ref b703), .val (.ref b713), .val (.int (1 : Int32)), .unset] [(.ref b691)])) _
        refine XS.iconst X789.here hx rfl (hb hby at_260) ?_
        show Steps p.tables e below (T789.setTop (mkF m 261 #[.val (.int p0), .val (.int p1), .val (.long q2), .second, .val (.long q3), .second, .val (.int p4), .val (.int p5), .val (.int (1 : Int32)), .val (.int (0 : Int32)), .val (.ref b678), .val (.ref b691), .val (.ref b694), .val (.ref b703), .val (.ref b713), .val (.int (1 : Int32)), .unset] [(.int (1 : Int32)), (.ref b691)])) _
        exact kt
      have hc263_792 : p1 = p1 := rfl
      have hc272_793 : q2 = q2 := rfl
      have hc282_794 : q3 = q3 := rfl
      have f796 := (f785.keep oK789)
      obtain ⟨cq795, kq795, q795a, q795b, q795c⟩ := isOf hZ rfl f796
      obtain ⟨_, _, ⟨T795, L795, kc795, nc795⟩, -, X795, ⟨Lc795, hQ795, l795, y795, z795⟩, st795⟩ := X789.virtualBack hx (y := (⟨"com/example/tablewise/tablewise/propagation/Trail", "level", "()I"⟩ : MethodName)) (z := (⟨"com/example/tablewise/tablewise/propagation/Trail", "level", "()I"⟩ : MethodName)) hown (mvT hZ (hw _ (List.mem_of_getElem? (i := 61) rfl))) (mvT hZ (hw _ (List.mem_of_getElem? (i := 62) rfl))) (notFace_of_selects (args := #[]) (mvT hZ (hw _ (List.mem_of_getElem? (i := 64) rfl)))) (mvT hZ (hw _ (List.mem_of_getElem? (i := 64) rfl))) (mvT hZ (hw _ (List.mem_of_getElem? (i := 63) rfl))) (by decide) (backOf (W := 0) (rm8 l Z a0 hw [] b678 (((0 : Int32) + (1 : Int32)) - (1 : Int32)) T789.heap n0 oFalevel789) hZ (hw _ (List.mem_of_getElem? (i := 65) rfl)) (hw _ (List.mem_of_getElem? (i := 2) rfl)) (by decide) (by decide)) q795a q795c (g := (mkF m 287 #[.val (.int p0), .val (.int p1), .val (.long q2), .second, .val (.long q3), .second, .val (.int p4), .val (.int p5), .val (.int (1 : Int32)), .val (.int (0 : Int32)), .val (.ref b678), .val (.ref b691), .val (.ref b694), .val (.ref b703), .val (.ref b713), .val (.int (1 : Int32)), .unset] [(.ref b678)])) rfl (by rw [hml]; rfl) (Steps.refl _) (argsL := []) (rest := []) (lenOf pd_4 rfl) rfl (by show 2 * 0 + _ ≤ _; exact Nat.le_of_eq rfl) (hb hby at_287) (fun _ _ => ⟨rfl, rfl, (by decide : 11 + 0 ≤ _), (by decide : 306 + 0 ≤ _)⟩)
      dsimp only [Pt.U, Pt.locs, Pt.cells, Pt.slots] at X795 l795 y795 z795 st795 hQ795
      rw [l795, y795, z795] at X795
      replace X795 : Stand p l e room_1 s m #[(.int p0), (.int p1), (.long q2), (.long q3), (.int p4), (.int p5)] below meth c T795 _ 11 306 := X795
      obtain ⟨rfl, Nq795, eq795⟩ := hQ795
      have N795 := Fr.app N789 Nq795
      have hc290_797 : (((0 : Int32) + (1 : Int32)) - (1 : Int32)) = (0 : Int32) := (by decide)
      have k798 : ∀ tg_, Steps p.tables e below (T795.setTop (mkF m 298 #[.val (.int p0), .val (.int p1), .val (.long q2), .second, .val (.long q3), .second, .val (.int p4), .val (.int p5), .val (.int (1 : Int32)), .val (.int (0 : Int32)), .val (.ref b678), .val (.ref b691), .val (.ref b694), .val (.ref b703), .val (.ref b713), .val (.int (1 : Int32)), .unset] [(.int (1 : Int32))])) tg_ → Steps p.tables e below (s₁.setTop (entryFrame m #[(.int p0), (.int p1), (.long q2), (.long q3), (.int p4), (.int p5)] maxLocals)) tg_ := by
        intro tg_ kt
        refine k791 tg_ ?_
        refine own_ldI X789 hx hZ rfl oAxi789 (i := 1) (by decide : (1 : Int32).toInt = ((1 : Nat) : Int)) (by decide) rfl (g := (mkF m 261 #[.val (.int p0), .val (.int p1), .val (.long q2), .second, .val (.long q3), .second, .val (.int p4), .val (.int p5), .val (.int (1 : Int32)), .val (.int (0 : Int32)), .val (.ref b678), .val (.ref b691), .val (.ref b694), .val (.ref b703), .val (.ref b713), .val (.int (1 : Int32)), .unset] [(.int (1 : Int32)), (.ref b691)])) rfl rfl (hb hby at_261) _ ?_
        show Steps p.tables e below (T789.setTop (mkF m 262 #[.val (.int p0), .val (.int p1), .val (.long q2), .second, .val (.long q3), .second, .val (.int p4), .val (.int p5), .val (.int (1 : Int32)), .val (.int (0 : Int32)), .val (.ref b678), .val (.ref b691), .val (.ref b694), .val (.ref b703), .val (.ref b713), .val (.int (1 : Int32)), .unset] [(.int p1)])) _
        refine XS.iloadN X789.here hx rfl (hb hby at_262) rfl ?_
        show Steps p.tables e below (T789.setTop (mkF m 263 #[.val (.int p0), .val (.int p1), .val (.long q2), .second, .val (.long q3), .second, .val (.int p4), .val (.int p5), .val (.int (1 : Int32)), .val (.int (0 : Int32)), .val (.ref b678), .val (.ref b691), .val (.ref b694), .val (.ref b703), .val (.ref b713), .val (.int (1 : Int32)), .unset] [(.int p1), (.int p1)])) _
        refine XS.icmpNo X789.here hx rfl (hb hby at_263) rfl (teq hc263_792).2 ?_
        show Steps p.tables e below (T789.setTop (mkF m 266 #[.val (.int p0), .val (.int p1), .val (.long q2), .second, .val (.long q3), .second, .val (.int p4), .val (.int p5), .val (.int (1 : Int32)), .val (.int (0 : Int32)), .val (.ref b678), .val (.ref b691), .val (.ref b694), .val (.ref b703), .val (.ref b713), .val (.int (1 : Int32)), .unset] [])) _
        refine XS.aload X789.here hx rfl (hb hby at_266) rfl rfl ?_
        show Steps p.tables e below (T789.setTop (mkF m 268 #[.val (.int p0), .val (.int p1), .val (.long q2), .second, .val (.long q3), .second, .val (.int p4), .val (.int p5), .val (.int (1 : Int32)), .val (.int (0 : Int32)), .val (.ref b678), .val (.ref b691), .val (.ref b694), .val (.ref b703), .val (.ref b713), .val (.int (1 : Int32)), .unset] [(.ref b694)])) _
        refine XS.iconst X789.here hx rfl (hb hby at_268) ?_
        show Steps p.tables e below (T789.setTop (mkF m 269 #[.val (.int p0), .val (.int p1), .val (.long q2), .second, .val (.long q3), .second, .val (.int p4), .val (.int p5), .val (.int (1 : Int32)), .val (.int (0 : Int32)), .val (.ref b678), .val (.ref b691), .val (.ref b694), .val (.ref b703), .val (.ref b713), .val (.int (1 : Int32)), .unset] [(.int (0 : Int32)), (.ref b694)])) _
        refine own_ldJ X789 hx hZ rfl oAxj789 (i := 0) (by decide : (0 : Int32).toInt = ((0 : Nat) : Int)) (by decide) rfl (g := (mkF m 269 #[.val (.int p0), .val (.int p1), .val (.long q2), .second, .val (.long q3), .second, .val (.int p4), .val (.int p5), .val (.int (1 : Int32)), .val (.int (0 : Int32)), .val (.ref b678), .val (.ref b691), .val (.ref b694), .val (.ref b703), .val (.ref b713), .val (.int (1 : Int32)), .unset] [(.int (0 : Int32)), (.ref b694)])) rfl rfl (hb hby at_269) _ ?_
        show Steps p.tables e below (T789.setTop (mkF m 270 #[.val (.int p0), .val (.int p1), .val (.long q2), .second, .val (.long q3), .second, .val (.int p4), .val (.int p5), .val (.int (1 : Int32)), .val (.int (0 : Int32)), .val (.ref b678), .val (.ref b691), .val (.ref b694), .val (.ref b703), .val (.ref b713), .val (.int (1 : Int32)), .unset] [(.long q2)])) _
        refine XS.lloadN X789.here hx rfl (hb hby at_270) rfl ?_
        show Steps p.tables e below (T789.setTop (mkF m 271 #[.val (.int p0), .val (.int p1), .val (.long q2), .second, .val (.long q3), .second, .val (.int p4), .val (.int p5), .val (.int (1 : Int32)), .val (.int (0 : Int32)), .val (.ref b678), .val (.ref b691), .val (.ref b694), .val (.ref b703), .val (.ref b713), .val (.int (1 : Int32)), .unset] [(.long q2), (.long q2)])) _
        refine XS.lcmp X789.here hx rfl (hb hby at_271) rfl ?_
        show Steps p.tables e below (T789.setTop (mkF m 272 #[.val (.int p0), .val (.int p1), .val (.long q2), .second, .val (.long q3), .second, .val (.int p4), .val (.int p5), .val (.int (1 : Int32)), .val (.int (0 : Int32)), .val (.ref b678), .val (.ref b691), .val (.ref b694), .val (.ref b703), .val (.ref b713), .val (.int (1 : Int32)), .unset] [(.int (lcmpW q2 q2))])) _
        refine XS.ifNo X789.here hx rfl (hb hby at_272) rfl ((if0 _ _).trans (teq ((show ((lcmpW q2 q2) = 0) ↔ (q2 = q2) from lw_eq q2 q2).mpr hc272_793)).2) ?_
        show Steps p.tables e below (T789.setTop (mkF m 275 #[.val (.int p0), .val (.int p1), .val (.long q2), .second, .val (.long q3), .second, .val (.int p4), .val (.int p5), .val (.int (1 : Int32)), .val (.int (0 : Int32)), .val (.ref b678), .val (.ref b691), .val (.ref b694), .val (.ref b703), .val (.ref b713), .val (.int (1 : Int32)), .unset] [])) _
        refine XS.aload X789.here hx rfl (hb hby at_275) rfl rfl ?_
        show Steps p.tables e below (T789.setTop (mkF m 277 #[.val (.int p0), .val (.int p1), .val (.long q2), .second, .val (.long q3), .second, .val (.int p4), .val (.int p5), .val (.int (1 : Int32)), .val (.int (0 : Int32)), .val (.ref b678), .val (.ref b691), .val (.ref b694), .val (.ref b703), .val (.ref b713), .val (.int (1 : Int32)), .unset] [(.ref b694)])) _
        refine XS.iconst X789.here hx rfl (hb hby at_277) ?_
        show Steps p.tables e below (T789.setTop (mkF m 278 #[.val (.int p0), .val (.int p1), .val (.long q2), .second, .val (.long q3), .second, .val (.int p4), .val (.int p5), .val (.int (1 : Int32)), .val (.int (0 : Int32)), .val (.ref b678), .val (.ref b691), .val (.ref b694), .val (.ref b703), .val (.ref b713), .val (.int (1 : Int32)), .unset] [(.int (1 : Int32)), (.ref b694)])) _
        refine own_ldJ X789 hx hZ rfl oAxj789 (i := 1) (by decide : (1 : Int32).toInt = ((1 : Nat) : Int)) (by decide) rfl (g := (mkF m 278 #[.val (.int p0), .val (.int p1), .val (.long q2), .second, .val (.long q3), .second, .val (.int p4), .val (.int p5), .val (.int (1 : Int32)), .val (.int (0 : Int32)), .val (.ref b678), .val (.ref b691), .val (.ref b694), .val (.ref b703), .val (.ref b713), .val (.int (1 : Int32)), .unset] [(.int (1 : Int32)), (.ref b694)])) rfl rfl (hb hby at_278) _ ?_
        show Steps p.tables e below (T789.setTop (mkF m 279 #[.val (.int p0), .val (.int p1), .val (.long q2), .second, .val (.long q3), .second, .val (.int p4), .val (.int p5), .val (.int (1 : Int32)), .val (.int (0 : Int32)), .val (.ref b678), .val (.ref b691), .val (.ref b694), .val (.ref b703), .val (.ref b713), .val (.int (1 : Int32)), .unset] [(.long q3)])) _
        refine XS.lload X789.here hx rfl (hb hby at_279) rfl ?_
        show Steps p.tables e below (T789.setTop (mkF m 281 #[.val (.int p0), .val (.int p1), .val (.long q2), .second, .val (.long q3), .second, .val (.int p4), .val (.int p5), .val (.int (1 : Int32)), .val (.int (0 : Int32)), .val (.ref b678), .val (.ref b691), .val (.ref b694), .val (.ref b703), .val (.ref b713), .val (.int (1 : Int32)), .unset] [(.long q3), (.long q3)])) _
        refine XS.lcmp X789.here hx rfl (hb hby at_281) rfl ?_
        show Steps p.tables e below (T789.setTop (mkF m 282 #[.val (.int p0), .val (.int p1), .val (.long q2), .second, .val (.long q3), .second, .val (.int p4), .val (.int p5), .val (.int (1 : Int32)), .val (.int (0 : Int32)), .val (.ref b678), .val (.ref b691), .val (.ref b694), .val (.ref b703), .val (.ref b713), .val (.int (1 : Int32)), .unset] [(.int (lcmpW q3 q3))])) _
        refine XS.ifNo X789.here hx rfl (hb hby at_282) rfl ((if0 _ _).trans (teq ((show ((lcmpW q3 q3) = 0) ↔ (q3 = q3) from lw_eq q3 q3).mpr hc282_794)).2) ?_
        show Steps p.tables e below (T789.setTop (mkF m 285 #[.val (.int p0), .val (.int p1), .val (.long q2), .second, .val (.long q3), .second, .val (.int p4), .val (.int p5), .val (.int (1 : Int32)), .val (.int (0 : Int32)), .val (.ref b678), .val (.ref b691), .val (.ref b694), .val (.ref b703), .val (.ref b713), .val (.int (1 : Int32)), .unset] [])) _
        refine XS.aload X789.here hx rfl (hb hby at_285) rfl rfl ?_
        show Steps p.tables e below (T789.setTop (mkF m 287 #[.val (.int p0), .val (.int p1), .val (.long q2), .second, .val (.long q3), .second, .val (.int p4), .val (.int p5), .val (.int (1 : Int32)), .val (.int (0 : Int32)), .val (.ref b678), .val (.ref b691), .val (.ref b694), .val (.ref b703), .val (.ref b713), .val (.int (1 : Int32)), .unset] [(.ref b678)])) _
        refine st795.trans ?_
        show Steps p.tables e below (T795.setTop (mkF m 290 #[.val (.int p0), .val (.int p1), .val (.long q2), .second, .val (.long q3), .second, .val (.int p4), .val (.int p5), .val (.int (1 : Int32)), .val (.int (0 : Int32)), .val (.ref b678), .val (.ref b691), .val (.ref b694), .val (.ref b703), .val (.ref b713), .val (.int (1 : Int32)), .unset] [(.int (((0 : Int32) + (1 : Int32)) - (1 : Int32)))])) _
        refine XS.ifNo X795.here hx rfl (hb hby at_290) rfl ((if0 _ _).trans (teq hc290_797).2) ?_
        show Steps p.tables e below (T795.setTop (mkF m 293 #[.val (.int p0), .val (.int p1), .val (.long q2), .second, .val (.long q3), .second, .val (.int p4), .val (.int p5), .val (.int (1 : Int32)), .val (.int (0 : Int32)), .val (.ref b678), .val (.ref b691), .val (.ref b694), .val (.ref b703), .val (.ref b713), .val (.int (1 : Int32)), .unset] [])) _
        refine XS.iconst X795.here hx rfl (hb hby at_293) ?_
        show Steps p.tables e below (T795.setTop (mkF m 294 #[.val (.int p0), .val (.int p1), .val (.long q2), .second, .val (.long q3), .second, .val (.int p4), .val (.int p5), .val (.int (1 : Int32)), .val (.int (0 : Int32)), .val (.ref b678), .val (.ref b691), .val (.ref b694), .val (.ref b703), .val (.ref b713), .val (.int (1 : Int32)), .unset] [(.int (1 : Int32))])) _
        refine XS.goto X795.here hx rfl (pc0 := 294) (pc' := 298) rfl (hb hby at_294) (by decide) (by decide) ?_
        show Steps p.tables e below (T795.setTop (mkF m 298 #[.val (.int p0), .val (.int p1), .val (.long q2), .second, .val (.long q3), .second, .val (.int p4), .val (.int p5), .val (.int (1 : Int32)), .val (.int (0 : Int32)), .val (.ref b678), .val (.ref b691), .val (.ref b694), .val (.ref b703), .val (.ref b713), .val (.int (1 : Int32)), .unset] [(.int (1 : Int32))])) _
        exact kt
      obtain ⟨fs, hr, hrun, hended, hW, hsame⟩ := X795.leave (v := some (.int (1 : Int32))) (fun h => by rw [Bd.returns] at h; cases h) (hlocks := by first | exact BodyLoose.notSynchronized Bd | exact Body.notSynchronized Bd)
      refine ⟨_, _, k798 _ (retN X795 hx (t := .boolean) Bd.returns (by simp) (hb hby at_298) hr), hrun, hended, _, _, rfl, ?_, ⟨_, rfl⟩, hW, hsame.mono (by decide) (by decide)⟩
      show Q0 Z p0 p1 q2 q3 p4 p5 h0 n0 _ T795.heap _
      rw [eq795]
      exact ⟨rfl, N795⟩
    · obtain ⟨T799, h799, X799, e799, E799, A799, D799, -, st799⟩ := newO X0 hx hZ hown (hw _ (List.mem_of_getElem? (i := 0) rfl)) (hw _ (List.mem_of_getElem? (i := 1) rfl)) (hw _ (List.mem_of_getElem? (i := 2) rfl)) e0 (g := (mkF m 28 #[.val (.int p0), .val (.int p1), .val (.long q2), .second, .val (.long q3), .second, .val (.int p4), .val (.int p5), .val (.int (1 : Int32)), .val (.int (1 : Int32)), .unset, .unset, .unset, .unset, .unset, .unset, .unset] [])) rfl (hb hby at_28) (by decide) (by decide)
      obtain ⟨b799, g799⟩ : ∃ z, z = h0.size := ⟨_, rfl⟩
      rw [← g799] at A799 D799 st799
      have ge_b799 : n0 ≤ b799 := Nat.le_trans Z0 (Nat.le_of_eq g799.symm)
      have F800 : Fld Z h799 b799 "com/example/tablewise/tablewise/propagation/Trail" "intArrays" "[[I" .null := D799 (Or.inl (hw _ (List.mem_of_getElem? (i := 12) rfl))) (ty := (.array (.array .int))) (by decide)
      have F801 : Fld Z h799 b799 "com/example/tablewise/tablewise/propagation/Trail" "longArrays" "[[J" .null := D799 (Or.inl (hw _ (List.mem_of_getElem? (i := 16) rfl))) (ty := (.array (.array .long))) (by decide)
      have F802 : Fld Z h799 b799 "com/example/tablewise/tablewise/propagation/Trail" "slotIndices" "[I" .null := D799 (Or.inl (hw _ (List.mem_of_getElem? (i := 19) rfl))) (ty := (.array .int)) (by decide)
      have F803 : Fld Z h799 b799 "com/example/tablewise/tablewise/propagation/Trail" "oldValues" "[J" .null := D799 (Or.inl (hw _ (List.mem_of_getElem? (i := 22) rfl))) (ty := (.array .long)) (by decide)
      have F804 : Fld Z h799 b799 "com/example/tablewise/tablewise/propagation/Trail" "levelStarts" "[I" .null := D799 (Or.inl (hw _ (List.mem_of_getElem? (i := 24) rfl))) (ty := (.array .int)) (by decide)
      have F805 : Fld Z h799 b799 "com/example/tablewise/tablewise/propagation/Trail" "outerStamps" "[J" .null := D799 (Or.inl (hw _ (List.mem_of_getElem? (i := 26) rfl))) (ty := (.array .long)) (by decide)
      have F806 : Fld Z h799 b799 "com/example/tablewise/tablewise/propagation/Trail" "level" "I" (.int (0 : Int32)) := D799 (Or.inl (hw _ (List.mem_of_getElem? (i := 33) rfl))) (ty := .int) (by decide)
      have F807 : Fld Z h799 b799 "com/example/tablewise/tablewise/propagation/Trail" "entries" "I" (.int (0 : Int32)) := D799 (Or.inl (hw _ (List.mem_of_getElem? (i := 35) rfl))) (ty := .int) (by decide)
      have F808 : Fld Z h799 b799 "com/example/tablewise/tablewise/propagation/Trail" "stamp" "J" (.long (0 : Int64)) := D799 (Or.inl (hw _ (List.mem_of_getElem? (i := 37) rfl))) (ty := .long) (by decide)
      have F809 : Fld Z h799 b799 "com/example/tablewise/tablewise/propagation/Trail" "lastStamp" "J" (.long (0 : Int64)) := D799 (Or.inl (hw _ (List.mem_of_getElem? (i := 39) rfl))) (ty := .long) (by decide)
      have f810 := (Nat.le_trans Z0 ((Keep.refl _ []).ext E799).1)
      obtain ⟨_, _, ⟨T811, L811, kc811, nc811⟩, -, X811, ⟨Lc811, hQ811, l811, y811, z811⟩, st811⟩ := X799.specialBack hx (y := (⟨"com/example/tablewise/tablewise/propagation/Trail", "<init>", "()V"⟩ : MethodName)) rfl hown (mvT hZ (hw _ (List.mem_of_getElem? (i := 3) rfl))) (mvT hZ (hw _ (List.mem_of_getElem? (i := 4) rfl))) (mvT hZ (hw _ (List.mem_of_getElem? (i := 5) rfl))) (by decide) (backOf (W := 1) (rm1 l Z a0 hw [] b799 h799 n0 f810 A799 F800 F801 F802 F803 F807 F804 F805 F806 F808 F809 ge_b799) hZ (hw _ (List.mem_of_getElem? (i := 5) rfl)) (hw _ (List.mem_of_getElem? (i := 2) rfl)) (by decide) (by decide)) (g := (mkF m 32 #[.val (.int p0), .val (.int p1), .val (.long q2), .second, .val (.long q3), .second, .val (.int p4), .val (.int p5), .val (.int (1 : Int32)), .val (.int (1 : Int32)), .unset, .unset, .unset, .unset, .unset, .unset, .unset] [(.ref b799), (.ref b799)])) rfl (by rw [hml]; rfl) (Steps.refl _) (a := b799) (argsL := []) (rest := [(.ref b799)]) (lenOf pd_0 rfl) rfl (by show 2 * 0 + _ ≤ _; exact Nat.le_of_eq rfl) (hb hby at_32) (fun _ _ => ⟨rfl, e799, (by decide : 1 + 6 ≤ _), (by decide : 10 + 288 ≤ _)⟩)
      dsimp only [Pt.U, Pt.locs, Pt.cells, Pt.slots] at X811 l811 y811 z811 st811 hQ811
      rw [l811, y811, z811] at X811
      replace X811 : Stand p l e room_1 s m #[(.int p0), (.int p1), (.long q2), (.long q3), (.int p4), (.int p5)] below meth c T811 _ 7 298 := X811
      obtain ⟨rfl, Nq811, oK811, oFaentries811, oFalevel811, oFastamp811, oFalastStamp811, m0_811⟩ := hQ811
      have N811 := Fr.app N0 Nq811
      obtain ⟨ia811, la811, si811, ov811, ls811, os811, Fi_ia, Fi_la, Fi_si, Fi_ov, Fi_ls, Fi_os, Vi_ia, Vi_la, Vi_si, Vi_ov, Vi_ls, Vi_os, gi_ia, gi_la, gi_si, gi_ov, gi_ls, gi_os, ni_a_ia, ni_a_la, ni_a_si, ni_a_ov, ni_a_ls, ni_a_os, ni_ia_la, ni_ia_si, ni_ia_ov, ni_ia_ls, ni_ia_os, ni_la_si, ni_la_ov, ni_la_ls, ni_la_os, ni_si_ov, ni_si_ls, ni_si_os, ni_ov_ls, ni_ov_os, ni_ls_os⟩ := m0_811
      obtain ⟨T812, h812, kA812, X812, e812, E812, A812, Ex812, st812⟩ := newPE X811 hx hZ (hw _ (List.mem_of_getElem? (i := 17) rfl)) rfl (g := (mkF m 38 #[.val (.int p0), .val (.int p1), .val (.long q2), .second, .val (.long q3), .second, .val (.int p4), .val (.int p5), .val (.int (1 : Int32)), .val (.int (1 : Int32)), .val (.ref b799), .unset, .unset, .unset, .unset, .unset, .unset] [(.int (2 : Int32))])) rfl (hb hby at_38) rfl (by decide) (cap := 2) (by decide) (by decide) (by decide) (by decide) (ad := "[I") (by decide)
      obtain ⟨b812, g812⟩ : ∃ z, z = T811.heap.size := ⟨_, rfl⟩
      rw [← g812] at A812 st812 Ex812
      have f813 := (A799.keep oK811)
      have ne_b799_b812 : b799 ≠ b812 := Nat.ne_of_lt (Nat.lt_of_lt_of_le (f813).lt (Nat.le_of_eq g812.symm))
      have ne_ia811_b812 : ia811 ≠ b812 := Nat.ne_of_lt (Nat.lt_of_lt_of_le (Vi_ia).lt (Nat.le_of_eq g812.symm))
      have ne_la811_b812 : la811 ≠ b812 := Nat.ne_of_lt (Nat.lt_of_lt_of_le (Vi_la).lt (Nat.le_of_eq g812.symm))
      have ne_si811_b812 : si811 ≠ b812 := Nat.ne_of_lt (Nat.lt_of_lt_of_le (Vi_si).lt (Nat.le_of_eq g812.symm))
      have ne_ov811_b812 : ov811 ≠ b812 := Nat.ne_of_lt (Nat.lt_of_lt_of_le (Vi_ov).lt (Nat.le_of_eq g812.symm))
      have ne_ls811_b812 : ls811 ≠ b812 := Nat.ne_of_lt (Nat.lt_of_lt_of_le (Vi_ls).lt (Nat.le_of_eq g812.symm))
      have ne_os811_b812 : os811 ≠ b812 := Nat.ne_of_lt (Nat.lt_of_lt_of_le (Vi_os).lt (Nat.le_of_eq g812.symm))
      have f814 := (Nat.le_trans f810 oK811.1)
      have ge_b812 : n0 ≤ b812 := Nat.le_trans f814 (Nat.le_of_eq g812.symm)
      have V812 : own_AI Z h812 b812 .int 2 (fun _ => 0) := own_newI (by decide : (2 : Int32).toInt = ((2 : Nat) : Int)) A812 rfl
      obtain ⟨T815, h815, kA815, X815, e815, E815, A815, Ex815, st815⟩ := newPE X812 hx hZ (hw _ (List.mem_of_getElem? (i := 20) rfl)) e812 (g := (mkF m 43 #[.val (.int p0), .val (.int p1), .val (.long q2), .second, .val (.long q3), .second, .val (.int p4), .val (.int p5), .val (.int (1 : Int32)), .val (.int (1 : Int32)), .val (.ref b799), .val (.ref b812), .unset, .unset, .unset, .unset, .unset] [(.int (2 : Int32))])) rfl (hb hby at_43) rfl (by decide) (cap := 2) (by decide) (by decide) (by decide) (by decide) (ad := "[J") (by decide)
      obtain ⟨b815, g815⟩ : ∃ z, z = h812.size := ⟨_, rfl⟩
      rw [← g815] at A815 st815 Ex815
      have f816 := (f813.keep ((Keep.refl _ []).ext E812))
      have ne_b799_b815 : b799 ≠ b815 := Nat.ne_of_lt (Nat.lt_of_lt_of_le (f816).lt (Nat.le_of_eq g815.symm))
      have f817 := (Vi_ia.keep ((Keep.refl _ []).ext E812) nin0)
      have ne_ia811_b815 : ia811 ≠ b815 := Nat.ne_of_lt (Nat.lt_of_lt_of_le (f817).lt (Nat.le_of_eq g815.symm))
      have f818 := (Vi_la.keep ((Keep.refl _ []).ext E812) nin0)
      have ne_la811_b815 : la811 ≠ b815 := Nat.ne_of_lt (Nat.lt_of_lt_of_le (f818).lt (Nat.le_of_eq g815.symm))
      have f819 := (Vi_si.keep ((Keep.refl _ []).ext E812) nin0)
      have ne_si811_b815 : si811 ≠ b815 := Nat.ne_of_lt (Nat.lt_of_lt_of_le (f819).lt (Nat.le_of_eq g815.symm))
      have f820 := (Vi_ov.keep ((Keep.refl _ []).ext E812) nin0)
      have ne_ov811_b815 : ov811 ≠ b815 := Nat.ne_of_lt (Nat.lt_of_lt_of_le (f820).lt (Nat.le_of_eq g815.symm))
      have f821 := (Vi_ls.keep ((Keep.refl _ []).ext E812) nin0)
      have ne_ls811_b815 : ls811 ≠ b815 := Nat.ne_of_lt (Nat.lt_of_lt_of_le (f821).lt (Nat.le_of_eq g815.symm))
      have f822 := (Vi_os.keep ((Keep.refl _ []).ext E812) nin0)
      have ne_os811_b815 : os811 ≠ b815 := Nat.ne_of_lt (Nat.lt_of_lt_of_le (f822).lt (Nat.le_of_eq g815.symm))
      have ne_b812_b815 : b812 ≠ b815 := Nat.ne_of_lt (Nat.lt_of_lt_of_le (Ex812).lt (Nat.le_of_eq g815.symm))
      have f823 := (Nat.le_trans f814 ((Keep.refl _ []).ext E812).1)
      have ge_b815 : n0 ≤ b815 := Nat.le_trans f823 (Nat.le_of_eq g815.symm)
      have V815 : own_AL Z h815 b815 2 (fun _ => 0) := own_newL (by decide : (2 : Int32).toInt = ((2 : Nat) : Int)) A815
      obtain ⟨T824, h824, kA824, X824, e824, E824, A824, Ex824, st824⟩ := newPE X815 hx hZ (hw _ (List.mem_of_getElem? (i := 20) rfl)) e815 (g := (mkF m 48 #[.val (.int p0), .val (.int p1), .val (.long q2), .second, .val (.long q3), .second, .val (.int p4), .val (.int p5), .val (.int (1 : Int32)), .val (.int (1 : Int32)), .val (.ref b799), .val (.ref b812), .val (.ref b815), .unset, .unset, .unset, .unset] [(.int (2 : Int32))])) rfl (hb hby at_48) rfl (by decide) (cap := 2) (by decide) (by decide) (by decide) (by decide) (ad := "[J") (by decide)
      obtain ⟨b824, g824⟩ : ∃ z, z = h815.size := ⟨_, rfl⟩
      rw [← g824] at A824 st824 Ex824
      have f825 := (f816.keep ((Keep.refl _ []).ext E815))
      have ne_b799_b824 : b799 ≠ b824 := Nat.ne_of_lt (Nat.lt_of_lt_of_le (f825).lt (Nat.le_of_eq g824.symm))
      have f826 := (f817.keep ((Keep.refl _ []).ext E815) nin0)
      have ne_ia811_b824 : ia811 ≠ b824 := Nat.ne_of_lt (Nat.lt_of_lt_of_le (f826).lt (Nat.le_of_eq g824.symm))
      have f827 := (f818.keep ((Keep.refl _ []).ext E815) nin0)
      have ne_la811_b824 : la811 ≠ b824 := Nat.ne_of_lt (Nat.lt_of_lt_of_le (f827).lt (Nat.le_of_eq g824.symm))
      have f828 := (f819.keep ((Keep.refl _ []).ext E815) nin0)
      have ne_si811_b824 : si811 ≠ b824 := Nat.ne_of_lt (Nat.lt_of_lt_of_le (f828).lt (Nat.le_of_eq g824.symm))
      have f829 := (f820.keep ((Keep.refl _ []).ext E815) nin0)
      have ne_ov811_b824 : ov811 ≠ b824 := Nat.ne_of_lt (Nat.lt_of_lt_of_le (f829).lt (Nat.le_of_eq g824.symm))
      have f830 := (f821.keep ((Keep.refl _ []).ext E815) nin0)
      have ne_ls811_b824 : ls811 ≠ b824 := Nat.ne_of_lt (Nat.lt_of_lt_of_le (f830).lt (Nat.le_of_eq g824.symm))
      have f831 := (f822.keep ((Keep.refl _ []).ext E815) nin0)
      have ne_os811_b824 : os811 ≠ b824 := Nat.ne_of_lt (Nat.lt_of_lt_of_le (f831).lt (Nat.le_of_eq g824.symm))
      have f832 := (Ex812.keep ((Keep.refl _ []).ext E815))
      have ne_b812_b824 : b812 ≠ b824 := Nat.ne_of_lt (Nat.lt_of_lt_of_le (f832).lt (Nat.le_of_eq g824.symm))
      have ne_b815_b824 : b815 ≠ b824 := Nat.ne_of_lt (Nat.lt_of_lt_of_le (Ex815).lt (Nat.le_of_eq g824.symm))
      have f833 := (Nat.le_trans f823 ((Keep.refl _ []).ext E815).1)
      have ge_b824 : n0 ≤ b824 := Nat.le_trans f833 (Nat.le_of_eq g824.symm)
      have V824 : own_AL Z h824 b824 2 (fun _ => 0) := own_newL (by decide : (2 : Int32).toInt = ((2 : Nat) : Int)) A824
      obtain ⟨T834, h834, kA834, X834, e834, E834, A834, Ex834, st834⟩ := newPE X824 hx hZ (hw _ (List.mem_of_getElem? (i := 20) rfl)) e824 (g := (mkF m 53 #[.val (.int p0), .val (.int p1), .val (.long q2), .second, .val (.long q3), .second, .val (.int p4), .val (.int p5), .val (.int (1 : Int32)), .val (.int (1 : Int32)), .val (.ref b799), .val (.ref b812), .val (.ref b815), .val (.ref b824), .unset, .unset, .unset] [(.int (2 : Int32))])) rfl (hb hby at_53) rfl (by decide) (cap := 2) (by decide) (by decide) (by decide) (by decide) (ad := "[J") (by decide)
      obtain ⟨b834, g834⟩ : ∃ z, z = h824.size := ⟨_, rfl⟩
      rw [← g834] at A834 st834 Ex834
      have f835 := (f825.keep ((Keep.refl _ []).ext E824))
      have ne_b799_b834 : b799 ≠ b834 := Nat.ne_of_lt (Nat.lt_of_lt_of_le (f835).lt (Nat.le_of_eq g834.symm))
      have f836 := (f826.keep ((Keep.refl _ []).ext E824) nin0)
      have ne_ia811_b834 : ia811 ≠ b834 := Nat.ne_of_lt (Nat.lt_of_lt_of_le (f836).lt (Nat.le_of_eq g834.symm))
      have f837 := (f827.keep ((Keep.refl _ []).ext E824) nin0)
      have ne_la811_b834 : la811 ≠ b834 := Nat.ne_of_lt (Nat.lt_of_lt_of_le (f837).lt (Nat.le_of_eq g834.symm))
      have f838 := (f828.keep ((Keep.refl _ []).ext E824) nin0)
      have ne_si811_b834 : si811 ≠ b834 := Nat.ne_of_lt (Nat.lt_of_lt_of_le (f838).lt (Nat.le_of_eq g834.symm))
      have f839 := (f829.keep ((Keep.refl _ []).ext E824) nin0)
      have ne_ov811_b834 : ov811 ≠ b834 := Nat.ne_of_lt (Nat.lt_of_lt_of_le (f839).lt (Nat.le_of_eq g834.symm))
      have f840 := (f830.keep ((Keep.refl _ []).ext E824) nin0)
      have ne_ls811_b834 : ls811 ≠ b834 := Nat.ne_of_lt (Nat.lt_of_lt_of_le (f840).lt (Nat.le_of_eq g834.symm))
      have f841 := (f831.keep ((Keep.refl _ []).ext E824) nin0)
      have ne_os811_b834 : os811 ≠ b834 := Nat.ne_of_lt (Nat.lt_of_lt_of_le (f841).lt (Nat.le_of_eq g834.symm))
      have f842 := (f832.keep ((Keep.refl _ []).ext E824))
      have ne_b812_b834 : b812 ≠ b834 := Nat.ne_of_lt (Nat.lt_of_lt_of_le (f842).lt (Nat.le_of_eq g834.symm))
      have f843 := (Ex815.keep ((Keep.refl _ []).ext E824))
      have ne_b815_b834 : b815 ≠ b834 := Nat.ne_of_lt (Nat.lt_of_lt_of_le (f843).lt (Nat.le_of_eq g834.symm))
      have ne_b824_b834 : b824 ≠ b834 := Nat.ne_of_lt (Nat.lt_of_lt_of_le (Ex824).lt (Nat.le_of_eq g834.symm))
      have f844 := (Nat.le_trans f833 ((Keep.refl _ []).ext E824).1)
      have ge_b834 : n0 ≤ b834 := Nat.le_trans f844 (Nat.le_of_eq g834.symm)
      have V834 : own_AL Z h834 b834 2 (fun _ => 0) := own_newL (by decide : (2 : Int32).toInt = ((2 : Nat) : Int)) A834
      have f845 := (((V812.keep ((Keep.refl _ []).ext E815) nin0).keep ((Keep.refl _ []).ext E824) nin0).keep ((Keep.refl _ []).ext E834) nin0)
      obtain ⟨T846, h846, X846, e846, W846, V846, st846⟩ := own_stI X834 hx hZ e834 f845 (i := 0) (by decide : (0 : Int32).toInt = ((0 : Nat) : Int)) (by decide) (g := (mkF m 61 #[.val (.int p0), .val (.int p1), .val (.long q2), .second, .val (.long q3), .second, .val (.int p4), .val (.int p5), .val (.int (1 : Int32)), .val (.int (1 : Int32)), .val (.ref b799), .val (.ref b812), .val (.ref b815), .val (.ref b824), .val (.ref b834), .unset, .unset] [(.int p0), (.int (0 : Int32)), (.ref b812)])) rfl rfl (hb hby at_61)
      have N846 := Fr.snoc X846 N811 ge_b812
      have k847 : ∀ tg_, Steps p.tables e below (T846.setTop (mkF m 65 #[.val (.int p0), .val (.int p1), .val (.long q2), .second, .val (.long q3), .second, .val (.int p4), .val (.int p5), .val (.int (1 : Int32)), .val (.int (1 : Int32)), .val (.ref b799), .val (.ref b812), .val (.ref b815), .val (.ref b824), .val (.ref b834), .unset, .unset] [(.int (1 : Int32)), (.ref b812)])) tg_ → Steps p.tables e below (s₁.setTop (entryFrame m #[(.int p0), (.int p1), (.long q2), (.long q3), (.int p4), (.int p5)] maxLocals)) tg_ := by
        intro tg_ kt
        refine k676 tg_ ?_
        refine XS.ifNo X0.here hx rfl (hb hby at_18) rfl ((if0 _ _).trans (feq hc18_677).1) ?_
        show Steps p.tables e below (s₁.setTop (mkF m 21 #[.val (.int p0), .val (.int p1), .val (.long q2), .second, .val (.long q3), .second, .val (.int p4), .val (.int p5), .val (.int (1 : Int32)), .unset, .unset, .unset, .unset, .unset, .unset, .unset, .unset] [])) _
        refine XS.iconst X0.here hx rfl (hb hby at_21) ?_
        show Steps p.tables e below (s₁.setTop (mkF m 22 #[.val (.int p0), .val (.int p1), .val (.long q2), .second, .val (.long q3), .second, .val (.int p4), .val (.int p5), .val (.int (1 : Int32)), .unset, .unset, .unset, .unset, .unset, .unset, .unset, .unset] [(.int (1 : Int32))])) _
        refine XS.goto X0.here hx rfl (pc0 := 22) (pc' := 26) rfl (hb hby at_22) (by decide) (by decide) ?_
        show Steps p.tables e below (s₁.setTop (mkF m 26 #[.val (.int p0), .val (.int p1), .val (.long q2), .second, .val (.long q3), .second, .val (.int p4), .val (.int p5), .val (.int (1 : Int32)), .unset, .unset, .unset, .unset, .unset, .unset, .unset, .unset] [(.int (1 : Int32))])) _
        refine XS.istore X0.here hx rfl (hb hby at_26) rfl (l' := #[.val (.int p0), .val (.int p1), .val (.long q2), .second, .val (.long q3), .second, .val (.int p4), .val (.int p5), .val (.int (1 : Int32)), .val (.int (1 : Int32)), .unset, .unset, .unset, .unset, .unset, .unset, .unset]) rfl ?_
        show Steps p.tables e below (s₁.setTop (mkF m 28 #[.val (.int p0), .val (.int p1), .val (.long q2), .second, .val (.long q3), .second, .val (.int p4), .val (.int p5), .val (.int (1 : Int32)), .val (.int (1 : Int32)), .unset, .unset, .unset, .unset, .unset, .unset, .unset] [])) _
        refine st799 _ ?_
        show Steps p.tables e below (T799.setTop (mkF m 31 #[.val (.int p0), .val (.int p1), .val (.long q2), .second, .val (.long q3), .second, .val (.int p4), .val (.int p5), .val (.int (1 : Int32)), .val (.int (1 : Int32)), .unset, .unset, .unset, .unset, .unset, .unset, .unset] [(.ref b799)])) _
        refine XS.dup X799.here hx rfl (hb hby at_31) rfl rfl ?_
        show Steps p.tables e below (T799.setTop (mkF m 32 #[.val (.int p0), .val (.int p1), .val (.long q2), .second, .val (.long q3), .second, .val (.int p4), .val (.int p5), .val (.int (1 : Int32)), .val (.int (1 : Int32)), .unset, .unset, .unset, .unset, .unset, .unset, .unset] [(.ref b799), (.ref b799)])) _
        refine st811.trans ?_
        show Steps p.tables e below (T811.setTop (mkF m 35 #[.val (.int p0), .val (.int p1), .val (.long q2), .second, .val (.long q3), .second, .val (.int p4), .val (.int p5), .val (.int (1 : Int32)), .val (.int (1 : Int32)), .unset, .unset, .unset, .unset, .unset, .unset, .unset] [(.ref b799)])) _
        refine XS.astore X811.here hx rfl (hb hby at_35) rfl rfl (l' := #[.val (.int p0), .val (.int p1), .val (.long q2), .second, .val (.long q3), .second, .val (.int p4), .val (.int p5), .val (.int (1 : Int32)), .val (.int (1 : Int32)), .val (.ref b799), .unset, .unset, .unset, .unset, .unset, .unset]) rfl ?_
        show Steps p.tables e below (T811.setTop (mkF m 37 #[.val (.int p0), .val (.int p1), .val (.long q2), .second, .val (.long q3), .second, .val (.int p4), .val (.int p5), .val (.int (1 : Int32)), .val (.int (1 : Int32)), .val (.ref b799), .unset, .unset, .unset, .unset, .unset, .unset] [])) _
        refine XS.iconst X811.here hx rfl (hb hby at_37) ?_
        show Steps p.tables e below (T811.setTop (mkF m 38 #[.val (.int p0), .val (.int p1), .val (.long q2), .second, .val (.long q3), .second, .val (.int p4), .val (.int p5), .val (.int (1 : Int32)), .val (.int (1 : Int32)), .val (.ref b799), .unset, .unset, .unset, .unset, .unset, .unset] [(.int (2 : Int32))])) _
        refine st812 _ ?_
        show Steps p.tables e below (T812.setTop (mkF m 40 #[.val (.int p0), .val (.int p1), .val (.long q2), .second, .val (.long q3), .second, .val (.int p4), .val (.int p5), .val (.int (1 : Int32)), .val (.int (1 : Int32)), .val (.ref b799), .unset, .unset, .unset, .unset, .unset, .unset] [(.ref b812)])) _
        refine XS.astore X812.here hx rfl (hb hby at_40) rfl rfl (l' := #[.val (.int p0), .val (.int p1), .val (.long q2), .second, .val (.long q3), .second, .val (.int p4), .val (.int p5), .val (.int (1 : Int32)), .val (.int (1 : Int32)), .val (.ref b799), .val (.ref b812), .unset, .unset, .unset, .unset, .unset]) rfl ?_
        show Steps p.tables e below (T812.setTop (mkF m 42 #[.val (.int p0), .val (.int p1), .val (.long q2), .second, .val (.long q3), .second, .val (.int p4), .val (.int p5), .val (.int (1 : Int32)), .val (.int (1 : Int32)), .val (.ref b799), .val (.ref b812), .unset, .unset, .unset, .unset, .unset] [])) _
        refine XS.iconst X812.here hx rfl (hb hby at_42) ?_
        show Steps p.tables e below (T812.setTop (mkF m 43 #[.val (.int p0), .val (.int p1), .val (.long q2), .second, .val (.long q3), .second, .val (.int p4), .val (.int p5), .val (.int (1 : Int32)), .val (.int (1 : Int32)), .val (.ref b799), .val (.ref b812), .unset, .unset, .unset, .unset, .unset] [(.int (2 : Int32))])) _
        refine st815 _ ?_
        show Steps p.tables e below (T815.setTop (mkF m 45 #[.val (.int p0), .val (.int p1), .val (.long q2), .second, .val (.long q3), .second, .val (.int p4), .val (.int p5), .val (.int (1 : Int32)), .val (.int (1 : Int32)), .val (.ref b799), .val (.ref b812), .unset, .unset, .unset, .unset, .unset] [(.ref b815)])) _
        refine XS.astore X815.here hx rfl (hb hby at_45) rfl rfl (l' := #[.val (.int p0), .val (.int p1), .val (.long q2), .second, .val (.long q3), .second, .val (.int p4), .val (.int p5), .val (.int (1 : Int32)), .val (.int (1 : Int32)), .val (.ref b799), .val (.ref b812), .val (.ref b815), .unset, .unset, .unset, .unset]) rfl ?_
        show Steps p.tables e below (T815.setTop (mkF m 47 #[.val (.int p0), .val (.int p1), .val (.long q2), .second, .val (.long q3), .second, .val (.int p4), .val (.int p5), .val (.int (1 : Int32)), .val (.int (1 : Int32)), .val (.ref b799), .val (.ref b812), .val (.ref b815), .unset, .unset, .unset, .unset] [])) _
        refine XS.iconst X815.here hx rfl (hb hby at_47) ?_
        show Steps p.tables e below (T815.setTop (mkF m 48 #[.val (.int p0), .val (.int p1), .val (.long q2), .second, .val (.long q3), .second, .val (.int p4), .val (.int p5), .val (.int (1 : Int32)), .val (.int (1 : Int32)), .val (.ref b799), .val (.ref b812), .val (.ref b815), .unset, .unset, .unset, .unset] [(.int (2 : Int32))])) _
        refine st824 _ ?_
        show Steps p.tables e below (T824.setTop (mkF m 50 #[.val (.int p0), .val (.int p1), .val (.long q2), .second, .val (.long q3), .second, .val (.int p4), .val (.int p5), .val (.int (1 : Int32)), .val (.int (1 : Int32)), .val (.ref b799), .val (.ref b812), .val (.ref b815), .unset, .unset, .unset, .unset] [(.ref b824)])) _
        refine XS.astore X824.here hx rfl (hb hby at_50) rfl rfl (l' := #[.val (.int p0), .val (.int p1), .val (.long q2), .second, .val (.long q3), .second, .val (.int p4), .val (.int p5), .val (.int (1 : Int32)), .val (.int (1 : Int32)), .val (.ref b799), .val (.ref b812), .val (.ref b815), .val (.ref b824), .unset, .unset, .unset]) rfl ?_
        show Steps p.tables e below (T824.setTop (mkF m 52 #[.val (.int p0), .val (.int p1), .val (.long q2), .second, .val (.long q3), .second, .val (.int p4), .val (.int p5), .val (.int (1 : Int32)), .val (.int (1 : Int32)), .val (.ref b799), .val (.ref b812), .val (.ref b815), .val (.ref b824), .unset, .unset, .unset] [])) _
        refine XS.iconst X824.here hx rfl (hb hby at_52) ?_
        show Steps p.tables e below (T824.setTop (mkF m 53 #[.val (.int p0), .val (.int p1), .val (.long q2), .second, .val (.long q3), .second, .val (.int p4), .val (.int p5), .val (.int (1 : Int32)), .val (.int (1 : Int32)), .val (.ref b799), .val (.ref b812), .val (.ref b815), .val (.ref b824), .unset, .unset, .unset] [(.int (2 : Int32))])) _
        refine st834 _ ?_
        show Steps p.tables e below (T834.setTop (mkF m 55 #[.val (.int p0), .val (.int p1), .val (.long q2), .second, .val (.long q3), .second, .val (.int p4), .val (.int p5), .val (.int (1 : Int32)), .val (.int (1 : Int32)), .val (.ref b799), .val (.ref b812), .val (.ref b815), .val (.ref b824), .unset, .unset, .unset] [(.ref b834)])) _
        refine XS.astore X834.here hx rfl (hb hby at_55) rfl rfl (l' := #[.val (.int p0), .val (.int p1), .val (.long q2), .second, .val (.long q3), .second, .val (.int p4), .val (.int p5), .val (.int (1 : Int32)), .val (.int (1 : Int32)), .val (.ref b799), .val (.ref b812), .val (.ref b815), .val (.ref b824), .val (.ref b834), .unset, .unset]) rfl ?_
        show Steps p.tables e below (T834.setTop (mkF m 57 #[.val (.int p0), .val (.int p1), .val (.long q2), .second, .val (.long q3), .second, .val (.int p4), .val (.int p5), .val (.int (1 : Int32)), .val (.int (1 : Int32)), .val (.ref b799), .val (.ref b812), .val (.ref b815), .val (.ref b824), .val (.ref b834), .unset, .unset] [])) _
        refine XS.aload X834.here hx rfl (hb hby at_57) rfl rfl ?_
        show Steps p.tables e below (T834.setTop (mkF m 59 #[.val (.int p0), .val (.int p1), .val (.long q2), .second, .val (.long q3), .second, .val (.int p4), .val (.int p5), .val (.int (1 : Int32)), .val (.int (1 : Int32)), .val (.ref b799), .val (.ref b812), .val (.ref b815), .val (.ref b824), .val (.ref b834), .unset, .unset] [(.ref b812)])) _
        refine XS.iconst X834.here hx rfl (hb hby at_59) ?_
        show Steps p.tables e below (T834.setTop (mkF m 60 #[.val (.int p0), .val (.int p1), .val (.long q2), .second, .val (.long q3), .second, .val (.int p4), .val (.int p5), .val (.int (1 : Int32)), .val (.int (1 : Int32)), .val (.ref b799), .val (.ref b812), .val (.ref b815), .val (.ref b824), .val (.ref b834), .unset, .unset] [(.int (0 : Int32)), (.ref b812)])) _
        refine XS.iloadN X834.here hx rfl (hb hby at_60) rfl ?_
        show Steps p.tables e below (T834.setTop (mkF m 61 #[.val (.int p0), .val (.int p1), .val (.long q2), .second, .val (.long q3), .second, .val (.int p4), .val (.int p5), .val (.int (1 : Int32)), .val (.int (1 : Int32)), .val (.ref b799), .val (.ref b812), .val (.ref b815), .val (.ref b824), .val (.ref b834), .unset, .unset] [(.int p0), (.int (0 : Int32)), (.ref b812)])) _
        refine st846 _ ?_
        show Steps p.tables e below (T846.setTop (mkF m 62 #[.val (.int p0), .val (.int p1), .val (.long q2), .second, .val (.long q3), .second, .val (.int p4), .val (.int p5), .val (.int (1 : Int32)), .val (.int (1 : Int32)), .val (.ref b799), .val (.ref b812), .val (.ref b815), .val (.ref b824), .val (.ref b834), .unset, .unset] [])) _
        refine XS.aload X846.here hx rfl (hb hby at_62) rfl rfl ?_
        show Steps p.tables e below (T846.setTop (mkF m 64 #[.val (.int p0), .val (.int p1), .val (.long q2), .second, .val (.long q3), .second, .val (.int p4), .val (.int p5), .val (.int (1 : Int32)), .val (.int (1 : Int32)), .val (.ref b799), .val (.ref b812), .val (.ref b815), .val (.ref b824), .val (.ref b834), .unset, .unset] [(.ref b812)])) _
        refine XS.iconst X846.here hx rfl (hb hby at_64) ?_
        show Steps p.tables e below (T846.setTop (mkF m 65 #[.val (.int p0), .val (.int p1), .val (.long q2), .second, .val (.long q3), .second, .val (.int p4), .val (.int p5), .val (.int (1 : Int32)), .val (.int (1 : Int32)), .val (.ref b799), .val (.ref b812), .val (.ref b815), .val (.ref b824), .val (.ref b834), .unset, .unset] [(.int (1 : Int32)), (.ref b812)])) _
        exact kt
      obtain ⟨T848, h848, X848, e848, W848, V848, st848⟩ := own_stI X846 hx hZ e846 V846 (i := 1) (by decide : (1 : Int32).toInt = ((1 : Nat) : Int)) (by decide) (g := (mkF m 66 #[.val (.int p0), .val (.int p1), .val (.long q2), .second, .val (.long q3), .second, .val (.int p4), .val (.int p5), .val (.int (1 : Int32)), .val (.int (1 : Int32)), .val (.ref b799), .val (.ref b812), .val (.ref b815), .val (.ref b824), .val (.ref b834), .unset, .unset] [(.int p1), (.int (1 : Int32)), (.ref b812)])) rfl rfl (hb hby at_66)
      have N848 := Fr.snoc X848 N846 ge_b812
      have f849 := ((((V815.keep ((Keep.refl _ []).ext E824) nin0).keep ((Keep.refl _ []).ext E834) nin0).keep (Keep.of_wr W846) (ninS (Ne.symm ne_b812_b815) nin0)).keep (Keep.of_wr W848) (ninS (Ne.symm ne_b812_b815) nin0))
      obtain ⟨T850, h850, X850, e850, W850, V850, st850⟩ := own_stJ X848 hx hZ e848 f849 (i := 0) (by decide : (0 : Int32).toInt = ((0 : Nat) : Int)) (by decide) (g := (mkF m 71 #[.val (.int p0), .val (.int p1), .val (.long q2), .second, .val (.long q3), .second, .val (.int p4), .val (.int p5), .val (.int (1 : Int32)), .val (.int (1 : Int32)), .val (.ref b799), .val (.ref b812), .val (.ref b815), .val (.ref b824), .val (.ref b834), .unset, .unset] [(.long q2), (.int (0 : Int32)), (.ref b815)])) rfl rfl (hb hby at_71)
      have N850 := Fr.snoc X850 N848 ge_b815
      obtain ⟨T851, h851, X851, e851, W851, V851, st851⟩ := own_stJ X850 hx hZ e850 V850 (i := 1) (by decide : (1 : Int32).toInt = ((1 : Nat) : Int)) (by decide) (g := (mkF m 77 #[.val (.int p0), .val (.int p1), .val (.long q2), .second, .val (.long q3), .second, .val (.int p4), .val (.int p5), .val (.int (1 : Int32)), .val (.int (1 : Int32)), .val (.ref b799), .val (.ref b812), .val (.ref b815), .val (.ref b824), .val (.ref b834), .unset, .unset] [(.long q3), (.int (1 : Int32)), (.ref b815)])) rfl rfl (hb hby at_77)
      have N851 := Fr.snoc X851 N850 ge_b815
      have f852 := (Nat.le_trans (Nat.le_trans (Nat.le_trans (Nat.le_trans (Nat.le_trans f844 ((Keep.refl _ []).ext E834).1) (Keep.of_wr W846).1) (Keep.of_wr W848).1) (Keep.of_wr W850).1) (Keep.of_wr W851).1)
      have f853 := (((((f835.keep ((Keep.refl _ []).ext E834)).keep (Keep.of_wr W846)).keep (Keep.of_wr W848)).keep (Keep.of_wr W850)).keep (Keep.of_wr W851))
      have f854 := ((((((((Fi_ia.keep ((Keep.refl _ []).ext E812) nin0).keep ((Keep.refl _ []).ext E815) nin0).keep ((Keep.refl _ []).ext E824) nin0).keep ((Keep.refl _ []).ext E834) nin0).keep (Keep.of_wr W846) (ninS ne_b799_b812 nin0)).keep (Keep.of_wr W848) (ninS ne_b799_b812 nin0)).keep (Keep.of_wr W850) (ninS ne_b799_b815 nin0)).keep (Keep.of_wr W851) (ninS ne_b799_b815 nin0))
      have f855 := ((((((((Fi_la.keep ((Keep.refl _ []).ext E812) nin0).keep ((Keep.refl _ []).ext E815) nin0).keep ((Keep.refl _ []).ext E824) nin0).keep ((Keep.refl _ []).ext E834) nin0).keep (Keep.of_wr W846) (ninS ne_b799_b812 nin0)).keep (Keep.of_wr W848) (ninS ne_b799_b812 nin0)).keep (Keep.of_wr W850) (ninS ne_b799_b815 nin0)).keep (Keep.of_wr W851) (ninS ne_b799_b815 nin0))
      have f856 := ((((((((Fi_si.keep ((Keep.refl _ []).ext E812) nin0).keep ((Keep.refl _ []).ext E815) nin0).keep ((Keep.refl _ []).ext E824) nin0).keep ((Keep.refl _ []).ext E834) nin0).keep (Keep.of_wr W846) (ninS ne_b799_b812 nin0)).keep (Keep.of_wr W848) (ninS ne_b799_b812 nin0)).keep (Keep.of_wr W850) (ninS ne_b799_b815 nin0)).keep (Keep.of_wr W851) (ninS ne_b799_b815 nin0))
      have f857 := ((((((((Fi_ov.keep ((Keep.refl _ []).ext E812) nin0).keep ((Keep.refl _ []).ext E815) nin0).keep ((Keep.refl _ []).ext E824) nin0).keep ((Keep.refl _ []).ext E834) nin0).keep (Keep.of_wr W846) (ninS ne_b799_b812 nin0)).keep (Keep.of_wr W848) (ninS ne_b799_b812 nin0)).keep (Keep.of_wr W850) (ninS ne_b799_b815 nin0)).keep (Keep.of_wr W851) (ninS ne_b799_b815 nin0))
      have f858 := ((((((((oFaentries811.keep ((Keep.refl _ []).ext E812) nin0).keep ((Keep.refl _ []).ext E815) nin0).keep ((Keep.refl _ []).ext E824) nin0).keep ((Keep.refl _ []).ext E834) nin0).keep (Keep.of_wr W846) (ninS ne_b799_b812 nin0)).keep (Keep.of_wr W848) (ninS ne_b799_b812 nin0)).keep (Keep.of_wr W850) (ninS ne_b799_b815 nin0)).keep (Keep.of_wr W851) (ninS ne_b799_b815 nin0))
      have f859 := ((((((((Fi_ls.keep ((Keep.refl _ []).ext E812) nin0).keep ((Keep.refl _ []).ext E815) nin0).keep ((Keep.refl _ []).ext E824) nin0).keep ((Keep.refl _ []).ext E834) nin0).keep (Keep.of_wr W846) (ninS ne_b799_b812 nin0)).keep (Keep.of_wr W848) (ninS ne_b799_b812 nin0)).keep (Keep.of_wr W850) (ninS ne_b799_b815 nin0)).keep (Keep.of_wr W851) (ninS ne_b799_b815 nin0))
      have f860 := ((((((((Fi_os.keep ((Keep.refl _ []).ext E812) nin0).keep ((Keep.refl _ []).ext E815) nin0).keep ((Keep.refl _ []).ext E824) nin0).keep ((Keep.refl _ []).ext E834) nin0).keep (Keep.of_wr W846) (ninS ne_b799_b812 nin0)).keep (Keep.of_wr W848) (ninS ne_b799_b812 nin0)).keep (Keep.of_wr W850) (ninS ne_b799_b815 nin0)).keep (Keep.of_wr W851) (ninS ne_b799_b815 nin0))
      have f861 := ((((((((oFalevel811.keep ((Keep.refl _ []).ext E812) nin0).keep ((Keep.refl _ []).ext E815) nin0).keep ((Keep.refl _ []).ext E824) nin0).keep ((Keep.refl _ []).ext E834) nin0).keep (Keep.of_wr W846) (ninS ne_b799_b812 nin0)).keep (Keep.of_wr W848) (ninS ne_b799_b812 nin0)).keep (Keep.of_wr W850) (ninS ne_b799_b815 nin0)).keep (Keep.of_wr W851) (ninS ne_b799_b815 nin0))
      have f862 := ((((((((oFastamp811.keep ((Keep.refl _ []).ext E812) nin0).keep ((Keep.refl _ []).ext E815) nin0).keep ((Keep.refl _ []).ext E824) nin0).keep ((Keep.refl _ []).ext E834) nin0).keep (Keep.of_wr W846) (ninS ne_b799_b812 nin0)).keep (Keep.of_wr W848) (ninS ne_b799_b812 nin0)).keep (Keep.of_wr W850) (ninS ne_b799_b815 nin0)).keep (Keep.of_wr W851) (ninS ne_b799_b815 nin0))
      have f863 := ((((((((oFalastStamp811.keep ((Keep.refl _ []).ext E812) nin0).keep ((Keep.refl _ []).ext E815) nin0).keep ((Keep.refl _ []).ext E824) nin0).keep ((Keep.refl _ []).ext E834) nin0).keep (Keep.of_wr W846) (ninS ne_b799_b812 nin0)).keep (Keep.of_wr W848) (ninS ne_b799_b812 nin0)).keep (Keep.of_wr W850) (ninS ne_b799_b815 nin0)).keep (Keep.of_wr W851) (ninS ne_b799_b815 nin0))
      have f864 := (((((f840.keep ((Keep.refl _ []).ext E834) nin0).keep (Keep.of_wr W846) (ninS ne_ls811_b812 nin0)).keep (Keep.of_wr W848) (ninS ne_ls811_b812 nin0)).keep (Keep.of_wr W850) (ninS ne_ls811_b815 nin0)).keep (Keep.of_wr W851) (ninS ne_ls811_b815 nin0))
      have f865 := (((((f841.keep ((Keep.refl _ []).ext E834) nin0).keep (Keep.of_wr W846) (ninS ne_os811_b812 nin0)).keep (Keep.of_wr W848) (ninS ne_os811_b812 nin0)).keep (Keep.of_wr W850) (ninS ne_os811_b815 nin0)).keep (Keep.of_wr W851) (ninS ne_os811_b815 nin0))
      obtain ⟨cq866, kq866, q866a, q866b, q866c⟩ := isOf hZ e851 f853
      obtain ⟨_, _, ⟨T866, L866, kc866, nc866⟩, -, X866, ⟨Lc866, hQ866, l866, y866, z866⟩, st866⟩ := X851.virtualBack hx (y := (⟨"com/example/tablewise/tablewise/propagation/Trail", "openLevel", "()V"⟩ : MethodName)) (z := (⟨"com/example/tablewise/tablewise/propagation/Trail", "openLevel", "()V"⟩ : MethodName)) hown (mvT hZ (hw _ (List.mem_of_getElem? (i := 27) rfl))) (mvT hZ (hw _ (List.mem_of_getElem? (i := 28) rfl))) (notFace_of_selects (args := #[]) (mvT hZ (hw _ (List.mem_of_getElem? (i := 30) rfl)))) (mvT hZ (hw _ (List.mem_of_getElem? (i := 30) rfl))) (mvT hZ (hw _ (List.mem_of_getElem? (i := 29) rfl))) (by decide) (backOf (W := 0) (rm3 l Z a0 hw [] b799 ia811 la811 si811 ov811 ls811 os811 (0 : Int32) (0 : Int32) (0 : Int64) (0 : Int64) 0 (fun _ => 0) (fun _ => 0) h851 n0 f852 f853 f854 f855 f856 f857 f858 f859 f860 f861 f862 f863 f864 f865 ge_b799 gi_ls gi_os ni_a_ls ni_a_os ni_ls_os (by decide) (by decide)) hZ (hw _ (List.mem_of_getElem? (i := 31) rfl)) (hw _ (List.mem_of_getElem? (i := 2) rfl)) (by decide) (by decide)) q866a q866c (g := (mkF m 80 #[.val (.int p0), .val (.int p1), .val (.long q2), .second, .val (.long q3), .second, .val (.int p4), .val (.int p5), .val (.int (1 : Int32)), .val (.int (1 : Int32)), .val (.ref b799), .val (.ref b812), .val (.ref b815), .val (.ref b824), .val (.ref b834), .unset, .unset] [(.ref b799)])) rfl (by rw [hml]; rfl) (Steps.refl _) (argsL := []) (rest := []) (lenOf pd_0 rfl) rfl (by show 2 * 0 + _ ≤ _; exact Nat.le_of_eq rfl) (hb hby at_80) (fun _ _ => ⟨rfl, e851, (by decide : 11 + 0 ≤ _), (by decide : 306 + 0 ≤ _)⟩)
      dsimp only [Pt.U, Pt.locs, Pt.cells, Pt.slots] at X866 l866 y866 z866 st866 hQ866
      rw [l866, y866, z866] at X866
      replace X866 : Stand p l e room_1 s m #[(.int p0), (.int p1), (.long q2), (.long q3), (.int p4), (.int p5)] below meth c T866 _ 11 306 := X866
      obtain ⟨rfl, Nq866, oK866, oFaintArrays866, oFalongArrays866, oFaslotIndices866, oFaoldValues866, oFaentries866, oFalevelStarts866, oFaouterStamps866, oFalevel866, oFastamp866, oFalastStamp866, oAls866, oAos866⟩ := hQ866
      have N866 := Fr.app N851 Nq866
      have f867 := (Nat.le_trans f852 oK866.1)
      have f868 := (f853.keep oK866)
      have f869 := ((((((f842.keep ((Keep.refl _ []).ext E834)).keep (Keep.of_wr W846)).keep (Keep.of_wr W848)).keep (Keep.of_wr W850)).keep (Keep.of_wr W851)).keep oK866)
      have f870 := ((((((f836.keep ((Keep.refl _ []).ext E834) nin0).keep (Keep.of_wr W846) (ninS ne_ia811_b812 nin0)).keep (Keep.of_wr W848) (ninS ne_ia811_b812 nin0)).keep (Keep.of_wr W850) (ninS ne_ia811_b815 nin0)).keep (Keep.of_wr W851) (ninS ne_ia811_b815 nin0)).keep oK866 (ninS (Ne.symm ni_a_ia) (ninS ni_ia_ls (ninS ni_ia_os nin0))))
      have f871 := ((((((f837.keep ((Keep.refl _ []).ext E834) nin0).keep (Keep.of_wr W846) (ninS ne_la811_b812 nin0)).keep (Keep.of_wr W848) (ninS ne_la811_b812 nin0)).keep (Keep.of_wr W850) (ninS ne_la811_b815 nin0)).keep (Keep.of_wr W851) (ninS ne_la811_b815 nin0)).keep oK866 (ninS (Ne.symm ni_a_la) (ninS ni_la_ls (ninS ni_la_os nin0))))
      have f872 := ((((((f838.keep ((Keep.refl _ []).ext E834) nin0).keep (Keep.of_wr W846) (ninS ne_si811_b812 nin0)).keep (Keep.of_wr W848) (ninS ne_si811_b812 nin0)).keep (Keep.of_wr W850) (ninS ne_si811_b815 nin0)).keep (Keep.of_wr W851) (ninS ne_si811_b815 nin0)).keep oK866 (ninS (Ne.symm ni_a_si) (ninS ni_si_ls (ninS ni_si_os nin0))))
      have f873 := ((((((f839.keep ((Keep.refl _ []).ext E834) nin0).keep (Keep.of_wr W846) (ninS ne_ov811_b812 nin0)).keep (Keep.of_wr W848) (ninS ne_ov811_b812 nin0)).keep (Keep.of_wr W850) (ninS ne_ov811_b815 nin0)).keep (Keep.of_wr W851) (ninS ne_ov811_b815 nin0)).keep oK866 (ninS (Ne.symm ni_a_ov) (ninS ni_ov_ls (ninS ni_ov_os nin0))))
      have f874 := (((V848.keep (Keep.of_wr W850) (ninS ne_b812_b815 nin0)).keep (Keep.of_wr W851) (ninS ne_b812_b815 nin0)).keep oK866 (ninS (Ne.symm ne_b799_b812) (ninS (Ne.symm ne_ls811_b812) (ninS (Ne.symm ne_os811_b812) nin0))))
      have f875 := ((((((V824.keep ((Keep.refl _ []).ext E834) nin0).keep (Keep.of_wr W846) (ninS (Ne.symm ne_b812_b824) nin0)).keep (Keep.of_wr W848) (ninS (Ne.symm ne_b812_b824) nin0)).keep (Keep.of_wr W850) (ninS (Ne.symm ne_b815_b824) nin0)).keep (Keep.of_wr W851) (ninS (Ne.symm ne_b815_b824) nin0)).keep oK866 (ninS (Ne.symm ne_b799_b824) (ninS (Ne.symm ne_ls811_b824) (ninS (Ne.symm ne_os811_b824) nin0))))
      obtain ⟨cq876, kq876, q876a, q876b, q876c⟩ := isOf hZ rfl f868
      obtain ⟨_, _, ⟨T876, L876, kc876, nc876⟩, -, X876, ⟨Lc876, hQ876, l876, y876, z876⟩, st876⟩ := X866.virtualBack hx (y := (⟨"com/example/tablewise/tablewise/propagation/Trail", "set", "([I[JII)V"⟩ : MethodName)) (z := (⟨"com/example/tablewise/tablewise/propagation/Trail", "set", "([I[JII)V"⟩ : MethodName)) hown (mvT hZ (hw _ (List.mem_of_getElem? (i := 40) rfl))) (mvT hZ (hw _ (List.mem_of_getElem? (i := 41) rfl))) (notFace_of_selects (args := #[]) (mvT hZ (hw _ (List.mem_of_getElem? (i := 43) rfl)))) (mvT hZ (hw _ (List.mem_of_getElem? (i := 43) rfl))) (mvT hZ (hw _ (List.mem_of_getElem? (i := 42) rfl))) (by decide) (backOf (W := 0) (rmsetIr l Z a0 hw [] b799 b812 b824 (0 : Int32) p1 ia811 la811 si811 ov811 ls811 os811 (0 : Int32) ((0 : Int32) + (1 : Int32)) ((0 : Int64) + (1 : Int64)) ((0 : Int64) + (1 : Int64)) 0 (fun _ => .null) (fun _ => .null) (fun _ => 0) (fun _ => 0) 0 (own_upd (own_upd (fun _ => 0) 0 p0) 1 p1) (fun _ => 0) T866.heap n0 f867 f868 f869 oFaintArrays866 oFalongArrays866 oFaslotIndices866 oFaoldValues866 oFaentries866 oFalevelStarts866 oFaouterStamps866 oFalevel866 oFastamp866 oFalastStamp866 f870 f871 f872 f873 f874 f875 ge_b799 gi_ia gi_la gi_si gi_ov ge_b812 ge_b824 ni_a_ia ni_a_la ni_a_si ni_a_ov ne_b799_b812 ne_b799_b824 ni_ia_la ni_ia_si ni_ia_ov ne_ia811_b812 ne_ia811_b824 ni_la_si ni_la_ov ne_la811_b812 ne_la811_b824 ni_si_ov ne_si811_b812 ne_si811_b824 ne_ov811_b812 ne_ov811_b824 ne_b812_b824 (by decide) (by decide) (by decide) (by decide) (by decide)) hZ (hw _ (List.mem_of_getElem? (i := 44) rfl)) (hw _ (List.mem_of_getElem? (i := 2) rfl)) (by decide) (by decide)) q876a q876c (g := (mkF m 91 #[.val (.int p0), .val (.int p1), .val (.long q2), .second, .val (.long q3), .second, .val (.int p4), .val (.int p5), .val (.int (1 : Int32)), .val (.int (1 : Int32)), .val (.ref b799), .val (.ref b812), .val (.ref b815), .val (.ref b824), .val (.ref b834), .unset, .unset] [(.int p1), (.int (0 : Int32)), (.ref b824), (.ref b812), (.ref b799)])) rfl (by rw [hml]; rfl) (Steps.refl _) (argsL := [(.ref b812), (.ref b824), (.int (0 : Int32)), (.int p1)]) (rest := []) (lenOf pd_1 rfl) rfl (by show 2 * 0 + _ ≤ _; exact Nat.le_of_eq rfl) (hb hby at_91) (fun _ _ => ⟨rfl, rfl, (by decide : 11 + 0 ≤ _), (by decide : 306 + 0 ≤ _)⟩)
      dsimp only [Pt.U, Pt.locs, Pt.cells, Pt.slots] at X876 l876 y876 z876 st876 hQ876
      rw [l876, y876, z876] at X876
      replace X876 : Stand p l e room_1 s m #[(.int p0), (.int p1), (.long q2), (.long q3), (.int p4), (.int p5)] below meth c T876 _ 11 306 := X876
      obtain ⟨rfl, Nq876, oK876, oFaintArrays876, oFalongArrays876, oFaslotIndices876, oFaoldValues876, oFalevelStarts876, oFaouterStamps876, oFalevel876, oFastamp876, oFalastStamp876, oFaentries876, oAia876, oAla876, oAsi876, oAov876, oAar876, oAmk876⟩ := hQ876
      have N876 := Fr.app N866 Nq876
      have f877 := (Nat.le_trans f867 oK876.1)
      have f878 := (f868.keep oK876)
      obtain ⟨cq879, kq879, q879a, q879b, q879c⟩ := isOf hZ rfl f878
      obtain ⟨_, _, ⟨T879, L879, kc879, nc879⟩, -, X879, ⟨Lc879, hQ879, l879, y879, z879⟩, st879⟩ := X876.virtualBack hx (y := (⟨"com/example/tablewise/tablewise/propagation/Trail", "set", "([I[JII)V"⟩ : MethodName)) (z := (⟨"com/example/tablewise/tablewise/propagation/Trail", "set", "([I[JII)V"⟩ : MethodName)) hown (mvT hZ (hw _ (List.mem_of_getElem? (i := 40) rfl))) (mvT hZ (hw _ (List.mem_of_getElem? (i := 41) rfl))) (notFace_of_selects (args := #[]) (mvT hZ (hw _ (List.mem_of_getElem? (i := 43) rfl)))) (mvT hZ (hw _ (List.mem_of_getElem? (i := 43) rfl))) (mvT hZ (hw _ (List.mem_of_getElem? (i := 42) rfl))) (by decide) (backOf (W := 0) (rmsetIs l Z a0 hw [] b799 b812 b824 (0 : Int32) p4 ((0 : Int64) + (1 : Int64)) 0 (own_upd (own_upd (own_upd (fun _ => 0) 0 p0) 1 p1) 0 p1) (own_upd (fun _ => 0) 0 ((0 : Int64) + (1 : Int64))) T876.heap n0 f877 f878 oFastamp876 oAar876 oAmk876 ge_b812 ne_b812_b824 ne_b799_b812 ne_b799_b824 (by decide) (by decide) (by decide)) hZ (hw _ (List.mem_of_getElem? (i := 44) rfl)) (hw _ (List.mem_of_getElem? (i := 2) rfl)) (by decide) (by decide)) q879a q879c (g := (mkF m 108 #[.val (.int p0), .val (.int p1), .val (.long q2), .second, .val (.long q3), .second, .val (.int p4), .val (.int p5), .val (.int (1 : Int32)), .val (.int (1 : Int32)), .val (.ref b799), .val (.ref b812), .val (.ref b815), .val (.ref b824), .val (.ref b834), .unset, .unset] [(.int p4), (.int (0 : Int32)), (.ref b824), (.ref b812), (.ref b799)])) rfl (by rw [hml]; rfl) (Steps.refl _) (argsL := [(.ref b812), (.ref b824), (.int (0 : Int32)), (.int p4)]) (rest := []) (lenOf pd_1 rfl) rfl (by show 2 * 0 + _ ≤ _; exact Nat.le_of_eq rfl) (hb hby at_108) (fun _ _ => ⟨rfl, rfl, (by decide : 11 + 0 ≤ _), (by decide : 306 + 0 ≤ _)⟩)
      dsimp only [Pt.U, Pt.locs, Pt.cells, Pt.slots] at X879 l879 y879 z879 st879 hQ879
      rw [l879, y879, z879] at X879
      replace X879 : Stand p l e room_1 s m #[(.int p0), (.int p1), (.long q2), (.long q3), (.int p4), (.int p5)] below meth c T879 _ 11 306 := X879
      obtain ⟨rfl, Nq879, oK879, oAar879⟩ := hQ879
      have N879 := Fr.app N876 Nq879
      have k880 : ∀ tg_, Steps p.tables e below (T879.setTop (mkF m 111 #[.val (.int p0), .val (.int p1), .val (.long q2), .second, .val (.long q3), .second, .val (.int p4), .val (.int p5), .val (.int (1 : Int32)), .val (.int (1 : Int32)), .val (.ref b799), .val (.ref b812), .val (.ref b815), .val (.ref b824), .val (.ref b834), .unset, .unset] [])) tg_ → Steps p.tables e below (s₁.setTop (entryFrame m #[(.int p0), (.int p1), (.long q2), (.long q3), (.int p4), (.int p5)] maxLocals)) tg_ := by
        intro tg_ kt
        refine k847 tg_ ?_
        refine XS.iloadN X846.here hx rfl (hb hby at_65) rfl ?_
        show Steps p.tables e below (T846.setTop (mkF m 66 #[.val (.int p0), .val (.int p1), .val (.long q2), .second, .val (.long q3), .second, .val (.int p4), .val (.int p5), .val (.int (1 : Int32)), .val (.int (1 : Int32)), .val (.ref b799), .val (.ref b812), .val (.ref b815), .val (.ref b824), .val (.ref b834), .unset, .unset] [(.int p1), (.int (1 : Int32)), (.ref b812)])) _
        refine st848 _ ?_
        show Steps p.tables e below (T848.setTop (mkF m 67 #[.val (.int p0), .val (.int p1), .val (.long q2), .second, .val (.long q3), .second, .val (.int p4), .val (.int p5), .val (.int (1 : Int32)), .val (.int (1 : Int32)), .val (.ref b799), .val (.ref b812), .val (.ref b815), .val (.ref b824), .val (.ref b834), .unset, .unset] [])) _
        refine XS.aload X848.here hx rfl (hb hby at_67) rfl rfl ?_
        show Steps p.tables e below (T848.setTop (mkF m 69 #[.val (.int p0), .val (.int p1), .val (.long q2), .second, .val (.long q3), .second, .val (.int p4), .val (.int p5), .val (.int (1 : Int32)), .val (.int (1 : Int32)), .val (.ref b799), .val (.ref b812), .val (.ref b815), .val (.ref b824), .val (.ref b834), .unset, .unset] [(.ref b815)])) _
        refine XS.iconst X848.here hx rfl (hb hby at_69) ?_
        show Steps p.tables e below (T848.setTop (mkF m 70 #[.val (.int p0), .val (.int p1), .val (.long q2), .second, .val (.long q3), .second, .val (.int p4), .val (.int p5), .val (.int (1 : Int32)), .val (.int (1 : Int32)), .val (.ref b799), .val (.ref b812), .val (.ref b815), .val (.ref b824), .val (.ref b834), .unset, .unset] [(.int (0 : Int32)), (.ref b815)])) _
        refine XS.lloadN X848.here hx rfl (hb hby at_70) rfl ?_
        show Steps p.tables e below (T848.setTop (mkF m 71 #[.val (.int p0), .val (.int p1), .val (.long q2), .second, .val (.long q3), .second, .val (.int p4), .val (.int p5), .val (.int (1 : Int32)), .val (.int (1 : Int32)), .val (.ref b799), .val (.ref b812), .val (.ref b815), .val (.ref b824), .val (.ref b834), .unset, .unset] [(.long q2), (.int (0 : Int32)), (.ref b815)])) _
        refine st850 _ ?_
        show Steps p.tables e below (T850.setTop (mkF m 72 #[.val (.int p0), .val (.int p1), .val (.long q2), .second, .val (.long q3), .second, .val (.int p4), .val (.int p5), .val (.int (1 : Int32)), .val (.int (1 : Int32)), .val (.ref b799), .val (.ref b812), .val (.ref b815), .val (.ref b824), .val (.ref b834), .unset, .unset] [])) _
        refine XS.aload X850.here hx rfl (hb hby at_72) rfl rfl ?_
        show Steps p.tables e below (T850.setTop (mkF m 74 #[.val (.int p0), .val (.int p1), .val (.long q2), .second, .val (.long q3), .second, .val (.int p4), .val (.int p5), .val (.int (1 : Int32)), .val (.int (1 : Int32)), .val (.ref b799), .val (.ref b812), .val (.ref b815), .val (.ref b824), .val (.ref b834), .unset, .unset] [(.ref b815)])) _
        refine XS.iconst X850.here hx rfl (hb hby at_74) ?_
        show Steps p.tables e below (T850.setTop (mkF m 75 #[.val (.int p0), .val (.int p1), .val (.long q2), .second, .val (.long q3), .second, .val (.int p4), .val (.int p5), .val (.int (1 : Int32)), .val (.int (1 : Int32)), .val (.ref b799), .val (.ref b812), .val (.ref b815), .val (.ref b824), .val (.ref b834), .unset, .unset] [(.int (1 : Int32)), (.ref b815)])) _
        refine XS.lload X850.here hx rfl (hb hby at_75) rfl ?_
        show Steps p.tables e below (T850.setTop (mkF m 77 #[.val (.int p0), .val (.int p1), .val (.long q2), .second, .val (.long q3), .second, .val (.int p4), .val (.int p5), .val (.int (1 : Int32)), .val (.int (1 : Int32)), .val (.ref b799), .val (.ref b812), .val (.ref b815), .val (.ref b824), .val (.ref b834), .unset, .unset] [(.long q3), (.int (1 : Int32)), (.ref b815)])) _
        refine st851 _ ?_
        show Steps p.tables e below (T851.setTop (mkF m 78 #[.val (.int p0), .val (.int p1), .val (.long q2), .second, .val (.long q3), .second, .val (.int p4), .val (.int p5), .val (.int (1 : Int32)), .val (.int (1 : Int32)), .val (.ref b799), .val (.ref b812), .val (.ref b815), .val (.ref b824), .val (.ref b834), .unset, .unset] [])) _
        refine XS.aload X851.here hx rfl (hb hby at_78) rfl rfl ?_
        show Steps p.tables e below (T851.setTop (mkF m 80 #[.val (.int p0), .val (.int p1), .val (.long q2), .second, .val (.long q3), .second, .val (.int p4), .val (.int p5), .val (.int (1 : Int32)), .val (.int (1 : Int32)), .val (.ref b799), .val (.ref b812), .val (.ref b815), .val (.ref b824), .val (.ref b834), .unset, .unset] [(.ref b799)])) _
        refine st866.trans ?_
        show Steps p.tables e below (T866.setTop (mkF m 83 #[.val (.int p0), .val (.int p1), .val (.long q2), .second, .val (.long q3), .second, .val (.int p4), .val (.int p5), .val (.int (1 : Int32)), .val (.int (1 : Int32)), .val (.ref b799), .val (.ref b812), .val (.ref b815), .val (.ref b824), .val (.ref b834), .unset, .unset] [])) _
        refine XS.aload X866.here hx rfl (hb hby at_83) rfl rfl ?_
        show Steps p.tables e below (T866.setTop (mkF m 85 #[.val (.int p0), .val (.int p1), .val (.long q2), .second, .val (.long q3), .second, .val (.int p4), .val (.int p5), .val (.int (1 : Int32)), .val (.int (1 : Int32)), .val (.ref b799), .val (.ref b812), .val (.ref b815), .val (.ref b824), .val (.ref b834), .unset, .unset] [(.ref b799)])) _
        refine XS.aload X866.here hx rfl (hb hby at_85) rfl rfl ?_
        show Steps p.tables e below (T866.setTop (mkF m 87 #[.val (.int p0), .val (.int p1), .val (.long q2), .second, .val (.long q3), .second, .val (.int p4), .val (.int p5), .val (.int (1 : Int32)), .val (.int (1 : Int32)), .val (.ref b799), .val (.ref b812), .val (.ref b815), .val (.ref b824), .val (.ref b834), .unset, .unset] [(.ref b812), (.ref b799)])) _
        refine XS.aload X866.here hx rfl (hb hby at_87) rfl rfl ?_
        show Steps p.tables e below (T866.setTop (mkF m 89 #[.val (.int p0), .val (.int p1), .val (.long q2), .second, .val (.long q3), .second, .val (.int p4), .val (.int p5), .val (.int (1 : Int32)), .val (.int (1 : Int32)), .val (.ref b799), .val (.ref b812), .val (.ref b815), .val (.ref b824), .val (.ref b834), .unset, .unset] [(.ref b824), (.ref b812), (.ref b799)])) _
        refine XS.iconst X866.here hx rfl (hb hby at_89) ?_
        show Steps p.tables e below (T866.setTop (mkF m 90 #[.val (.int p0), .val (.int p1), .val (.long q2), .second, .val (.long q3), .second, .val (.int p4), .val (.int p5), .val (.int (1 : Int32)), .val (.int (1 : Int32)), .val (.ref b799), .val (.ref b812), .val (.ref b815), .val (.ref b824), .val (.ref b834), .unset, .unset] [(.int (0 : Int32)), (.ref b824), (.ref b812), (.ref b799)])) _
        refine XS.iloadN X866.here hx rfl (hb hby at_90) rfl ?_
        show Steps p.tables e below (T866.setTop (mkF m 91 #[.val (.int p0), .val (.int p1), .val (.long q2), .second, .val (.long q3), .second, .val (.int p4), .val (.int p5), .val (.int (1 : Int32)), .val (.int (1 : Int32)), .val (.ref b799), .val (.ref b812), .val (.ref b815), .val (.ref b824), .val (.ref b834), .unset, .unset] [(.int p1), (.int (0 : Int32)), (.ref b824), (.ref b812), (.ref b799)])) _
        refine st876.trans ?_
        show Steps p.tables e below (T876.setTop (mkF m 94 #[.val (.int p0), .val (.int p1), .val (.long q2), .second, .val (.long q3), .second, .val (.int p4), .val (.int p5), .val (.int (1 : Int32)), .val (.int (1 : Int32)), .val (.ref b799), .val (.ref b812), .val (.ref b815), .val (.ref b824), .val (.ref b834), .unset, .unset] [])) _
        refine XS.iload X876.here hx rfl (hb hby at_94) rfl ?_
        show Steps p.tables e below (T876.setTop (mkF m 96 #[.val (.int p0), .val (.int p1), .val (.long q2), .second, .val (.long q3), .second, .val (.int p4), .val (.int p5), .val (.int (1 : Int32)), .val (.int (1 : Int32)), .val (.ref b799), .val (.ref b812), .val (.ref b815), .val (.ref b824), .val (.ref b834), .unset, .unset] [(.int (1 : Int32))])) _
        refine XS.ifNo X876.here hx rfl (hb hby at_96) rfl ((if0 _ _).trans (feq (by decide : ¬ ((1 : Int32) = (0 : Int32)))).1) ?_
        show Steps p.tables e below (T876.setTop (mkF m 99 #[.val (.int p0), .val (.int p1), .val (.long q2), .second, .val (.long q3), .second, .val (.int p4), .val (.int p5), .val (.int (1 : Int32)), .val (.int (1 : Int32)), .val (.ref b799), .val (.ref b812), .val (.ref b815), .val (.ref b824), .val (.ref b834), .unset, .unset] [])) _
        refine XS.aload X876.here hx rfl (hb hby at_99) rfl rfl ?_
        show Steps p.tables e below (T876.setTop (mkF m 101 #[.val (.int p0), .val (.int p1), .val (.long q2), .second, .val (.long q3), .second, .val (.int p4), .val (.int p5), .val (.int (1 : Int32)), .val (.int (1 : Int32)), .val (.ref b799), .val (.ref b812), .val (.ref b815), .val (.ref b824), .val (.ref b834), .unset, .unset] [(.ref b799)])) _
        refine XS.aload X876.here hx rfl (hb hby at_101) rfl rfl ?_
        show Steps p.tables e below (T876.setTop (mkF m 103 #[.val (.int p0), .val (.int p1), .val (.long q2), .second, .val (.long q3), .second, .val (.int p4), .val (.int p5), .val (.int (1 : Int32)), .val (.int (1 : Int32)), .val (.ref b799), .val (.ref b812), .val (.ref b815), .val (.ref b824), .val (.ref b834), .unset, .unset] [(.ref b812), (.ref b799)])) _
        refine XS.aload X876.here hx rfl (hb hby at_103) rfl rfl ?_
        show Steps p.tables e below (T876.setTop (mkF m 105 #[.val (.int p0), .val (.int p1), .val (.long q2), .second, .val (.long q3), .second, .val (.int p4), .val (.int p5), .val (.int (1 : Int32)), .val (.int (1 : Int32)), .val (.ref b799), .val (.ref b812), .val (.ref b815), .val (.ref b824), .val (.ref b834), .unset, .unset] [(.ref b824), (.ref b812), (.ref b799)])) _
        refine XS.iconst X876.here hx rfl (hb hby at_105) ?_
        show Steps p.tables e below (T876.setTop (mkF m 106 #[.val (.int p0), .val (.int p1), .val (.long q2), .second, .val (.long q3), .second, .val (.int p4), .val (.int p5), .val (.int (1 : Int32)), .val (.int (1 : Int32)), .val (.ref b799), .val (.ref b812), .val (.ref b815), .val (.ref b824), .val (.ref b834), .unset, .unset] [(.int (0 : Int32)), (.ref b824), (.ref b812), (.ref b799)])) _
        refine XS.iload X876.here hx rfl (hb hby at_106) rfl ?_
        show Steps p.tables e below (T876.setTop (mkF m 108 #[.val (.int p0), .val (.int p1), .val (.long q2), .second, .val (.long q3), .second, .val (.int p4), .val (.int p5), .val (.int (1 : Int32)), .val (.int (1 : Int32)), .val (.ref b799), .val (.ref b812), .val (.ref b815), .val (.ref b824), .val (.ref b834), .unset, .unset] [(.int p4), (.int (0 : Int32)), (.ref b824), (.ref b812), (.ref b799)])) _
        refine st879.trans ?_
        show Steps p.tables e below (T879.setTop (mkF m 111 #[.val (.int p0), .val (.int p1), .val (.long q2), .second, .val (.long q3), .second, .val (.int p4), .val (.int p5), .val (.int (1 : Int32)), .val (.int (1 : Int32)), .val (.ref b799), .val (.ref b812), .val (.ref b815), .val (.ref b824), .val (.ref b834), .unset, .unset] [])) _
        exact kt
      have f881 := (Nat.le_trans f877 oK879.1)
      have f882 := (f878.keep oK879)
      have f883 := ((((((((f843.keep ((Keep.refl _ []).ext E834)).keep (Keep.of_wr W846)).keep (Keep.of_wr W848)).keep (Keep.of_wr W850)).keep (Keep.of_wr W851)).keep oK866).keep oK876).keep oK879)
      have f884 := (oFaintArrays876.keep oK879 (ninS ne_b799_b812 nin0))
      have f885 := (oFalongArrays876.keep oK879 (ninS ne_b799_b812 nin0))
      have f886 := (oFaslotIndices876.keep oK879 (ninS ne_b799_b812 nin0))
      have f887 := (oFaoldValues876.keep oK879 (ninS ne_b799_b812 nin0))
      have f888 := (oFaentries876.keep oK879 (ninS ne_b799_b812 nin0))
      have f889 := (oFalevelStarts876.keep oK879 (ninS ne_b799_b812 nin0))
      have f890 := (oFaouterStamps876.keep oK879 (ninS ne_b799_b812 nin0))
      have f891 := (oFalevel876.keep oK879 (ninS ne_b799_b812 nin0))
      have f892 := (oFastamp876.keep oK879 (ninS ne_b799_b812 nin0))
      have f893 := (oFalastStamp876.keep oK879 (ninS ne_b799_b812 nin0))
      have f894 := (oAia876.keep oK879 (ninS ne_ia811_b812 nin0))
      have f895 := (oAla876.keep oK879 (ninS ne_la811_b812 nin0))
      have f896 := (oAsi876.keep oK879 (ninS ne_si811_b812 nin0))
      have f897 := (oAov876.keep oK879 (ninS ne_ov811_b812 nin0))
      have f898 := (((V851.keep oK866 (ninS (Ne.symm ne_b799_b815) (ninS (Ne.symm ne_ls811_b815) (ninS (Ne.symm ne_os811_b815) nin0)))).keep oK876 (ninS (Ne.symm ne_b799_b815) (ninS (Ne.symm ne_ia811_b815) (ninS (Ne.symm ne_la811_b815) (ninS (Ne.symm ne_si811_b815) (ninS (Ne.symm ne_ov811_b815) (ninS (Ne.symm ne_b812_b815) (ninS ne_b815_b824 nin0)))))))).keep oK879 (ninS (Ne.symm ne_b812_b815) nin0))
      have f899 := (((((((V834.keep (Keep.of_wr W846) (ninS (Ne.symm ne_b812_b834) nin0)).keep (Keep.of_wr W848) (ninS (Ne.symm ne_b812_b834) nin0)).keep (Keep.of_wr W850) (ninS (Ne.symm ne_b815_b834) nin0)).keep (Keep.of_wr W851) (ninS (Ne.symm ne_b815_b834) nin0)).keep oK866 (ninS (Ne.symm ne_b799_b834) (ninS (Ne.symm ne_ls811_b834) (ninS (Ne.symm ne_os811_b834) nin0)))).keep oK876 (ninS (Ne.symm ne_b799_b834) (ninS (Ne.symm ne_ia811_b834) (ninS (Ne.symm ne_la811_b834) (ninS (Ne.symm ne_si811_b834) (ninS (Ne.symm ne_ov811_b834) (ninS (Ne.symm ne_b812_b834) (ninS (Ne.symm ne_b824_b834) nin0)))))))).keep oK879 (ninS (Ne.symm ne_b812_b834) nin0))
      obtain ⟨cq900, kq900, q900a, q900b, q900c⟩ := isOf hZ rfl f882
      obtain ⟨_, _, ⟨T900, L900, kc900, nc900⟩, -, X900, ⟨Lc900, hQ900, l900, y900, z900⟩, st900⟩ := X879.virtualBack hx (y := (⟨"com/example/tablewise/tablewise/propagation/Trail", "set", "([J[JIJ)V"⟩ : MethodName)) (z := (⟨"com/example/tablewise/tablewise/propagation/Trail", "set", "([J[JIJ)V"⟩ : MethodName)) hown (mvT hZ (hw _ (List.mem_of_getElem? (i := 50) rfl))) (mvT hZ (hw _ (List.mem_of_getElem? (i := 51) rfl))) (notFace_of_selects (args := #[]) (mvT hZ (hw _ (List.mem_of_getElem? (i := 53) rfl)))) (mvT hZ (hw _ (List.mem_of_getElem? (i := 53) rfl))) (mvT hZ (hw _ (List.mem_of_getElem? (i := 52) rfl))) (by decide) (backOf (W := 0) (rmsetJr l Z a0 hw [] b799 b815 b834 (1 : Int32) q2 ia811 la811 si811 ov811 ls811 os811 ((0 : Int32) + (1 : Int32)) ((0 : Int32) + (1 : Int32)) ((0 : Int64) + (1 : Int64)) ((0 : Int64) + (1 : Int64)) 1 (own_upd (fun _ => .null) 0 (.ref b812)) (own_upd (fun _ => .null) 0 .null) (own_upd (fun _ => 0) 0 (0 : Int32)) (own_upd (fun _ => 0) 0 (((own_upd (own_upd (fun _ => 0) 0 p0) 1 p1) 0).toInt64)) 1 (own_upd (own_upd (fun _ => 0) 0 q2) 1 q3) (fun _ => 0) T879.heap n0 f881 f882 f883 f884 f885 f886 f887 f888 f889 f890 f891 f892 f893 f894 f895 f896 f897 f898 f899 ge_b799 gi_ia gi_la gi_si gi_ov ge_b815 ge_b834 ni_a_ia ni_a_la ni_a_si ni_a_ov ne_b799_b815 ne_b799_b834 ni_ia_la ni_ia_si ni_ia_ov ne_ia811_b815 ne_ia811_b834 ni_la_si ni_la_ov ne_la811_b815 ne_la811_b834 ni_si_ov ne_si811_b815 ne_si811_b834 ne_ov811_b815 ne_ov811_b834 ne_b815_b834 (by decide) (by decide) (by decide) (by decide) (by decide)) hZ (hw _ (List.mem_of_getElem? (i := 54) rfl)) (hw _ (List.mem_of_getElem? (i := 2) rfl)) (by decide) (by decide)) q900a q900c (g := (mkF m 119 #[.val (.int p0), .val (.int p1), .val (.long q2), .second, .val (.long q3), .second, .val (.int p4), .val (.int p5), .val (.int (1 : Int32)), .val (.int (1 : Int32)), .val (.ref b799), .val (.ref b812), .val (.ref b815), .val (.ref b824), .val (.ref b834), .unset, .unset] [(.long q2), (.int (1 : Int32)), (.ref b834), (.ref b815), (.ref b799)])) rfl (by rw [hml]; rfl) (Steps.refl _) (argsL := [(.ref b815), (.ref b834), (.int (1 : Int32)), (.long q2)]) (rest := []) (lenOf pd_3 rfl) rfl (by show 2 * 0 + _ ≤ _; exact Nat.le_of_eq rfl) (hb hby at_119) (fun _ _ => ⟨rfl, rfl, (by decide : 11 + 0 ≤ _), (by decide : 306 + 0 ≤ _)⟩)
      dsimp only [Pt.U, Pt.locs, Pt.cells, Pt.slots] at X900 l900 y900 z900 st900 hQ900
      rw [l900, y900, z900] at X900
      replace X900 : Stand p l e room_1 s m #[(.int p0), (.int p1), (.long q2), (.long q3), (.int p4), (.int p5)] below meth c T900 _ 11 306 := X900
      obtain ⟨rfl, Nq900, oK900, oFaintArrays900, oFalongArrays900, oFaslotIndices900, oFaoldValues900, oFalevelStarts900, oFaouterStamps900, oFalevel900, oFastamp900, oFalastStamp900, oFaentries900, oAia900, oAla900, oAsi900, oAov900, oAar900, oAmk900⟩ := hQ900
      have N900 := Fr.app N879 Nq900
      have f901 := (Nat.le_trans f881 oK900.1)
      have f902 := (f882.keep oK900)
      have f903 := (((oAls866.keep oK876 (ninS (Ne.symm ni_a_ls) (ninS (Ne.symm ni_ia_ls) (ninS (Ne.symm ni_la_ls) (ninS (Ne.symm ni_si_ls) (ninS (Ne.symm ni_ov_ls) (ninS ne_ls811_b812 (ninS ne_ls811_b824 nin0)))))))).keep oK879 (ninS ne_ls811_b812 nin0)).keep oK900 (ninS (Ne.symm ni_a_ls) (ninS (Ne.symm ni_ia_ls) (ninS (Ne.symm ni_la_ls) (ninS (Ne.symm ni_si_ls) (ninS (Ne.symm ni_ov_ls) (ninS ne_ls811_b815 (ninS ne_ls811_b834 nin0))))))))
      have f904 := (((oAos866.keep oK876 (ninS (Ne.symm ni_a_os) (ninS (Ne.symm ni_ia_os) (ninS (Ne.symm ni_la_os) (ninS (Ne.symm ni_si_os) (ninS (Ne.symm ni_ov_os) (ninS ne_os811_b812 (ninS ne_os811_b824 nin0)))))))).keep oK879 (ninS ne_os811_b812 nin0)).keep oK900 (ninS (Ne.symm ni_a_os) (ninS (Ne.symm ni_ia_os) (ninS (Ne.symm ni_la_os) (ninS (Ne.symm ni_si_os) (ninS (Ne.symm ni_ov_os) (ninS ne_os811_b815 (ninS ne_os811_b834 nin0))))))))
      obtain ⟨cq905, kq905, q905a, q905b, q905c⟩ := isOf hZ rfl f902
      obtain ⟨_, _, ⟨T905, L905, kc905, nc905⟩, -, X905, ⟨Lc905, hQ905, l905, y905, z905⟩, st905⟩ := X900.virtualBack hx (y := (⟨"com/example/tablewise/tablewise/propagation/Trail", "openLevel", "()V"⟩ : MethodName)) (z := (⟨"com/example/tablewise/tablewise/propagation/Trail", "openLevel", "()V"⟩ : MethodName)) hown (mvT hZ (hw _ (List.mem_of_getElem? (i := 27) rfl))) (mvT hZ (hw _ (List.mem_of_getElem? (i := 28) rfl))) (notFace_of_selects (args := #[]) (mvT hZ (hw _ (List.mem_of_getElem? (i := 30) rfl)))) (mvT hZ (hw _ (List.mem_of_getElem? (i := 30) rfl))) (mvT hZ (hw _ (List.mem_of_getElem? (i := 29) rfl))) (by decide) (backOf (W := 0) (rm3 l Z a0 hw [] b799 ia811 la811 si811 ov811 ls811 os811 (((0 : Int32) + (1 : Int32)) + (1 : Int32)) ((0 : Int32) + (1 : Int32)) ((0 : Int64) + (1 : Int64)) ((0 : Int64) + (1 : Int64)) 1 (own_upd (fun _ => 0) 0 (0 : Int32)) (own_upd (fun _ => 0) 0 (0 : Int64)) T900.heap n0 f901 f902 oFaintArrays900 oFalongArrays900 oFaslotIndices900 oFaoldValues900 oFaentries900 oFalevelStarts900 oFaouterStamps900 oFalevel900 oFastamp900 oFalastStamp900 f903 f904 ge_b799 gi_ls gi_os ni_a_ls ni_a_os ni_ls_os (by decide) (by decide)) hZ (hw _ (List.mem_of_getElem? (i := 31) rfl)) (hw _ (List.mem_of_getElem? (i := 2) rfl)) (by decide) (by decide)) q905a q905c (g := (mkF m 132 #[.val (.int p0), .val (.int p1), .val (.long q2), .second, .val (.long q3), .second, .val (.int p4), .val (.int p5), .val (.int (1 : Int32)), .val (.int (1 : Int32)), .val (.ref b799), .val (.ref b812), .val (.ref b815), .val (.ref b824), .val (.ref b834), .val (.int (1 : Int32)), .unset] [(.ref b799)])) rfl (by rw [hml]; rfl) (Steps.refl _) (argsL := []) (rest := []) (lenOf pd_0 rfl) rfl (by show 2 * 0 + _ ≤ _; exact Nat.le_of_eq rfl) (hb hby at_132) (fun _ _ => ⟨rfl, rfl, (by decide : 11 + 0 ≤ _), (by decide : 306 + 0 ≤ _)⟩)
      dsimp only [Pt.U, Pt.locs, Pt.cells, Pt.slots] at X905 l905 y905 z905 st905 hQ905
      rw [l905, y905, z905] at X905
      replace X905 : Stand p l e room_1 s m #[(.int p0), (.int p1), (.long q2), (.long q3), (.int p4), (.int p5)] below meth c T905 _ 11 306 := X905
      obtain ⟨rfl, Nq905, oK905, oFaintArrays905, oFalongArrays905, oFaslotIndices905, oFaoldValues905, oFaentries905, oFalevelStarts905, oFaouterStamps905, oFalevel905, oFastamp905, oFalastStamp905, oAls905, oAos905⟩ := hQ905
      have N905 := Fr.app N900 Nq905
      have f906 := (Nat.le_trans f901 oK905.1)
      have f907 := (f902.keep oK905)
      have f908 := ((f883.keep oK900).keep oK905)
      have f909 := (oAia900.keep oK905 (ninS (Ne.symm ni_a_ia) (ninS ni_ia_ls (ninS ni_ia_os nin0))))
      have f910 := (oAla900.keep oK905 (ninS (Ne.symm ni_a_la) (ninS ni_la_ls (ninS ni_la_os nin0))))
      have f911 := (oAsi900.keep oK905 (ninS (Ne.symm ni_a_si) (ninS ni_si_ls (ninS ni_si_os nin0))))
      have f912 := (oAov900.keep oK905 (ninS (Ne.symm ni_a_ov) (ninS ni_ov_ls (ninS ni_ov_os nin0))))
      have f913 := (oAar900.keep oK905 (ninS (Ne.symm ne_b799_b815) (ninS (Ne.symm ne_ls811_b815) (ninS (Ne.symm ne_os811_b815) nin0))))
      have f914 := (oAmk900.keep oK905 (ninS (Ne.symm ne_b799_b834) (ninS (Ne.symm ne_ls811_b834) (ninS (Ne.symm ne_os811_b834) nin0))))
      obtain ⟨cq915, kq915, q915a, q915b, q915c⟩ := isOf hZ rfl f907
      obtain ⟨_, _, ⟨T915, L915, kc915, nc915⟩, -, X915, ⟨Lc915, hQ915, l915, y915, z915⟩, st915⟩ := X905.virtualBack hx (y := (⟨"com/example/tablewise/tablewise/propagation/Trail", "set", "([J[JIJ)V"⟩ : MethodName)) (z := (⟨"com/example/tablewise/tablewise/propagation/Trail", "set", "([J[JIJ)V"⟩ : MethodName)) hown (mvT hZ (hw _ (List.mem_of_getElem? (i := 50) rfl))) (mvT hZ (hw _ (List.mem_of_getElem? (i := 51) rfl))) (notFace_of_selects (args := #[]) (mvT hZ (hw _ (List.mem_of_getElem? (i := 53) rfl)))) (mvT hZ (hw _ (List.mem_of_getElem? (i := 53) rfl))) (mvT hZ (hw _ (List.mem_of_getElem? (i := 52) rfl))) (by decide) (backOf (W := 0) (rmsetJr l Z a0 hw [] b799 b815 b834 (1 : Int32) (p4.toInt64) ia811 la811 si811 ov811 ls811 os811 (((0 : Int32) + (1 : Int32)) + (1 : Int32)) (((0 : Int32) + (1 : Int32)) + (1 : Int32)) (((0 : Int64) + (1 : Int64)) + (1 : Int64)) (((0 : Int64) + (1 : Int64)) + (1 : Int64)) 2 (own_upd (own_upd (fun _ => .null) 0 (.ref b812)) 1 .null) (own_upd (own_upd (fun _ => .null) 0 .null) 1 (.ref b815)) (own_upd (own_upd (fun _ => 0) 0 (0 : Int32)) 1 (1 : Int32)) (own_upd (own_upd (fun _ => 0) 0 (((own_upd (own_upd (fun _ => 0) 0 p0) 1 p1) 0).toInt64)) 1 ((own_upd (own_upd (fun _ => 0) 0 q2) 1 q3) 1)) 1 (own_upd (own_upd (own_upd (fun _ => 0) 0 q2) 1 q3) 1 q2) (own_upd (fun _ => 0) 1 ((0 : Int64) + (1 : Int64))) T905.heap n0 f906 f907 f908 oFaintArrays905 oFalongArrays905 oFaslotIndices905 oFaoldValues905 oFaentries905 oFalevelStarts905 oFaouterStamps905 oFalevel905 oFastamp905 oFalastStamp905 f909 f910 f911 f912 f913 f914 ge_b799 gi_ia gi_la gi_si gi_ov ge_b815 ge_b834 ni_a_ia ni_a_la ni_a_si ni_a_ov ne_b799_b815 ne_b799_b834 ni_ia_la ni_ia_si ni_ia_ov ne_ia811_b815 ne_ia811_b834 ni_la_si ni_la_ov ne_la811_b815 ne_la811_b834 ni_si_ov ne_si811_b815 ne_si811_b834 ne_ov811_b815 ne_ov811_b834 ne_b815_b834 (by decide) (by decide) (by decide) (by decide) (by decide)) hZ (hw _ (List.mem_of_getElem? (i := 54) rfl)) (hw _ (List.mem_of_getElem? (i := 2) rfl)) (by decide) (by decide)) q915a q915c (g := (mkF m 145 #[.val (.int p0), .val (.int p1), .val (.long q2), .second, .val (.long q3), .second, .val (.int p4), .val (.int p5), .val (.int (1 : Int32)), .val (.int (1 : Int32)), .val (.ref b799), .val (.ref b812), .val (.ref b815), .val (.ref b824), .val (.ref b834), .val (.int (1 : Int32)), .unset] [(.long (p4.toInt64)), (.int (1 : Int32)), (.ref b834), (.ref b815), (.ref b799)])) rfl (by rw [hml]; rfl) (Steps.refl _) (argsL := [(.ref b815), (.ref b834), (.int (1 : Int32)), (.long (p4.toInt64))]) (rest := []) (lenOf pd_3 rfl) rfl (by show 2 * 0 + _ ≤ _; exact Nat.le_of_eq rfl) (hb hby at_145) (fun _ _ => ⟨rfl, rfl, (by decide : 11 + 0 ≤ _), (by decide : 306 + 0 ≤ _)⟩)
      dsimp only [Pt.U, Pt.locs, Pt.cells, Pt.slots] at X915 l915 y915 z915 st915 hQ915
      rw [l915, y915, z915] at X915
      replace X915 : Stand p l e room_1 s m #[(.int p0), (.int p1), (.long q2), (.long q3), (.int p4), (.int p5)] below meth c T915 _ 11 306 := X915
      obtain ⟨rfl, Nq915, oK915, oFaintArrays915, oFalongArrays915, oFaslotIndices915, oFaoldValues915, oFalevelStarts915, oFaouterStamps915, oFalevel915, oFastamp915, oFalastStamp915, oFaentries915, oAia915, oAla915, oAsi915, oAov915, oAar915, oAmk915⟩ := hQ915
      have N915 := Fr.app N905 Nq915
      have f916 := (Nat.le_trans f906 oK915.1)
      have f917 := (f907.keep oK915)
      have f918 := (((((f869.keep oK876).keep oK879).keep oK900).keep oK905).keep oK915)
      have f919 := (((oAar879.keep oK900 (ninS (Ne.symm ne_b799_b812) (ninS (Ne.symm ne_ia811_b812) (ninS (Ne.symm ne_la811_b812) (ninS (Ne.symm ne_si811_b812) (ninS (Ne.symm ne_ov811_b812) (ninS ne_b812_b815 (ninS ne_b812_b834 nin0)))))))).keep oK905 (ninS (Ne.symm ne_b799_b812) (ninS (Ne.symm ne_ls811_b812) (ninS (Ne.symm ne_os811_b812) nin0)))).keep oK915 (ninS (Ne.symm ne_b799_b812) (ninS (Ne.symm ne_ia811_b812) (ninS (Ne.symm ne_la811_b812) (ninS (Ne.symm ne_si811_b812) (ninS (Ne.symm ne_ov811_b812) (ninS ne_b812_b815 (ninS ne_b812_b834 nin0))))))))
      have f920 := ((((oAmk876.keep oK879 (ninS (Ne.symm ne_b812_b824) nin0)).keep oK900 (ninS (Ne.symm ne_b799_b824) (ninS (Ne.symm ne_ia811_b824) (ninS (Ne.symm ne_la811_b824) (ninS (Ne.symm ne_si811_b824) (ninS (Ne.symm ne_ov811_b824) (ninS (Ne.symm ne_b815_b824) (ninS ne_b824_b834 nin0)))))))).keep oK905 (ninS (Ne.symm ne_b799_b824) (ninS (Ne.symm ne_ls811_b824) (ninS (Ne.symm ne_os811_b824) nin0)))).keep oK915 (ninS (Ne.symm ne_b799_b824) (ninS (Ne.symm ne_ia811_b824) (ninS (Ne.symm ne_la811_b824) (ninS (Ne.symm ne_si811_b824) (ninS (Ne.symm ne_ov811_b824) (ninS (Ne.symm ne_b815_b824) (ninS ne_b824_b834 nin0))))))))
      obtain ⟨cq921, kq921, q921a, q921b, q921c⟩ := isOf hZ rfl f917
      obtain ⟨_, _, ⟨T921, L921, kc921, nc921⟩, -, X921, ⟨Lc921, hQ921, l921, y921, z921⟩, st921⟩ := X915.virtualBack hx (y := (⟨"com/example/tablewise/tablewise/propagation/Trail", "set", "([I[JII)V"⟩ : MethodName)) (z := (⟨"com/example/tablewise/tablewise/propagation/Trail", "set", "([I[JII)V"⟩ : MethodName)) hown (mvT hZ (hw _ (List.mem_of_getElem? (i := 40) rfl))) (mvT hZ (hw _ (List.mem_of_getElem? (i := 41) rfl))) (notFace_of_selects (args := #[]) (mvT hZ (hw _ (List.mem_of_getElem? (i := 43) rfl)))) (mvT hZ (hw _ (List.mem_of_getElem? (i := 43) rfl))) (mvT hZ (hw _ (List.mem_of_getElem? (i := 42) rfl))) (by decide) (backOf (W := 0) (rmsetIr l Z a0 hw [] b799 b812 b824 (1 : Int32) p0 ia811 la811 si811 ov811 ls811 os811 ((((0 : Int32) + (1 : Int32)) + (1 : Int32)) + (1 : Int32)) (((0 : Int32) + (1 : Int32)) + (1 : Int32)) (((0 : Int64) + (1 : Int64)) + (1 : Int64)) (((0 : Int64) + (1 : Int64)) + (1 : Int64)) 3 (own_upd (own_upd (own_upd (fun _ => .null) 0 (.ref b812)) 1 .null) 2 .null) (own_upd (own_upd (own_upd (fun _ => .null) 0 .null) 1 (.ref b815)) 2 (.ref b815)) (own_upd (own_upd (own_upd (fun _ => 0) 0 (0 : Int32)) 1 (1 : Int32)) 2 (1 : Int32)) (own_upd (own_upd (own_upd (fun _ => 0) 0 (((own_upd (own_upd (fun _ => 0) 0 p0) 1 p1) 0).toInt64)) 1 ((own_upd (own_upd (fun _ => 0) 0 q2) 1 q3) 1)) 2 ((own_upd (own_upd (own_upd (fun _ => 0) 0 q2) 1 q3) 1 q2) 1)) 1 (own_upd (own_upd (own_upd (own_upd (fun _ => 0) 0 p0) 1 p1) 0 p1) 0 p4) (own_upd (fun _ => 0) 0 ((0 : Int64) + (1 : Int64))) T915.heap n0 f916 f917 f918 oFaintArrays915 oFalongArrays915 oFaslotIndices915 oFaoldValues915 oFaentries915 oFalevelStarts915 oFaouterStamps915 oFalevel915 oFastamp915 oFalastStamp915 oAia915 oAla915 oAsi915 oAov915 f919 f920 ge_b799 gi_ia gi_la gi_si gi_ov ge_b812 ge_b824 ni_a_ia ni_a_la ni_a_si ni_a_ov ne_b799_b812 ne_b799_b824 ni_ia_la ni_ia_si ni_ia_ov ne_ia811_b812 ne_ia811_b824 ni_la_si ni_la_ov ne_la811_b812 ne_la811_b824 ni_si_ov ne_si811_b812 ne_si811_b824 ne_ov811_b812 ne_ov811_b824 ne_b812_b824 (by decide) (by decide) (by decide) (by decide) (by decide)) hZ (hw _ (List.mem_of_getElem? (i := 44) rfl)) (hw _ (List.mem_of_getElem? (i := 2) rfl)) (by decide) (by decide)) q921a q921c (g := (mkF m 156 #[.val (.int p0), .val (.int p1), .val (.long q2), .second, .val (.long q3), .second, .val (.int p4), .val (.int p5), .val (.int (1 : Int32)), .val (.int (1 : Int32)), .val (.ref b799), .val (.ref b812), .val (.ref b815), .val (.ref b824), .val (.ref b834), .val (.int (1 : Int32)), .unset] [(.int p0), (.int (1 : Int32)), (.ref b824), (.ref b812), (.ref b799)])) rfl (by rw [hml]; rfl) (Steps.refl _) (argsL := [(.ref b812), (.ref b824), (.int (1 : Int32)), (.int p0)]) (rest := []) (lenOf pd_1 rfl) rfl (by show 2 * 0 + _ ≤ _; exact Nat.le_of_eq rfl) (hb hby at_156) (fun _ _ => ⟨rfl, rfl, (by decide : 11 + 0 ≤ _), (by decide : 306 + 0 ≤ _)⟩)
      dsimp only [Pt.U, Pt.locs, Pt.cells, Pt.slots] at X921 l921 y921 z921 st921 hQ921
      rw [l921, y921, z921] at X921
      replace X921 : Stand p l e room_1 s m #[(.int p0), (.int p1), (.long q2), (.long q3), (.int p4), (.int p5)] below meth c T921 _ 11 306 := X921
      obtain ⟨rfl, Nq921, oK921, oFaintArrays921, oFalongArrays921, oFaslotIndices921, oFaoldValues921, oFalevelStarts921, oFaouterStamps921, oFalevel921, oFastamp921, oFalastStamp921, oFaentries921, oAia921, oAla921, oAsi921, oAov921, oAar921, oAmk921⟩ := hQ921
      have N921 := Fr.app N915 Nq921
      have k922 : ∀ tg_, Steps p.tables e below (T921.setTop (mkF m 161 #[.val (.int p0), .val (.int p1), .val (.long q2), .second, .val (.long q3), .second, .val (.int p4), .val (.int p5), .val (.int (1 : Int32)), .val (.int (1 : Int32)), .val (.ref b799), .val (.ref b812), .val (.ref b815), .val (.ref b824), .val (.ref b834), .val (.int (1 : Int32)), .unset] [(.ref b799)])) tg_ → Steps p.tables e below (s₁.setTop (entryFrame m #[(.int p0), (.int p1), (.long q2), (.long q3), (.int p4), (.int p5)] maxLocals)) tg_ := by
        intro tg_ kt
        refine k880 tg_ ?_
        refine XS.aload X879.here hx rfl (hb hby at_111) rfl rfl ?_
        show Steps p.tables e below (T879.setTop (mkF m 113 #[.val (.int p0), .val (.int p1), .val (.long q2), .second, .val (.long q3), .second, .val (.int p4), .val (.int p5), .val (.int (1 : Int32)), .val (.int (1 : Int32)), .val (.ref b799), .val (.ref b812), .val (.ref b815), .val (.ref b824), .val (.ref b834), .unset, .unset] [(.ref b799)])) _
        refine XS.aload X879.here hx rfl (hb hby at_113) rfl rfl ?_
        show Steps p.tables e below (T879.setTop (mkF m 115 #[.val (.int p0), .val (.int p1), .val (.long q2), .second, .val (.long q3), .second, .val (.int p4), .val (.int p5), .val (.int (1 : Int32)), .val (.int (1 : Int32)), .val (.ref b799), .val (.ref b812), .val (.ref b815), .val (.ref b824), .val (.ref b834), .unset, .unset] [(.ref b815), (.ref b799)])) _
        refine XS.aload X879.here hx rfl (hb hby at_115) rfl rfl ?_
        show Steps p.tables e below (T879.setTop (mkF m 117 #[.val (.int p0), .val (.int p1), .val (.long q2), .second, .val (.long q3), .second, .val (.int p4), .val (.int p5), .val (.int (1 : Int32)), .val (.int (1 : Int32)), .val (.ref b799), .val (.ref b812), .val (.ref b815), .val (.ref b824), .val (.ref b834), .unset, .unset] [(.ref b834), (.ref b815), (.ref b799)])) _
        refine XS.iconst X879.here hx rfl (hb hby at_117) ?_
        show Steps p.tables e below (T879.setTop (mkF m 118 #[.val (.int p0), .val (.int p1), .val (.long q2), .second, .val (.long q3), .second, .val (.int p4), .val (.int p5), .val (.int (1 : Int32)), .val (.int (1 : Int32)), .val (.ref b799), .val (.ref b812), .val (.ref b815), .val (.ref b824), .val (.ref b834), .unset, .unset] [(.int (1 : Int32)), (.ref b834), (.ref b815), (.ref b799)])) _
        refine XS.lloadN X879.here hx rfl (hb hby at_118) rfl ?_
        show Steps p.tables e below (T879.setTop (mkF m 119 #[.val (.int p0), .val (.int p1), .val (.long q2), .second, .val (.long q3), .second, .val (.int p4), .val (.int p5), .val (.int (1 : Int32)), .val (.int (1 : Int32)), .val (.ref b799), .val (.ref b812), .val (.ref b815), .val (.ref b824), .val (.ref b834), .unset, .unset] [(.long q2), (.int (1 : Int32)), (.ref b834), (.ref b815), (.ref b799)])) _
        refine st900.trans ?_
        show Steps p.tables e below (T900.setTop (mkF m 122 #[.val (.int p0), .val (.int p1), .val (.long q2), .second, .val (.long q3), .second, .val (.int p4), .val (.int p5), .val (.int (1 : Int32)), .val (.int (1 : Int32)), .val (.ref b799), .val (.ref b812), .val (.ref b815), .val (.ref b824), .val (.ref b834), .unset, .unset] [])) _
        refine XS.iconst X900.here hx rfl (hb hby at_122) ?_
        show Steps p.tables e below (T900.setTop (mkF m 123 #[.val (.int p0), .val (.int p1), .val (.long q2), .second, .val (.long q3), .second, .val (.int p4), .val (.int p5), .val (.int (1 : Int32)), .val (.int (1 : Int32)), .val (.ref b799), .val (.ref b812), .val (.ref b815), .val (.ref b824), .val (.ref b834), .unset, .unset] [(.int (1 : Int32))])) _
        refine XS.istore X900.here hx rfl (hb hby at_123) rfl (l' := #[.val (.int p0), .val (.int p1), .val (.long q2), .second, .val (.long q3), .second, .val (.int p4), .val (.int p5), .val (.int (1 : Int32)), .val (.int (1 : Int32)), .val (.ref b799), .val (.ref b812), .val (.ref b815), .val (.ref b824), .val (.ref b834), .val (.int (1 : Int32)), .unset]) rfl ?_
        show Steps p.tables e below (T900.setTop (mkF m 125 #[.val (.int p0), .val (.int p1), .val (.long q2), .second, .val (.long q3), .second, .val (.int p4), .val (.int p5), .val (.int (1 : Int32)), .val (.int (1 : Int32)), .val (.ref b799), .val (.ref b812), .val (.ref b815), .val (.ref b824), .val (.ref b834), .val (.int (1 : Int32)), .unset] [])) _
        refine XS.iload X900.here hx rfl (hb hby at_125) rfl ?_
        show Steps p.tables e below (T900.setTop (mkF m 127 #[.val (.int p0), .val (.int p1), .val (.long q2), .second, .val (.long q3), .second, .val (.int p4), .val (.int p5), .val (.int (1 : Int32)), .val (.int (1 : Int32)), .val (.ref b799), .val (.ref b812), .val (.ref b815), .val (.ref b824), .val (.ref b834), .val (.int (1 : Int32)), .unset] [(.int (1 : Int32))])) _
        refine XS.ifNo X900.here hx rfl (hb hby at_127) rfl ((if0 _ _).trans (feq (by decide : ¬ ((1 : Int32) = (0 : Int32)))).1) ?_
        show Steps p.tables e below (T900.setTop (mkF m 130 #[.val (.int p0), .val (.int p1), .val (.long q2), .second, .val (.long q3), .second, .val (.int p4), .val (.int p5), .val (.int (1 : Int32)), .val (.int (1 : Int32)), .val (.ref b799), .val (.ref b812), .val (.ref b815), .val (.ref b824), .val (.ref b834), .val (.int (1 : Int32)), .unset] [])) _
        refine XS.aload X900.here hx rfl (hb hby at_130) rfl rfl ?_
        show Steps p.tables e below (T900.setTop (mkF m 132 #[.val (.int p0), .val (.int p1), .val (.long q2), .second, .val (.long q3), .second, .val (.int p4), .val (.int p5), .val (.int (1 : Int32)), .val (.int (1 : Int32)), .val (.ref b799), .val (.ref b812), .val (.ref b815), .val (.ref b824), .val (.ref b834), .val (.int (1 : Int32)), .unset] [(.ref b799)])) _
        refine st905.trans ?_
        show Steps p.tables e below (T905.setTop (mkF m 135 #[.val (.int p0), .val (.int p1), .val (.long q2), .second, .val (.long q3), .second, .val (.int p4), .val (.int p5), .val (.int (1 : Int32)), .val (.int (1 : Int32)), .val (.ref b799), .val (.ref b812), .val (.ref b815), .val (.ref b824), .val (.ref b834), .val (.int (1 : Int32)), .unset] [])) _
        refine XS.aload X905.here hx rfl (hb hby at_135) rfl rfl ?_
        show Steps p.tables e below (T905.setTop (mkF m 137 #[.val (.int p0), .val (.int p1), .val (.long q2), .second, .val (.long q3), .second, .val (.int p4), .val (.int p5), .val (.int (1 : Int32)), .val (.int (1 : Int32)), .val (.ref b799), .val (.ref b812), .val (.ref b815), .val (.ref b824), .val (.ref b834), .val (.int (1 : Int32)), .unset] [(.ref b799)])) _
        refine XS.aload X905.here hx rfl (hb hby at_137) rfl rfl ?_
        show Steps p.tables e below (T905.setTop (mkF m 139 #[.val (.int p0), .val (.int p1), .val (.long q2), .second, .val (.long q3), .second, .val (.int p4), .val (.int p5), .val (.int (1 : Int32)), .val (.int (1 : Int32)), .val (.ref b799), .val (.ref b812), .val (.ref b815), .val (.ref b824), .val (.ref b834), .val (.int (1 : Int32)), .unset] [(.ref b815), (.ref b799)])) _
        refine XS.aload X905.here hx rfl (hb hby at_139) rfl rfl ?_
        show Steps p.tables e below (T905.setTop (mkF m 141 #[.val (.int p0), .val (.int p1), .val (.long q2), .second, .val (.long q3), .second, .val (.int p4), .val (.int p5), .val (.int (1 : Int32)), .val (.int (1 : Int32)), .val (.ref b799), .val (.ref b812), .val (.ref b815), .val (.ref b824), .val (.ref b834), .val (.int (1 : Int32)), .unset] [(.ref b834), (.ref b815), (.ref b799)])) _
        refine XS.iconst X905.here hx rfl (hb hby at_141) ?_
        show Steps p.tables e below (T905.setTop (mkF m 142 #[.val (.int p0), .val (.int p1), .val (.long q2), .second, .val (.long q3), .second, .val (.int p4), .val (.int p5), .val (.int (1 : Int32)), .val (.int (1 : Int32)), .val (.ref b799), .val (.ref b812), .val (.ref b815), .val (.ref b824), .val (.ref b834), .val (.int (1 : Int32)), .unset] [(.int (1 : Int32)), (.ref b834), (.ref b815), (.ref b799)])) _
        refine XS.iload X905.here hx rfl (hb hby at_142) rfl ?_
        show Steps p.tables e below (T905.setTop (mkF m 144 #[.val (.int p0), .val (.int p1), .val (.long q2), .second, .val (.long q3), .second, .val (.int p4), .val (.int p5), .val (.int (1 : Int32)), .val (.int (1 : Int32)), .val (.ref b799), .val (.ref b812), .val (.ref b815), .val (.ref b824), .val (.ref b834), .val (.int (1 : Int32)), .unset] [(.int p4), (.int (1 : Int32)), (.ref b834), (.ref b815), (.ref b799)])) _
        refine XS.i2l X905.here hx rfl (hb hby at_144) rfl ?_
        show Steps p.tables e below (T905.setTop (mkF m 145 #[.val (.int p0), .val (.int p1), .val (.long q2), .second, .val (.long q3), .second, .val (.int p4), .val (.int p5), .val (.int (1 : Int32)), .val (.int (1 : Int32)), .val (.ref b799), .val (.ref b812), .val (.ref b815), .val (.ref b824), .val (.ref b834), .val (.int (1 : Int32)), .unset] [(.long (p4.toInt64)), (.int (1 : Int32)), (.ref b834), (.ref b815), (.ref b799)])) _
        refine st915.trans ?_
        show Steps p.tables e below (T915.setTop (mkF m 148 #[.val (.int p0), .val (.int p1), .val (.long q2), .second, .val (.long q3), .second, .val (.int p4), .val (.int p5), .val (.int (1 : Int32)), .val (.int (1 : Int32)), .val (.ref b799), .val (.ref b812), .val (.ref b815), .val (.ref b824), .val (.ref b834), .val (.int (1 : Int32)), .unset] [])) _
        refine XS.aload X915.here hx rfl (hb hby at_148) rfl rfl ?_
        show Steps p.tables e below (T915.setTop (mkF m 150 #[.val (.int p0), .val (.int p1), .val (.long q2), .second, .val (.long q3), .second, .val (.int p4), .val (.int p5), .val (.int (1 : Int32)), .val (.int (1 : Int32)), .val (.ref b799), .val (.ref b812), .val (.ref b815), .val (.ref b824), .val (.ref b834), .val (.int (1 : Int32)), .unset] [(.ref b799)])) _
        refine XS.aload X915.here hx rfl (hb hby at_150) rfl rfl ?_
        show Steps p.tables e below (T915.setTop (mkF m 152 #[.val (.int p0), .val (.int p1), .val (.long q2), .second, .val (.long q3), .second, .val (.int p4), .val (.int p5), .val (.int (1 : Int32)), .val (.int (1 : Int32)), .val (.ref b799), .val (.ref b812), .val (.ref b815), .val (.ref b824), .val (.ref b834), .val (.int (1 : Int32)), .unset] [(.ref b812), (.ref b799)])) _
        refine XS.aload X915.here hx rfl (hb hby at_152) rfl rfl ?_
        show Steps p.tables e below (T915.setTop (mkF m 154 #[.val (.int p0), .val (.int p1), .val (.long q2), .second, .val (.long q3), .second, .val (.int p4), .val (.int p5), .val (.int (1 : Int32)), .val (.int (1 : Int32)), .val (.ref b799), .val (.ref b812), .val (.ref b815), .val (.ref b824), .val (.ref b834), .val (.int (1 : Int32)), .unset] [(.ref b824), (.ref b812), (.ref b799)])) _
        refine XS.iconst X915.here hx rfl (hb hby at_154) ?_
        show Steps p.tables e below (T915.setTop (mkF m 155 #[.val (.int p0), .val (.int p1), .val (.long q2), .second, .val (.long q3), .second, .val (.int p4), .val (.int p5), .val (.int (1 : Int32)), .val (.int (1 : Int32)), .val (.ref b799), .val (.ref b812), .val (.ref b815), .val (.ref b824), .val (.ref b834), .val (.int (1 : Int32)), .unset] [(.int (1 : Int32)), (.ref b824), (.ref b812), (.ref b799)])) _
        refine XS.iloadN X915.here hx rfl (hb hby at_155) rfl ?_
        show Steps p.tables e below (T915.setTop (mkF m 156 #[.val (.int p0), .val (.int p1), .val (.long q2), .second, .val (.long q3), .second, .val (.int p4), .val (.int p5), .val (.int (1 : Int32)), .val (.int (1 : Int32)), .val (.ref b799), .val (.ref b812), .val (.ref b815), .val (.ref b824), .val (.ref b834), .val (.int (1 : Int32)), .unset] [(.int p0), (.int (1 : Int32)), (.ref b824), (.ref b812), (.ref b799)])) _
        refine st921.trans ?_
        show Steps p.tables e below (T921.setTop (mkF m 159 #[.val (.int p0), .val (.int p1), .val (.long q2), .second, .val (.long q3), .second, .val (.int p4), .val (.int p5), .val (.int (1 : Int32)), .val (.int (1 : Int32)), .val (.ref b799), .val (.ref b812), .val (.ref b815), .val (.ref b824), .val (.ref b834), .val (.int (1 : Int32)), .unset] [])) _
        refine XS.aload X921.here hx rfl (hb hby at_159) rfl rfl ?_
        show Steps p.tables e below (T921.setTop (mkF m 161 #[.val (.int p0), .val (.int p1), .val (.long q2), .second, .val (.long q3), .second, .val (.int p4), .val (.int p5), .val (.int (1 : Int32)), .val (.int (1 : Int32)), .val (.ref b799), .val (.ref b812), .val (.ref b815), .val (.ref b824), .val (.ref b834), .val (.int (1 : Int32)), .unset] [(.ref b799)])) _
        exact kt
      have f923 := (Nat.le_trans f916 oK921.1)
      have f924 := (f917.keep oK921)
      have f925 := ((oAls905.keep oK915 (ninS (Ne.symm ni_a_ls) (ninS (Ne.symm ni_ia_ls) (ninS (Ne.symm ni_la_ls) (ninS (Ne.symm ni_si_ls) (ninS (Ne.symm ni_ov_ls) (ninS ne_ls811_b815 (ninS ne_ls811_b834 nin0)))))))).keep oK921 (ninS (Ne.symm ni_a_ls) (ninS (Ne.symm ni_ia_ls) (ninS (Ne.symm ni_la_ls) (ninS (Ne.symm ni_si_ls) (ninS (Ne.symm ni_ov_ls) (ninS ne_ls811_b812 (ninS ne_ls811_b824 nin0))))))))
      have f926 := ((oAos905.keep oK915 (ninS (Ne.symm ni_a_os) (ninS (Ne.symm ni_ia_os) (ninS (Ne.symm ni_la_os) (ninS (Ne.symm ni_si_os) (ninS (Ne.symm ni_ov_os) (ninS ne_os811_b815 (ninS ne_os811_b834 nin0)))))))).keep oK921 (ninS (Ne.symm ni_a_os) (ninS (Ne.symm ni_ia_os) (ninS (Ne.symm ni_la_os) (ninS (Ne.symm ni_si_os) (ninS (Ne.symm ni_ov_os) (ninS ne_os811_b812 (ninS ne_os811_b824 nin0))))))))
      have f927 := (oAar915.keep oK921 (ninS (Ne.symm ne_b799_b815) (ninS (Ne.symm ne_ia811_b815) (ninS (Ne.symm ne_la811_b815) (ninS (Ne.symm ne_si811_b815) (ninS (Ne.symm ne_ov811_b815) (ninS (Ne.symm ne_b812_b815) (ninS ne_b815_b824 nin0))))))))
      obtain ⟨cq928, kq928, q928a, q928b, q928c⟩ := isOf hZ rfl f924
      obtain ⟨_, _, ⟨T928, L928, kc928, nc928⟩, -, X928, ⟨Lc928, hQ928, l928, y928, z928⟩, st928⟩ := X921.virtualBack hx (y := (⟨"com/example/tablewise/tablewise/propagation/Trail", "closeLevel", "()V"⟩ : MethodName)) (z := (⟨"com/example/tablewise/tablewise/propagation/Trail", "closeLevel", "()V"⟩ : MethodName)) hown (mvT hZ (hw _ (List.mem_of_getElem? (i := 56) rfl))) (mvT hZ (hw _ (List.mem_of_getElem? (i := 57) rfl))) (notFace_of_selects (args := #[]) (mvT hZ (hw _ (List.mem_of_getElem? (i := 59) rfl)))) (mvT hZ (hw _ (List.mem_of_getElem? (i := 59) rfl))) (mvT hZ (hw _ (List.mem_of_getElem? (i := 58) rfl))) (by decide) (backOf (W := 0) (rmclA l Z a0 hw [] b799 ia811 la811 si811 ov811 ls811 os811 (((((0 : Int32) + (1 : Int32)) + (1 : Int32)) + (1 : Int32)) + (1 : Int32)) (((0 : Int32) + (1 : Int32)) + (1 : Int32)) (((0 : Int64) + (1 : Int64)) + (1 : Int64)) (((0 : Int64) + (1 : Int64)) + (1 : Int64)) (own_upd (own_upd (own_upd (own_upd (fun _ => .null) 0 (.ref b812)) 1 .null) 2 .null) 3 (.ref b812)) (own_upd (own_upd (own_upd (own_upd (fun _ => .null) 0 .null) 1 (.ref b815)) 2 (.ref b815)) 3 .null) (own_upd (own_upd (own_upd (own_upd (fun _ => 0) 0 (0 : Int32)) 1 (1 : Int32)) 2 (1 : Int32)) 3 (1 : Int32)) (own_upd (own_upd (own_upd (own_upd (fun _ => 0) 0 (((own_upd (own_upd (fun _ => 0) 0 p0) 1 p1) 0).toInt64)) 1 ((own_upd (own_upd (fun _ => 0) 0 q2) 1 q3) 1)) 2 ((own_upd (own_upd (own_upd (fun _ => 0) 0 q2) 1 q3) 1 q2) 1)) 3 (((own_upd (own_upd (own_upd (own_upd (fun _ => 0) 0 p0) 1 p1) 0 p1) 0 p4) 1).toInt64)) b812 b815 1 (own_upd (own_upd (fun _ => 0) 0 (0 : Int32)) 1 (((0 : Int32) + (1 : Int32)) + (1 : Int32))) (own_upd (own_upd (fun _ => 0) 0 (0 : Int64)) 1 ((0 : Int64) + (1 : Int64))) (own_upd (own_upd (own_upd (own_upd (own_upd (fun _ => 0) 0 p0) 1 p1) 0 p1) 0 p4) 1 p0) (own_upd (own_upd (own_upd (own_upd (fun _ => 0) 0 q2) 1 q3) 1 q2) 1 (p4.toInt64)) T921.heap n0 f923 f924 oFaintArrays921 oFalongArrays921 oFaslotIndices921 oFaoldValues921 oFaentries921 oFalevelStarts921 oFaouterStamps921 oFalevel921 oFastamp921 oFalastStamp921 oAia921 oAla921 oAsi921 oAov921 f925 f926 oAar921 f927 ge_b799 gi_ia gi_la ge_b812 ge_b815 ni_a_ia ni_a_la ni_a_si ni_a_ov ni_a_ls ni_a_os ne_b799_b812 ne_b799_b815 ni_ia_la ni_ia_si ni_ia_ov ni_ia_ls ni_ia_os ne_ia811_b812 ne_ia811_b815 ni_la_si ni_la_ov ni_la_ls ni_la_os ne_la811_b812 ne_la811_b815 ni_si_ov ni_si_ls ni_si_os ne_si811_b812 ne_si811_b815 ni_ov_ls ni_ov_os ne_ov811_b812 ne_ov811_b815 ni_ls_os ne_ls811_b812 ne_ls811_b815 ne_os811_b812 ne_os811_b815 ne_b812_b815 (by decide) (by decide) (by decide) (by decide) rfl rfl rfl rfl rfl) hZ (hw _ (List.mem_of_getElem? (i := 60) rfl)) (hw _ (List.mem_of_getElem? (i := 2) rfl)) (by decide) (by decide)) q928a q928c (g := (mkF m 161 #[.val (.int p0), .val (.int p1), .val (.long q2), .second, .val (.long q3), .second, .val (.int p4), .val (.int p5), .val (.int (1 : Int32)), .val (.int (1 : Int32)), .val (.ref b799), .val (.ref b812), .val (.ref b815), .val (.ref b824), .val (.ref b834), .val (.int (1 : Int32)), .unset] [(.ref b799)])) rfl (by rw [hml]; rfl) (Steps.refl _) (argsL := []) (rest := []) (lenOf pd_0 rfl) rfl (by show 2 * 0 + _ ≤ _; exact Nat.le_of_eq rfl) (hb hby at_161) (fun _ _ => ⟨rfl, rfl, (by decide : 11 + 0 ≤ _), (by decide : 306 + 0 ≤ _)⟩)
      dsimp only [Pt.U, Pt.locs, Pt.cells, Pt.slots] at X928 l928 y928 z928 st928 hQ928
      rw [l928, y928, z928] at X928
      replace X928 : Stand p l e room_1 s m #[(.int p0), (.int p1), (.long q2), (.long q3), (.int p4), (.int p5)] below meth c T928 _ 11 306 := X928
      obtain ⟨rfl, Nq928, oK928, oFaintArrays928, oFalongArrays928, oFaslotIndices928, oFaoldValues928, oFalevelStarts928, oFaouterStamps928, oFalastStamp928, oFaentries928, oFalevel928, oFastamp928, oAia928, oAla928, oAxi928, oAxj928⟩ := hQ928
      have N928 := Fr.app N921 Nq928
      have hc183_929 : p4 = p4 := rfl
      have hc191_930 : p1 = p1 := rfl
      have hc200_931 : q2 = q2 := rfl
      have k932 : ∀ tg_, Steps p.tables e below (T928.setTop (mkF m 208 #[.val (.int p0), .val (.int p1), .val (.long q2), .second, .val (.long q3), .second, .val (.int p4), .val (.int p5), .val (.int (1 : Int32)), .val (.int (1 : Int32)), .val (.ref b799), .val (.ref b812), .val (.ref b815), .val (.ref b824), .val (.ref b834), .val (.int (1 : Int32)), .val (.int p4)] [(.long q2), (.long q2)])) tg_ → Steps p.tables e below (s₁.setTop (entryFrame m #[(.int p0), (.int p1), (.long q2), (.long q3), (.int p4), (.int p5)] maxLocals)) tg_ := by
        intro tg_ kt
        refine k922 tg_ ?_
        refine st928.trans ?_
        show Steps p.tables e below (T928.setTop (mkF m 164 #[.val (.int p0), .val (.int p1), .val (.long q2), .second, .val (.long q3), .second, .val (.int p4), .val (.int p5), .val (.int (1 : Int32)), .val (.int (1 : Int32)), .val (.ref b799), .val (.ref b812), .val (.ref b815), .val (.ref b824), .val (.ref b834), .val (.int (1 : Int32)), .unset] [])) _
        refine XS.iload X928.here hx rfl (hb hby at_164) rfl ?_
        show Steps p.tables e below (T928.setTop (mkF m 166 #[.val (.int p0), .val (.int p1), .val (.long q2), .second, .val (.long q3), .second, .val (.int p4), .val (.int p5), .val (.int (1 : Int32)), .val (.int (1 : Int32)), .val (.ref b799), .val (.ref b812), .val (.ref b815), .val (.ref b824), .val (.ref b834), .val (.int (1 : Int32)), .unset] [(.int (1 : Int32))])) _
        refine XS.ifNo X928.here hx rfl (hb hby at_166) rfl ((if0 _ _).trans (feq (by decide : ¬ ((1 : Int32) = (0 : Int32)))).1) ?_
        show Steps p.tables e below (T928.setTop (mkF m 169 #[.val (.int p0), .val (.int p1), .val (.long q2), .second, .val (.long q3), .second, .val (.int p4), .val (.int p5), .val (.int (1 : Int32)), .val (.int (1 : Int32)), .val (.ref b799), .val (.ref b812), .val (.ref b815), .val (.ref b824), .val (.ref b834), .val (.int (1 : Int32)), .unset] [])) _
        refine XS.iload X928.here hx rfl (hb hby at_169) rfl ?_
        show Steps p.tables e below (T928.setTop (mkF m 171 #[.val (.int p0), .val (.int p1), .val (.long q2), .second, .val (.long q3), .second, .val (.int p4), .val (.int p5), .val (.int (1 : Int32)), .val (.int (1 : Int32)), .val (.ref b799), .val (.ref b812), .val (.ref b815), .val (.ref b824), .val (.ref b834), .val (.int (1 : Int32)), .unset] [(.int p4)])) _
        refine XS.goto X928.here hx rfl (pc0 := 171) (pc' := 175) rfl (hb hby at_171) (by decide) (by decide) ?_
        show Steps p.tables e below (T928.setTop (mkF m 175 #[.val (.int p0), .val (.int p1), .val (.long q2), .second, .val (.long q3), .second, .val (.int p4), .val (.int p5), .val (.int (1 : Int32)), .val (.int (1 : Int32)), .val (.ref b799), .val (.ref b812), .val (.ref b815), .val (.ref b824), .val (.ref b834), .val (.int (1 : Int32)), .unset] [(.int p4)])) _
        refine XS.istore X928.here hx rfl (hb hby at_175) rfl (l' := #[.val (.int p0), .val (.int p1), .val (.long q2), .second, .val (.long q3), .second, .val (.int p4), .val (.int p5), .val (.int (1 : Int32)), .val (.int (1 : Int32)), .val (.ref b799), .val (.ref b812), .val (.ref b815), .val (.ref b824), .val (.ref b834), .val (.int (1 : Int32)), .val (.int p4)]) rfl ?_
        show Steps p.tables e below (T928.setTop (mkF m 177 #[.val (.int p0), .val (.int p1), .val (.long q2), .second, .val (.long q3), .second, .val (.int p4), .val (.int p5), .val (.int (1 : Int32)), .val (.int (1 : Int32)), .val (.ref b799), .val (.ref b812), .val (.ref b815), .val (.ref b824), .val (.ref b834), .val (.int (1 : Int32)), .val (.int p4)] [])) _
        refine XS.aload X928.here hx rfl (hb hby at_177) rfl rfl ?_
        show Steps p.tables e below (T928.setTop (mkF m 179 #[.val (.int p0), .val (.int p1), .val (.long q2), .second, .val (.long q3), .second, .val (.int p4), .val (.int p5), .val (.int (1 : Int32)), .val (.int (1 : Int32)), .val (.ref b799), .val (.ref b812), .val (.ref b815), .val (.ref b824), .val (.ref b834), .val (.int (1 : Int32)), .val (.int p4)] [(.ref b812)])) _
        refine XS.iconst X928.here hx rfl (hb hby at_179) ?_
        show Steps p.tables e below (T928.setTop (mkF m 180 #[.val (.int p0), .val (.int p1), .val (.long q2), .second, .val (.long q3), .second, .val (.int p4), .val (.int p5), .val (.int (1 : Int32)), .val (.int (1 : Int32)), .val (.ref b799), .val (.ref b812), .val (.ref b815), .val (.ref b824), .val (.ref b834), .val (.int (1 : Int32)), .val (.int p4)] [(.int (0 : Int32)), (.ref b812)])) _
        refine own_ldI X928 hx hZ rfl oAxi928 (i := 0) (by decide : (0 : Int32).toInt = ((0 : Nat) : Int)) (by decide) rfl (g := (mkF m 180 #[.val (.int p0), .val (.int p1), .val (.long q2), .second, .val (.long q3), .second, .val (.int p4), .val (.int p5), .val (.int (1 : Int32)), .val (.int (1 : Int32)), .val (.ref b799), .val (.ref b812), .val (.ref b815), .val (.ref b824), .val (.ref b834), .val (.int (1 : Int32)), .val (.int p4)] [(.int (0 : Int32)), (.ref b812)])) rfl rfl (hb hby at_180) _ ?_
        show Steps p.tables e below (T928.setTop (mkF m 181 #[.val (.int p0), .val (.int p1), .val (.long q2), .second, .val (.long q3), .second, .val (.int p4), .val (.int p5), .val (.int (1 : Int32)), .val (.int (1 : Int32)), .val (.ref b799), .val (.ref b812), .val (.ref b815), .val (.ref b824), .val (.ref b834), .val (.int (1 : Int32)), .val (.int p4)] [(.int p4)])) _
        refine XS.iload X928.here hx rfl (hb hby at_181) rfl ?_
        show Steps p.tables e below (T928.setTop (mkF m 183 #[.val (.int p0), .val (.int p1), .val (.long q2), .second, .val (.long q3), .second, .val (.int p4), .val (.int p5), .val (.int (1 : Int32)), .val (.int (1 : Int32)), .val (.ref b799), .val (.ref b812), .val (.ref b815), .val (.ref b824), .val (.ref b834), .val (.int (1 : Int32)), .val (.int p4)] [(.int p4), (.int p4)])) _
        refine XS.icmpNo X928.here hx rfl (hb hby at_183) rfl (teq hc183_929).2 ?_
        show Steps p.tables e below (T928.setTop (mkF m 186 #[.val (.int p0), .val (.int p1), .val (.long q2), .second, .val (.long q3), .second, .val (.int p4), .val (.int p5), .val (.int (1 : Int32)), .val (.int (1 : Int32)), .val (.ref b799), .val (.ref b812), .val (.ref b815), .val (.ref b824), .val (.ref b834), .val (.int (1 : Int32)), .val (.int p4)] [])) _
        refine XS.aload X928.here hx rfl (hb hby at_186) rfl rfl ?_
        show Steps p.tables e below (T928.setTop (mkF m 188 #[.val (.int p0), .val (.int p1), .val (.long q2), .second, .val (.long q3), .second, .val (.int p4), .val (.int p5), .val (.int (1 : Int32)), .val (.int (1 : Int32)), .val (.ref b799), .val (.ref b812), .val (.ref b815), .val (.ref b824), .val (.ref b834), .val (.int (1 : Int32)), .val (.int p4)] [(.ref b812)])) _
        refine XS.iconst X928.here hx rfl (hb hby at_188) ?_
        show Steps p.tables e below (T928.setTop (mkF m 189 #[.val (.int p0), .val (.int p1), .val (.long q2), .second, .val (.long q3), .second, .val (.int p4), .val (.int p5), .val (.int (1 : Int32)), .val (.int (1 : Int32)), .val (.ref b799), .val (.ref b812), .val (.ref b815), .val (.ref b824), .val (.ref b834), .val (.int (1 : Int32)), .val (.int p4)] [(.int (1 : Int32)), (.ref b812)])) _
        refine own_ldI X928 hx hZ rfl oAxi928 (i := 1) (by decide : (1 : Int32).toInt = ((1 : Nat) : Int)) (by decide) (own_i2l p1) (g := (mkF m 189 #[.val (.int p0), .val (.int p1), .val (.long q2), .second, .val (.long q3), .second, .val (.int p4), .val (.int p5), .val (.int (1 : Int32)), .val (.int (1 : Int32)), .val (.ref b799), .val (.ref b812), .val (.ref b815), .val (.ref b824), .val (.ref b834), .val (.int (1 : Int32)), .val (.int p4)] [(.int (1 : Int32)), (.ref b812)])) rfl rfl (hb hby at_189) _ ?_
        show Steps p.tables e below (T928.setTop (mkF m 190 #[.val (.int p0), .val (.int p1), .val (.long q2), .second, .val (.long q3), .second, .val (.int p4), .val (.int p5), .val (.int (1 : Int32)), .val (.int (1 : Int32)), .val (.ref b799), .val (.ref b812), .val (.ref b815), .val (.ref b824), .val (.ref b834), .val (.int (1 : Int32)), .val (.int p4)] [(.int p1)])) _
        refine XS.iloadN X928.here hx rfl (hb hby at_190) rfl ?_
        show Steps p.tables e below (T928.setTop (mkF m 191 #[.val (.int p0), .val (.int p1), .val (.long q2), .second, .val (.long q3), .second, .val (.int p4), .val (.int p5), .val (.int (1 : Int32)), .val (.int (1 : Int32)), .val (.ref b799), .val (.ref b812), .val (.ref b815), .val (.ref b824), .val (.ref b834), .val (.int (1 : Int32)), .val (.int p4)] [(.int p1), (.int p1)])) _
        refine XS.icmpNo X928.here hx rfl (hb hby at_191) rfl (teq hc191_930).2 ?_
        show Steps p.tables e below (T928.setTop (mkF m 194 #[.val (.int p0), .val (.int p1), .val (.long q2), .second, .val (.long q3), .second, .val (.int p4), .val (.int p5), .val (.int (1 : Int32)), .val (.int (1 : Int32)), .val (.ref b799), .val (.ref b812), .val (.ref b815), .val (.ref b824), .val (.ref b834), .val (.int (1 : Int32)), .val (.int p4)] [])) _
        refine XS.aload X928.here hx rfl (hb hby at_194) rfl rfl ?_
        show Steps p.tables e below (T928.setTop (mkF m 196 #[.val (.int p0), .val (.int p1), .val (.long q2), .second, .val (.long q3), .second, .val (.int p4), .val (.int p5), .val (.int (1 : Int32)), .val (.int (1 : Int32)), .val (.ref b799), .val (.ref b812), .val (.ref b815), .val (.ref b824), .val (.ref b834), .val (.int (1 : Int32)), .val (.int p4)] [(.ref b815)])) _
        refine XS.iconst X928.here hx rfl (hb hby at_196) ?_
        show Steps p.tables e below (T928.setTop (mkF m 197 #[.val (.int p0), .val (.int p1), .val (.long q2), .second, .val (.long q3), .second, .val (.int p4), .val (.int p5), .val (.int (1 : Int32)), .val (.int (1 : Int32)), .val (.ref b799), .val (.ref b812), .val (.ref b815), .val (.ref b824), .val (.ref b834), .val (.int (1 : Int32)), .val (.int p4)] [(.int (0 : Int32)), (.ref b815)])) _
        refine own_ldJ X928 hx hZ rfl oAxj928 (i := 0) (by decide : (0 : Int32).toInt = ((0 : Nat) : Int)) (by decide) rfl (g := (mkF m 197 #[.val (.int p0), .val (.int p1), .val (.long q2), .second, .val (.long q3), .second, .val (.int p4), .val (.int p5), .val (.int (1 : Int32)), .val (.int (1 : Int32)), .val (.ref b799), .val (.ref b812), .val (.ref b815), .val (.ref b824), .val (.ref b834), .val (.int (1 : Int32)), .val (.int p4)] [(.int (0 : Int32)), (.ref b815)])) rfl rfl (hb hby at_197) _ ?_
        show Steps p.tables e below (T928.setTop (mkF m 198 #[.val (.int p0), .val (.int p1), .val (.long q2), .second, .val (.long q3), .second, .val (.int p4), .val (.int p5), .val (.int (1 : Int32)), .val (.int (1 : Int32)), .val (.ref b799), .val (.ref b812), .val (.ref b815), .val (.ref b824), .val (.ref b834), .val (.int (1 : Int32)), .val (.int p4)] [(.long q2)])) _
        refine XS.lloadN X928.here hx rfl (hb hby at_198) rfl ?_
        show Steps p.tables e below (T928.setTop (mkF m 199 #[.val (.int p0), .val (.int p1), .val (.long q2), .second, .val (.long q3), .second, .val (.int p4), .val (.int p5), .val (.int (1 : Int32)), .val (.int (1 : Int32)), .val (.ref b799), .val (.ref b812), .val (.ref b815), .val (.ref b824), .val (.ref b834), .val (.int (1 : Int32)), .val (.int p4)] [(.long q2), (.long q2)])) _
        refine XS.lcmp X928.here hx rfl (hb hby at_199) rfl ?_
        show Steps p.tables e below (T928.setTop (mkF m 200 #[.val (.int p0), .val (.int p1), .val (.long q2), .second, .val (.long q3), .second, .val (.int p4), .val (.int p5), .val (.int (1 : Int32)), .val (.int (1 : Int32)), .val (.ref b799), .val (.ref b812), .val (.ref b815), .val (.ref b824), .val (.ref b834), .val (.int (1 : Int32)), .val (.int p4)] [(.int (lcmpW q2 q2))])) _
        refine XS.ifNo X928.here hx rfl (hb hby at_200) rfl ((if0 _ _).trans (teq ((show ((lcmpW q2 q2) = 0) ↔ (q2 = q2) from lw_eq q2 q2).mpr hc200_931)).2) ?_
        show Steps p.tables e below (T928.setTop (mkF m 203 #[.val (.int p0), .val (.int p1), .val (.long q2), .second, .val (.long q3), .second, .val (.int p4), .val (.int p5), .val (.int (1 : Int32)), .val (.int (1 : Int32)), .val (.ref b799), .val (.ref b812), .val (.ref b815), .val (.ref b824), .val (.ref b834), .val (.int (1 : Int32)), .val (.int p4)] [])) _
        refine XS.aload X928.here hx rfl (hb hby at_203) rfl rfl ?_
        show Steps p.tables e below (T928.setTop (mkF m 205 #[.val (.int p0), .val (.int p1), .val (.long q2), .second, .val (.long q3), .second, .val (.int p4), .val (.int p5), .val (.int (1 : Int32)), .val (.int (1 : Int32)), .val (.ref b799), .val (.ref b812), .val (.ref b815), .val (.ref b824), .val (.ref b834), .val (.int (1 : Int32)), .val (.int p4)] [(.ref b815)])) _
        refine XS.iconst X928.here hx rfl (hb hby at_205) ?_
        show Steps p.tables e below (T928.setTop (mkF m 206 #[.val (.int p0), .val (.int p1), .val (.long q2), .second, .val (.long q3), .second, .val (.int p4), .val (.int p5), .val (.int (1 : Int32)), .val (.int (1 : Int32)), .val (.ref b799), .val (.ref b812), .val (.ref b815), .val (.ref b824), .val (.ref b834), .val (.int (1 : Int32)), .val (.int p4)] [(.int (1 : Int32)), (.ref b815)])) _
        refine own_ldJ X928 hx hZ rfl oAxj928 (i := 1) (by decide : (1 : Int32).toInt = ((1 : Nat) : Int)) (by decide) rfl (g := (mkF m 206 #[.val (.int p0), .val (.int p1), .val (.long q2), .second, .val (.long q3), .second, .val (.int p4), .val (.int p5), .val (.int (1 : Int32)), .val (.int (1 : Int32)), .val (.ref b799), .val (.ref b812), .val (.ref b815), .val (.ref b824), .val (.ref b834), .val (.int (1 : Int32)), .val (.int p4)] [(.int (1 : Int32)), (.ref b815)])) rfl rfl (hb hby at_206) _ ?_
        show Steps p.tables e below (T928.setTop (mkF m 207 #[.val (.int p0), .val (.int p1), .val (.long q2), .second, .val (.long q3), .second, .val (.int p4), .val (.int p5), .val (.int (1 : Int32)), .val (.int (1 : Int32)), .val (.ref b799), .val (.ref b812), .val (.ref b815), .val (.ref b824), .val (.ref b834), .val (.int (1 : Int32)), .val (.int p4)] [(.long q2)])) _
        refine XS.lloadN X928.here hx rfl (hb hby at_207) rfl ?_
        show Steps p.tables e below (T928.setTop (mkF m 208 #[.val (.int p0), .val (.int p1), .val (.long q2), .second, .val (.long q3), .second, .val (.int p4), .val (.int p5), .val (.int (1 : Int32)), .val (.int (1 : Int32)), .val (.ref b799), .val (.ref b812), .val (.ref b815), .val (.ref b824), .val (.ref b834), .val (.int (1 : Int32)), .val (.int p4)] [(.long q2), (.long q2)])) _
        exact kt
      have f934 := (f924.keep oK928)
      obtain ⟨cq933, kq933, q933a, q933b, q933c⟩ := isOf hZ rfl f934
      obtain ⟨_, _, ⟨T933, L933, kc933, nc933⟩, -, X933, ⟨Lc933, hQ933, l933, y933, z933⟩, st933⟩ := X928.virtualBack hx (y := (⟨"com/example/tablewise/tablewise/propagation/Trail", "level", "()I"⟩ : MethodName)) (z := (⟨"com/example/tablewise/tablewise/propagation/Trail", "level", "()I"⟩ : MethodName)) hown (mvT hZ (hw _ (List.mem_of_getElem? (i := 61) rfl))) (mvT hZ (hw _ (List.mem_of_getElem? (i := 62) rfl))) (notFace_of_selects (args := #[]) (mvT hZ (hw _ (List.mem_of_getElem? (i := 64) rfl)))) (mvT hZ (hw _ (List.mem_of_getElem? (i := 64) rfl))) (mvT hZ (hw _ (List.mem_of_getElem? (i := 63) rfl))) (by decide) (backOf (W := 0) (rm8 l Z a0 hw [] b799 ((((0 : Int32) + (1 : Int32)) + (1 : Int32)) - (1 : Int32)) T928.heap n0 oFalevel928) hZ (hw _ (List.mem_of_getElem? (i := 65) rfl)) (hw _ (List.mem_of_getElem? (i := 2) rfl)) (by decide) (by decide)) q933a q933c (g := (mkF m 214 #[.val (.int p0), .val (.int p1), .val (.long q2), .second, .val (.long q3), .second, .val (.int p4), .val (.int p5), .val (.int (1 : Int32)), .val (.int (1 : Int32)), .val (.ref b799), .val (.ref b812), .val (.ref b815), .val (.ref b824), .val (.ref b834), .val (.int (1 : Int32)), .val (.int p4)] [(.ref b799)])) rfl (by rw [hml]; rfl) (Steps.refl _) (argsL := []) (rest := []) (lenOf pd_4 rfl) rfl (by show 2 * 0 + _ ≤ _; exact Nat.le_of_eq rfl) (hb hby at_214) (fun _ _ => ⟨rfl, rfl, (by decide : 11 + 0 ≤ _), (by decide : 306 + 0 ≤ _)⟩)
      dsimp only [Pt.U, Pt.locs, Pt.cells, Pt.slots] at X933 l933 y933 z933 st933 hQ933
      rw [l933, y933, z933] at X933
      replace X933 : Stand p l e room_1 s m #[(.int p0), (.int p1), (.long q2), (.long q3), (.int p4), (.int p5)] below meth c T933 _ 11 306 := X933
      obtain ⟨rfl, Nq933, eq933⟩ := hQ933
      have N933 := Fr.app N928 Nq933
      have hc218_935 : ((((0 : Int32) + (1 : Int32)) + (1 : Int32)) - (1 : Int32)) = (1 : Int32) := (by decide)
      have f936 := (Nat.le_trans f923 oK928.1)
      have f937 := (((f908.keep oK915).keep oK921).keep oK928)
      have f938 := (oAsi921.keep oK928 (ninS (Ne.symm ni_a_si) (ninS (Ne.symm ni_ia_si) (ninS (Ne.symm ni_la_si) (ninS ne_si811_b812 (ninS ne_si811_b815 nin0))))))
      have f939 := (oAov921.keep oK928 (ninS (Ne.symm ni_a_ov) (ninS (Ne.symm ni_ia_ov) (ninS (Ne.symm ni_la_ov) (ninS ne_ov811_b812 (ninS ne_ov811_b815 nin0))))))
      have f940 := ((oAmk915.keep oK921 (ninS (Ne.symm ne_b799_b834) (ninS (Ne.symm ne_ia811_b834) (ninS (Ne.symm ne_la811_b834) (ninS (Ne.symm ne_si811_b834) (ninS (Ne.symm ne_ov811_b834) (ninS (Ne.symm ne_b812_b834) (ninS (Ne.symm ne_b824_b834) nin0)))))))).keep oK928 (ninS (Ne.symm ne_b799_b834) (ninS (Ne.symm ne_ia811_b834) (ninS (Ne.symm ne_la811_b834) (ninS (Ne.symm ne_b812_b834) (ninS (Ne.symm ne_b815_b834) nin0))))))
      obtain ⟨cq941, kq941, q941a, q941b, q941c⟩ := isOf hZ eq933 f934
      obtain ⟨_, _, ⟨T941, L941, kc941, nc941⟩, -, X941, ⟨Lc941, hQ941, l941, y941, z941⟩, st941⟩ := X933.virtualBack hx (y := (⟨"com/example/tablewise/tablewise/propagation/Trail", "set", "([J[JIJ)V"⟩ : MethodName)) (z := (⟨"com/example/tablewise/tablewise/propagation/Trail", "set", "([J[JIJ)V"⟩ : MethodName)) hown (mvT hZ (hw _ (List.mem_of_getElem? (i := 50) rfl))) (mvT hZ (hw _ (List.mem_of_getElem? (i := 51) rfl))) (notFace_of_selects (args := #[]) (mvT hZ (hw _ (List.mem_of_getElem? (i := 53) rfl)))) (mvT hZ (hw _ (List.mem_of_getElem? (i := 53) rfl))) (mvT hZ (hw _ (List.mem_of_getElem? (i := 52) rfl))) (by decide) (backOf (W := 0) (rmsetJr l Z a0 hw [] b799 b815 b834 (0 : Int32) q3 ia811 la811 si811 ov811 ls811 os811 (2 : Int32) ((((0 : Int32) + (1 : Int32)) + (1 : Int32)) - (1 : Int32)) ((own_upd (own_upd (fun _ => 0) 0 (0 : Int64)) 1 ((0 : Int64) + (1 : Int64))) 1) (((0 : Int64) + (1 : Int64)) + (1 : Int64)) 2 (own_upd (own_upd (own_upd (own_upd (own_upd (fun _ => .null) 0 (.ref b812)) 1 .null) 2 .null) 3 (.ref b812)) 3 .null) (own_upd (own_upd (own_upd (own_upd (own_upd (fun _ => .null) 0 .null) 1 (.ref b815)) 2 (.ref b815)) 3 .null) 2 .null) (own_upd (own_upd (own_upd (own_upd (fun _ => 0) 0 (0 : Int32)) 1 (1 : Int32)) 2 (1 : Int32)) 3 (1 : Int32)) (own_upd (own_upd (own_upd (own_upd (fun _ => 0) 0 (((own_upd (own_upd (fun _ => 0) 0 p0) 1 p1) 0).toInt64)) 1 ((own_upd (own_upd (fun _ => 0) 0 q2) 1 q3) 1)) 2 ((own_upd (own_upd (own_upd (fun _ => 0) 0 q2) 1 q3) 1 q2) 1)) 3 (((own_upd (own_upd (own_upd (own_upd (fun _ => 0) 0 p0) 1 p1) 0 p1) 0 p4) 1).toInt64)) 0 (own_upd (own_upd (own_upd (own_upd (own_upd (fun _ => 0) 0 q2) 1 q3) 1 q2) 1 (p4.toInt64)) 1 ((own_upd (own_upd (own_upd (own_upd (fun _ => 0) 0 (((own_upd (own_upd (fun _ => 0) 0 p0) 1 p1) 0).toInt64)) 1 ((own_upd (own_upd (fun _ => 0) 0 q2) 1 q3) 1)) 2 ((own_upd (own_upd (own_upd (fun _ => 0) 0 q2) 1 q3) 1 q2) 1)) 3 (((own_upd (own_upd (own_upd (own_upd (fun _ => 0) 0 p0) 1 p1) 0 p1) 0 p4) 1).toInt64)) 2)) (own_upd (own_upd (fun _ => 0) 1 ((0 : Int64) + (1 : Int64))) 1 (((0 : Int64) + (1 : Int64)) + (1 : Int64))) T928.heap n0 f936 f934 f937 oFaintArrays928 oFalongArrays928 oFaslotIndices928 oFaoldValues928 oFaentries928 oFalevelStarts928 oFaouterStamps928 oFalevel928 oFastamp928 oFalastStamp928 oAia928 oAla928 f938 f939 oAxj928 f940 ge_b799 gi_ia gi_la gi_si gi_ov ge_b815 ge_b834 ni_a_ia ni_a_la ni_a_si ni_a_ov ne_b799_b815 ne_b799_b834 ni_ia_la ni_ia_si ni_ia_ov ne_ia811_b815 ne_ia811_b834 ni_la_si ni_la_ov ne_la811_b815 ne_la811_b834 ni_si_ov ne_si811_b815 ne_si811_b834 ne_ov811_b815 ne_ov811_b834 ne_b815_b834 (by decide) (by decide) (by decide) (by decide) (by decide)) hZ (hw _ (List.mem_of_getElem? (i := 54) rfl)) (hw _ (List.mem_of_getElem? (i := 2) rfl)) (by decide) (by decide)) q941a q941c (g := (mkF m 237 #[.val (.int p0), .val (.int p1), .val (.long q2), .second, .val (.long q3), .second, .val (.int p4), .val (.int p5), .val (.int (1 : Int32)), .val (.int (1 : Int32)), .val (.ref b799), .val (.ref b812), .val (.ref b815), .val (.ref b824), .val (.ref b834), .val (.int (1 : Int32)), .val (.int p4)] [(.long q3), (.int (0 : Int32)), (.ref b834), (.ref b815), (.ref b799)])) rfl (by rw [hml]; rfl) (Steps.refl _) (argsL := [(.ref b815), (.ref b834), (.int (0 : Int32)), (.long q3)]) (rest := []) (lenOf pd_3 rfl) rfl (by show 2 * 0 + _ ≤ _; exact Nat.le_of_eq rfl) (hb hby at_237) (fun _ _ => ⟨rfl, eq933, (by decide : 11 + 0 ≤ _), (by decide : 306 + 0 ≤ _)⟩)
      dsimp only [Pt.U, Pt.locs, Pt.cells, Pt.slots] at X941 l941 y941 z941 st941 hQ941
      rw [l941, y941, z941] at X941
      replace X941 : Stand p l e room_1 s m #[(.int p0), (.int p1), (.long q2), (.long q3), (.int p4), (.int p5)] below meth c T941 _ 11 306 := X941
      obtain ⟨rfl, Nq941, oK941, oFaintArrays941, oFalongArrays941, oFaslotIndices941, oFaoldValues941, oFalevelStarts941, oFaouterStamps941, oFalevel941, oFastamp941, oFalastStamp941, oFaentries941, oAia941, oAla941, oAsi941, oAov941, oAar941, oAmk941⟩ := hQ941
      have N941 := Fr.app N933 Nq941
      have f942 := (Nat.le_trans f936 oK941.1)
      have f943 := (f934.keep oK941)
      have f944 := ((f925.keep oK928 (ninS (Ne.symm ni_a_ls) (ninS (Ne.symm ni_ia_ls) (ninS (Ne.symm ni_la_ls) (ninS ne_ls811_b812 (ninS ne_ls811_b815 nin0)))))).keep oK941 (ninS (Ne.symm ni_a_ls) (ninS (Ne.symm ni_ia_ls) (ninS (Ne.symm ni_la_ls) (ninS (Ne.symm ni_si_ls) (ninS (Ne.symm ni_ov_ls) (ninS ne_ls811_b815 (ninS ne_ls811_b834 nin0))))))))
      have f945 := ((f926.keep oK928 (ninS (Ne.symm ni_a_os) (ninS (Ne.symm ni_ia_os) (ninS (Ne.symm ni_la_os) (ninS ne_os811_b812 (ninS ne_os811_b815 nin0)))))).keep oK941 (ninS (Ne.symm ni_a_os) (ninS (Ne.symm ni_ia_os) (ninS (Ne.symm ni_la_os) (ninS (Ne.symm ni_si_os) (ninS (Ne.symm ni_ov_os) (ninS ne_os811_b815 (ninS ne_os811_b834 nin0))))))))
      have f946 := (oAxi928.keep oK941 (ninS (Ne.symm ne_b799_b812) (ninS (Ne.symm ne_ia811_b812) (ninS (Ne.symm ne_la811_b812) (ninS (Ne.symm ne_si811_b812) (ninS (Ne.symm ne_ov811_b812) (ninS ne_b812_b815 (ninS ne_b812_b834 nin0))))))))
      obtain ⟨cq947, kq947, q947a, q947b, q947c⟩ := isOf hZ rfl f943
      obtain ⟨_, _, ⟨T947, L947, kc947, nc947⟩, -, X947, ⟨Lc947, hQ947, l947, y947, z947⟩, st947⟩ := X941.virtualBack hx (y := (⟨"com/example/tablewise/tablewise/propagation/Trail", "closeLevel", "()V"⟩ : MethodName)) (z := (⟨"com/example/tablewise/tablewise/propagation/Trail", "closeLevel", "()V"⟩ : MethodName)) hown (mvT hZ (hw _ (List.mem_of_getElem? (i := 56) rfl))) (mvT hZ (hw _ (List.mem_of_getElem? (i := 57) rfl))) (notFace_of_selects (args := #[]) (mvT hZ (hw _ (List.mem_of_getElem? (i := 59) rfl)))) (mvT hZ (hw _ (List.mem_of_getElem? (i := 59) rfl))) (mvT hZ (hw _ (List.mem_of_getElem? (i := 58) rfl))) (by decide) (backOf (W := 0) (rmclB l Z a0 hw [] b799 ia811 la811 si811 ov811 ls811 os811 ((2 : Int32) + (1 : Int32)) ((((0 : Int32) + (1 : Int32)) + (1 : Int32)) - (1 : Int32)) ((own_upd (own_upd (fun _ => 0) 0 (0 : Int64)) 1 ((0 : Int64) + (1 : Int64))) 1) (((0 : Int64) + (1 : Int64)) + (1 : Int64)) (own_upd (own_upd (own_upd (own_upd (own_upd (own_upd (fun _ => .null) 0 (.ref b812)) 1 .null) 2 .null) 3 (.ref b812)) 3 .null) 2 .null) (own_upd (own_upd (own_upd (own_upd (own_upd (own_upd (fun _ => .null) 0 .null) 1 (.ref b815)) 2 (.ref b815)) 3 .null) 2 .null) 2 (.ref b815)) (own_upd (own_upd (own_upd (own_upd (own_upd (fun _ => 0) 0 (0 : Int32)) 1 (1 : Int32)) 2 (1 : Int32)) 3 (1 : Int32)) 2 (0 : Int32)) (own_upd (own_upd (own_upd (own_upd (own_upd (fun _ => 0) 0 (((own_upd (own_upd (fun _ => 0) 0 p0) 1 p1) 0).toInt64)) 1 ((own_upd (own_upd (fun _ => 0) 0 q2) 1 q3) 1)) 2 ((own_upd (own_upd (own_upd (fun _ => 0) 0 q2) 1 q3) 1 q2) 1)) 3 (((own_upd (own_upd (own_upd (own_upd (fun _ => 0) 0 p0) 1 p1) 0 p1) 0 p4) 1).toInt64)) 2 ((own_upd (own_upd (own_upd (own_upd (own_upd (fun _ => 0) 0 q2) 1 q3) 1 q2) 1 (p4.toInt64)) 1 ((own_upd (own_upd (own_upd (own_upd (fun _ => 0) 0 (((own_upd (own_upd (fun _ => 0) 0 p0) 1 p1) 0).toInt64)) 1 ((own_upd (own_upd (fun _ => 0) 0 q2) 1 q3) 1)) 2 ((own_upd (own_upd (own_upd (fun _ => 0) 0 q2) 1 q3) 1 q2) 1)) 3 (((own_upd (own_upd (own_upd (own_upd (fun _ => 0) 0 p0) 1 p1) 0 p1) 0 p4) 1).toInt64)) 2)) 0)) b812 b815 0 (own_upd (own_upd (fun _ => 0) 0 (0 : Int32)) 1 (((0 : Int32) + (1 : Int32)) + (1 : Int32))) (own_upd (own_upd (fun _ => 0) 0 (0 : Int64)) 1 ((0 : Int64) + (1 : Int64))) (own_upd (own_upd (own_upd (own_upd (own_upd (own_upd (fun _ => 0) 0 p0) 1 p1) 0 p1) 0 p4) 1 p0) 1 (((own_upd (own_upd (own_upd (own_upd (fun _ => 0) 0 (((own_upd (own_upd (fun _ => 0) 0 p0) 1 p1) 0).toInt64)) 1 ((own_upd (own_upd (fun _ => 0) 0 q2) 1 q3) 1)) 2 ((own_upd (own_upd (own_upd (fun _ => 0) 0 q2) 1 q3) 1 q2) 1)) 3 (((own_upd (own_upd (own_upd (own_upd (fun _ => 0) 0 p0) 1 p1) 0 p1) 0 p4) 1).toInt64)) 3).toInt32)) (own_upd (own_upd (own_upd (own_upd (own_upd (own_upd (fun _ => 0) 0 q2) 1 q3) 1 q2) 1 (p4.toInt64)) 1 ((own_upd (own_upd (own_upd (own_upd (fun _ => 0) 0 (((own_upd (own_upd (fun _ => 0) 0 p0) 1 p1) 0).toInt64)) 1 ((own_upd (own_upd (fun _ => 0) 0 q2) 1 q3) 1)) 2 ((own_upd (own_upd (own_upd (fun _ => 0) 0 q2) 1 q3) 1 q2) 1)) 3 (((own_upd (own_upd (own_upd (own_upd (fun _ => 0) 0 p0) 1 p1) 0 p1) 0 p4) 1).toInt64)) 2)) 0 q3) T941.heap n0 f942 f943 oFaintArrays941 oFalongArrays941 oFaslotIndices941 oFaoldValues941 oFaentries941 oFalevelStarts941 oFaouterStamps941 oFalevel941 oFastamp941 oFalastStamp941 oAia941 oAla941 oAsi941 oAov941 f944 f945 f946 oAar941 ge_b799 gi_ia gi_la ge_b812 ge_b815 ni_a_ia ni_a_la ni_a_si ni_a_ov ni_a_ls ni_a_os ne_b799_b812 ne_b799_b815 ni_ia_la ni_ia_si ni_ia_ov ni_ia_ls ni_ia_os ne_ia811_b812 ne_ia811_b815 ni_la_si ni_la_ov ni_la_ls ni_la_os ne_la811_b812 ne_la811_b815 ni_si_ov ni_si_ls ni_si_os ne_si811_b812 ne_si811_b815 ni_ov_ls ni_ov_os ne_ov811_b812 ne_ov811_b815 ni_ls_os ne_ls811_b812 ne_ls811_b815 ne_os811_b812 ne_os811_b815 ne_b812_b815 (by decide) (by decide) (by decide) (by decide) rfl rfl rfl rfl rfl rfl rfl rfl) hZ (hw _ (List.mem_of_getElem? (i := 60) rfl)) (hw _ (List.mem_of_getElem? (i := 2) rfl)) (by decide) (by decide)) q947a q947c (g := (mkF m 242 #[.val (.int p0), .val (.int p1), .val (.long q2), .second, .val (.long q3), .second, .val (.int p4), .val (.int p5), .val (.int (1 : Int32)), .val (.int (1 : Int32)), .val (.ref b799), .val (.ref b812), .val (.ref b815), .val (.ref b824), .val (.ref b834), .val (.int (1 : Int32)), .val (.int p4)] [(.ref b799)])) rfl (by rw [hml]; rfl) (Steps.refl _) (argsL := []) (rest := []) (lenOf pd_0 rfl) rfl (by show 2 * 0 + _ ≤ _; exact Nat.le_of_eq rfl) (hb hby at_242) (fun _ _ => ⟨rfl, rfl, (by decide : 11 + 0 ≤ _), (by decide : 306 + 0 ≤ _)⟩)
      dsimp only [Pt.U, Pt.locs, Pt.cells, Pt.slots] at X947 l947 y947 z947 st947 hQ947
      rw [l947, y947, z947] at X947
      replace X947 : Stand p l e room_1 s m #[(.int p0), (.int p1), (.long q2), (.long q3), (.int p4), (.int p5)] below meth c T947 _ 11 306 := X947
      obtain ⟨rfl, Nq947, oK947, oFaintArrays947, oFalongArrays947, oFaslotIndices947, oFaoldValues947, oFalevelStarts947, oFaouterStamps947, oFalastStamp947, oFaentries947, oFalevel947, oFastamp947, oAia947, oAla947, oAxi947, oAxj947⟩ := hQ947
      have N947 := Fr.app N941 Nq947
      have hc255_948 : p0 = p0 := rfl
      have k949 : ∀ tg_, Steps p.tables e below (T947.setTop (mkF m 261 #[.val (.int p0), .val (.int p1), .val (.long q2), .second, .val (.long q3), .second, .val (.int p4), .val (.int p5), .val (.int (1 : Int32)), .val (.int (1 : Int32)), .val (.ref b799), .val (.ref b812), .val (.ref b815), .val (.ref b824), .val (.ref b834), .val (.int (1 : Int32)), .val (.int p4)] [(.int (1 : Int32)), (.ref b812)])) tg_ → Steps p.tables e below (s₁.setTop (entryFrame m #[(.int p0), (.int p1), (.long q2), (.long q3), (.int p4), (.int p5)] maxLocals)) tg_ := by
        intro tg_ kt
        refine k932 tg_ ?_
        refine XS.lcmp X928.here hx rfl (hb hby at_208) rfl ?_
        show Steps p.tables e below (T928.setTop (mkF m 209 #[.val (.int p0), .val (.int p1), .val (.long q2), .second, .val (.long q3), .second, .val (.int p4), .val (.int p5), .val (.int (1 : Int32)), .val (.int (1 : Int32)), .val (.ref b799), .val (.ref b812), .val (.ref b815), .val (.ref b824), .val (.ref b834), .val (.int (1 : Int32)), .val (.int p4)] [(.int (lcmpW q2 q2))])) _
        refine XS.ifNo X928.here hx rfl (hb hby at_209) rfl ((if0 _ _).trans (teq ((show ((lcmpW q2 q2) = 0) ↔ (q2 = q2) from lw_eq q2 q2).mpr hc200_931)).2) ?_
        show Steps p.tables e below (T928.setTop (mkF m 212 #[.val (.int p0), .val (.int p1), .val (.long q2), .second, .val (.long q3), .second, .val (.int p4), .val (.int p5), .val (.int (1 : Int32)), .val (.int (1 : Int32)), .val (.ref b799), .val (.ref b812), .val (.ref b815), .val (.ref b824), .val (.ref b834), .val (.int (1 : Int32)), .val (.int p4)] [])) _
        refine XS.aload X928.here hx rfl (hb hby at_212) rfl rfl ?_
        show Steps p.tables e below (T928.setTop (mkF m 214 #[.val (.int p0), .val (.int p1), .val (.long q2), .second, .val (.long q3), .second, .val (.int p4), .val (.int p5), .val (.int (1 : Int32)), .val (.int (1 : Int32)), .val (.ref b799), .val (.ref b812), .val (.ref b815), .val (.ref b824), .val (.ref b834), .val (.int (1 : Int32)), .val (.int p4)] [(.ref b799)])) _
        refine st933.trans ?_
        show Steps p.tables e below (T933.setTop (mkF m 217 #[.val (.int p0), .val (.int p1), .val (.long q2), .second, .val (.long q3), .second, .val (.int p4), .val (.int p5), .val (.int (1 : Int32)), .val (.int (1 : Int32)), .val (.ref b799), .val (.ref b812), .val (.ref b815), .val (.ref b824), .val (.ref b834), .val (.int (1 : Int32)), .val (.int p4)] [(.int ((((0 : Int32) + (1 : Int32)) + (1 : Int32)) - (1 : Int32)))])) _
        refine XS.iconst X933.here hx rfl (hb hby at_217) ?_
        show Steps p.tables e below (T933.setTop (mkF m 218 #[.val (.int p0), .val (.int p1), .val (.long q2), .second, .val (.long q3), .second, .val (.int p4), .val (.int p5), .val (.int (1 : Int32)), .val (.int (1 : Int32)), .val (.ref b799), .val (.ref b812), .val (.ref b815), .val (.ref b824), .val (.ref b834), .val (.int (1 : Int32)), .val (.int p4)] [(.int (1 : Int32)), (.int ((((0 : Int32) + (1 : Int32)) + (1 : Int32)) - (1 : Int32)))])) _
        refine XS.icmpNo X933.here hx rfl (hb hby at_218) rfl (teq hc218_935).2 ?_
        show Steps p.tables e below (T933.setTop (mkF m 221 #[.val (.int p0), .val (.int p1), .val (.long q2), .second, .val (.long q3), .second, .val (.int p4), .val (.int p5), .val (.int (1 : Int32)), .val (.int (1 : Int32)), .val (.ref b799), .val (.ref b812), .val (.ref b815), .val (.ref b824), .val (.ref b834), .val (.int (1 : Int32)), .val (.int p4)] [])) _
        refine XS.iconst X933.here hx rfl (hb hby at_221) ?_
        show Steps p.tables e below (T933.setTop (mkF m 222 #[.val (.int p0), .val (.int p1), .val (.long q2), .second, .val (.long q3), .second, .val (.int p4), .val (.int p5), .val (.int (1 : Int32)), .val (.int (1 : Int32)), .val (.ref b799), .val (.ref b812), .val (.ref b815), .val (.ref b824), .val (.ref b834), .val (.int (1 : Int32)), .val (.int p4)] [(.int (1 : Int32))])) _
        refine XS.goto X933.here hx rfl (pc0 := 222) (pc' := 226) rfl (hb hby at_222) (by decide) (by decide) ?_
        show Steps p.tables e below (T933.setTop (mkF m 226 #[.val (.int p0), .val (.int p1), .val (.long q2), .second, .val (.long q3), .second, .val (.int p4), .val (.int p5), .val (.int (1 : Int32)), .val (.int (1 : Int32)), .val (.ref b799), .val (.ref b812), .val (.ref b815), .val (.ref b824), .val (.ref b834), .val (.int (1 : Int32)), .val (.int p4)] [(.int (1 : Int32))])) _
        refine XS.istore X933.here hx rfl (hb hby at_226) rfl (l' := #[.val (.int p0), .val (.int p1), .val (.long q2), .second, .val (.long q3), .second, .val (.int p4), .val (.int p5), .val (.int (1 : Int32)), .val (.int (1 : Int32)), .val (.ref b799), .val (.ref b812), .val (.ref b815), .val (.ref b824), .val (.ref b834), .val (.int (1 : Int32)), .val (.int p4)]) rfl ?_
        show Steps p.tables e below (T933.setTop (mkF m 228 #[.val (.int p0), .val (.int p1), .val (.long q2), .second, .val (.long q3), .second, .val (.int p4), .val (.int p5), .val (.int (1 : Int32)), .val (.int (1 : Int32)), .val (.ref b799), .val (.ref b812), .val (.ref b815), .val (.ref b824), .val (.ref b834), .val (.int (1 : Int32)), .val (.int p4)] [])) _
        refine XS.aload X933.here hx rfl (hb hby at_228) rfl rfl ?_
        show Steps p.tables e below (T933.setTop (mkF m 230 #[.val (.int p0), .val (.int p1), .val (.long q2), .second, .val (.long q3), .second, .val (.int p4), .val (.int p5), .val (.int (1 : Int32)), .val (.int (1 : Int32)), .val (.ref b799), .val (.ref b812), .val (.ref b815), .val (.ref b824), .val (.ref b834), .val (.int (1 : Int32)), .val (.int p4)] [(.ref b799)])) _
        refine XS.aload X933.here hx rfl (hb hby at_230) rfl rfl ?_
        show Steps p.tables e below (T933.setTop (mkF m 232 #[.val (.int p0), .val (.int p1), .val (.long q2), .second, .val (.long q3), .second, .val (.int p4), .val (.int p5), .val (.int (1 : Int32)), .val (.int (1 : Int32)), .val (.ref b799), .val (.ref b812), .val (.ref b815), .val (.ref b824), .val (.ref b834), .val (.int (1 : Int32)), .val (.int p4)] [(.ref b815), (.ref b799)])) _
        refine XS.aload X933.here hx rfl (hb hby at_232) rfl rfl ?_
        show Steps p.tables e below (T933.setTop (mkF m 234 #[.val (.int p0), .val (.int p1), .val (.long q2), .second, .val (.long q3), .second, .val (.int p4), .val (.int p5), .val (.int (1 : Int32)), .val (.int (1 : Int32)), .val (.ref b799), .val (.ref b812), .val (.ref b815), .val (.ref b824), .val (.ref b834), .val (.int (1 : Int32)), .val (.int p4)] [(.ref b834), (.ref b815), (.ref b799)])) _
        refine XS.iconst X933.here hx rfl (hb hby at_234) ?_
        show Steps p.tables e below (T933.setTop (mkF m 235 #[.val (.int p0), .val (.int p1), .val (.long q2), .second, .val (.long q3), .second, .val (.int p4), .val (.int p5), .val (.int (1 : Int32)), .val (.int (1 : Int32)), .val (.ref b799), .val (.ref b812), .val (.ref b815), .val (.ref b824), .val (.ref b834), .val (.int (1 : Int32)), .val (.int p4)] [(.int (0 : Int32)), (.ref b834), (.ref b815), (.ref b799)])) _
        refine XS.lload X933.here hx rfl (hb hby at_235) rfl ?_
        show Steps p.tables e below (T933.setTop (mkF m 237 #[.val (.int p0), .val (.int p1), .val (.long q2), .second, .val (.long q3), .second, .val (.int p4), .val (.int p5), .val (.int (1 : Int32)), .val (.int (1 : Int32)), .val (.ref b799), .val (.ref b812), .val (.ref b815), .val (.ref b824), .val (.ref b834), .val (.int (1 : Int32)), .val (.int p4)] [(.long q3), (.int (0 : Int32)), (.ref b834), (.ref b815), (.ref b799)])) _
        refine st941.trans ?_
        show Steps p.tables e below (T941.setTop (mkF m 240 #[.val (.int p0), .val (.int p1), .val (.long q2), .second, .val (.long q3), .second, .val (.int p4), .val (.int p5), .val (.int (1 : Int32)), .val (.int (1 : Int32)), .val (.ref b799), .val (.ref b812), .val (.ref b815), .val (.ref b824), .val (.ref b834), .val (.int (1 : Int32)), .val (.int p4)] [])) _
        refine XS.aload X941.here hx rfl (hb hby at_240) rfl rfl ?_
        show Steps p.tables e below (T941.setTop (mkF m 242 #[.val (.int p0), .val (.int p1), .val (.long q2), .second, .val (.long q3), .second, .val (.int p4), .val (.int p5), .val (.int (1 : Int32)), .val (.int (1 : Int32)), .val (.ref b799), .val (.ref b812), .val (.ref b815), .val (.ref b824), .val (.ref b834), .val (.int (1 : Int32)), .val (.int p4)] [(.ref b799)])) _
        refine st947.trans ?_
        show Steps p.tables e below (T947.setTop (mkF m 245 #[.val (.int p0), .val (.int p1), .val (.long q2), .second, .val (.long q3), .second, .val (.int p4), .val (.int p5), .val (.int (1 : Int32)), .val (.int (1 : Int32)), .val (.ref b799), .val (.ref b812), .val (.ref b815), .val (.ref b824), .val (.ref b834), .val (.int (1 : Int32)), .val (.int p4)] [])) _
        refine XS.iload X947.here hx rfl (hb hby at_245) rfl ?_
        show Steps p.tables e below (T947.setTop (mkF m 247 #[.val (.int p0), .val (.int p1), .val (.long q2), .second, .val (.long q3), .second, .val (.int p4), .val (.int p5), .val (.int (1 : Int32)), .val (.int (1 : Int32)), .val (.ref b799), .val (.ref b812), .val (.ref b815), .val (.ref b824), .val (.ref b834), .val (.int (1 : Int32)), .val (.int p4)] [(.int (1 : Int32))])) _
        refine XS.ifNo X947.here hx rfl (hb hby at_247) rfl ((if0 _ _).trans (feq (by decide : ¬ ((1 : Int32) = (0 : Int32)))).1) ?_
        show Steps p.tables e below (T947.setTop (mkF m 250 #[.val (.int p0), .val (.int p1), .val (.long q2), .second, .val (.long q3), .second, .val (.int p4), .val (.int p5), .val (.int (1 : Int32)), .val (.int (1 : Int32)), .val (.ref b799), .val (.ref b812), .val (.ref b815), .val (.ref b824), .val (.ref b834), .val (.int (1 : Int32)), .val (.int p4)] [])) _
        refine XS.aload X947.here hx rfl (hb hby at_250) rfl rfl ?_
        show Steps p.tables e below (T947.setTop (mkF m 252 #[.val (.int p0), .val (.int p1), .val (.long q2), .second, .val (.long q3), .second, .val (.int p4), .val (.int p5), .val (.int (1 : Int32)), .val (.int (1 : Int32)), .val (.ref b799), .val (.ref b812), .val (.ref b815), .val (.ref b824), .val (.ref b834), .val (.int (1 : Int32)), .val (.int p4)] [(.ref b812)])) _
        refine XS.iconst X947.here hx rfl (hb hby at_252) ?_
        show Steps p.tables e below (T947.setTop (mkF m 253 #[.val (.int p0), .val (.int p1), .val (.long q2), .second, .val (.long q3), .second, .val (.int p4), .val (.int p5), .val (.int (1 : Int32)), .val (.int (1 : Int32)), .val (.ref b799), .val (.ref b812), .val (.ref b815), .val (.ref b824), .val (.ref b834), .val (.int (1 : Int32)), .val (.int p4)] [(.int (0 : Int32)), (.ref b812)])) _
        refine own_ldI X947 hx hZ rfl oAxi947 (i := 0) (by decide : (0 : Int32).toInt = ((0 : Nat) : Int)) (by decide) (own_i2l p0) (g := (mkF m 253 #[.val (.int p0), .val (.int p1), .val (.long q2), .second, .val (.long q3), .second, .val (.int p4), .val (.int p5), .val (.int (1 : Int32)), .val (.int (1 : Int32)), .val (.ref b799), .val (.ref b812), .val (.ref b815), .val (.ref b824), .val (.ref b834), .val (.int (1 : Int32)), .val (.int p4)] [(.int (0 : Int32)), (.ref b812)])) rfl rfl (hb hby at_253) _ ?_
        show Steps p.tables e below (T947.setTop (mkF m 254 #[.val (.int p0), .val (.int p1), .val (.long q2), .second, .val (.long q3), .second, .val (.int p4), .val (.int p5), .val (.int (1 : Int32)), .val (.int (1 : Int32)), .val (.ref b799), .val (.ref b812), .val (.ref b815), .val (.ref b824), .val (.ref b834), .val (.int (1 : Int32)), .val (.int p4)] [(.int p0)])) _
        refine XS.iloadN X947.here hx rfl (hb hby at_254) rfl ?_
        show Steps p.tables e below (T947.setTop (mkF m 255 #[.val (.int p0), .val (.int p1), .val (.long q2), .second, .val (.long q3), .second, .val (.int p4), .val (.int p5), .val (.int (1 : Int32)), .val (.int (1 : Int32)), .val (.ref b799), .val (.ref b812), .val (.ref b815), .val (.ref b824), .val (.ref b834), .val (.int (1 : Int32)), .val (.int p4)] [(.int p0), (.int p0)])) _
        refine XS.icmpNo X947.here hx rfl (hb hby at_255) rfl (teq hc255_948).2 ?_
        show Steps p.tables e below (T947.setTop (mkF m 258 #[.val (.int p0), .val (.int p1), .val (.long q2), .second, .val (.long q3), .second, .val (.int p4), .val (.int p5), .val (.int (1 : Int32)), .val (.int (1 : Int32)), .val (.ref b799), .val (.ref b812), .val (.ref b815), .val (.ref b824), .val (.ref b834), .val (.int (1 : Int32)), .val (.int p4)] [])) _
        refine XS.aload X947.here hx rfl (hb hby at_258) rfl rfl ?_
        show Steps p.tables e below (T947.setTop (mkF m 260 #[.val (.int p0), .val (.int p1), .val (.long q2), .second, .val (.long q3), .second, .val (.int p4), .val (.int p5), .val (.int (1 : Int32)), .val (.int (1 : Int32)), .val (.ref b799), .val (.ref b812), .val (.ref b815), .val (.ref b824), .val (.ref b834), .val (.int (1 : Int32)), .val (.int p4)] [(.ref b812)])) _
        refine XS.iconst X947.here hx rfl (hb hby at_260) ?_
        show Steps p.tables e below (T947.setTop (mkF m 261 #[.val (.int p0), .val (.int p1), .val (.long q2), .second, .val (.long q3), .second, .val (.int p4), .val (.int p5), .val (.int (1 : Int32)), .val (.int (1 : Int32)), .val (.ref b799), .val (.ref b812), .val (.ref b815), .val (.ref b824), .val (.ref b834), .val (.int (1 : Int32)), .val (.int p4)] [(.int (1 : Int32)), (.ref b812)])) _
        exact kt
      have hc282_950 : q3 = q3 := rfl
      have f952 := (f943.keep oK947)
      obtain ⟨cq951, kq951, q951a, q951b, q951c⟩ := isOf hZ rfl f952
      obtain ⟨_, _, ⟨T951, L951, kc951, nc951⟩, -, X951, ⟨Lc951, hQ951, l951, y951, z951⟩, st951⟩ := X947.virtualBack hx (y := (⟨"com/example/tablewise/tablewise/propagation/Trail", "level", "()I"⟩ : MethodName)) (z := (⟨"com/example/tablewise/tablewise/propagation/Trail", "level", "()I"⟩ : MethodName)) hown (mvT hZ (hw _ (List.mem_of_getElem? (i := 61) rfl))) (mvT hZ (hw _ (List.mem_of_getElem? (i := 62) rfl))) (notFace_of_selects (args := #[]) (mvT hZ (hw _ (List.mem_of_getElem? (i := 64) rfl)))) (mvT hZ (hw _ (List.mem_of_getElem? (i := 64) rfl))) (mvT hZ (hw _ (List.mem_of_getElem? (i := 63) rfl))) (by decide) (backOf (W := 0) (rm8 l Z a0 hw [] b799 (((((0 : Int32) + (1 : Int32)) + (1 : Int32)) - (1 : Int32)) - (1 : Int32)) T947.heap n0 oFalevel947) hZ (hw _ (List.mem_of_getElem? (i := 65) rfl)) (hw _ (List.mem_of_getElem? (i := 2) rfl)) (by decide) (by decide)) q951a q951c (g := (mkF m 287 #[.val (.int p0), .val (.int p1), .val (.long q2), .second, .val (.long q3), .second, .val (.int p4), .val (.int p5), .val (.int (1 : Int32)), .val (.int (1 : Int32)), .val (.ref b799), .val (.ref b812), .val (.ref b815), .val (.ref b824), .val (.ref b834), .val (.int (1 : Int32)), .val (.int p4)] [(.ref b799)])) rfl (by rw [hml]; rfl) (Steps.refl _) (argsL := []) (rest := []) (lenOf pd_4 rfl) rfl (by show 2 * 0 + _ ≤ _; exact Nat.le_of_eq rfl) (hb hby at_287) (fun _ _ => ⟨rfl, rfl, (by decide : 11 + 0 ≤ _), (by decide : 306 + 0 ≤ _)⟩)
      dsimp only [Pt.U, Pt.locs, Pt.cells, Pt.slots] at X951 l951 y951 z951 st951 hQ951
      rw [l951, y951, z951] at X951
      replace X951 : Stand p l e room_1 s m #[(.int p0), (.int p1), (.long q2), (.long q3), (.int p4), (.int p5)] below meth c T951 _ 11 306 := X951
      obtain ⟨rfl, Nq951, eq951⟩ := hQ951
      have N951 := Fr.app N947 Nq951
      have hc290_953 : (((((0 : Int32) + (1 : Int32)) + (1 : Int32)) - (1 : Int32)) - (1 : Int32)) = (0 : Int32) := (by decide)
      have k954 : ∀ tg_, Steps p.tables e below (T951.setTop (mkF m 298 #[.val (.int p0), .val (.int p1), .val (.long q2), .second, .val (.long q3), .second, .val (.int p4), .val (.int p5), .val (.int (1 : Int32)), .val (.int (1 : Int32)), .val (.ref b799), .val (.ref b812), .val (.ref b815), .val (.ref b824), .val (.ref b834), .val (.int (1 : Int32)), .val (.int p4)] [(.int (1 : Int32))])) tg_ → Steps p.tables e below (s₁.setTop (entryFrame m #[(.int p0), (.int p1), (.long q2), (.long q3), (.int p4), (.int p5)] maxLocals)) tg_ := by
        intro tg_ kt
        refine k949 tg_ ?_
        refine own_ldI X947 hx hZ rfl oAxi947 (i := 1) (by decide : (1 : Int32).toInt = ((1 : Nat) : Int)) (by decide) (own_i2l p1) (g := (mkF m 261 #[.val (.int p0), .val (.int p1), .val (.long q2), .second, .val (.long q3), .second, .val (.int p4), .val (.int p5), .val (.int (1 : Int32)), .val (.int (1 : Int32)), .val (.ref b799), .val (.ref b812), .val (.ref b815), .val (.ref b824), .val (.ref b834), .val (.int (1 : Int32)), .val (.int p4)] [(.int (1 : Int32)), (.ref b812)])) rfl rfl (hb hby at_261) _ ?_
        show Steps p.tables e below (T947.setTop (mkF m 262 #[.val (.int p0), .val (.int p1), .val (.long q2), .second, .val (.long q3), .second, .val (.int p4), .val (.int p5), .val (.int (1 : Int32)), .val (.int (1 : Int32)), .val (.ref b799), .val (.ref b812), .val (.ref b815), .val (.ref b824), .val (.ref b834), .val (.int (1 : Int32)), .val (.int p4)] [(.int p1)])) _
        refine XS.iloadN X947.here hx rfl (hb hby at_262) rfl ?_
        show Steps p.tables e below (T947.setTop (mkF m 263 #[.val (.int p0), .val (.int p1), .val (.long q2), .second, .val (.long q3), .second, .val (.int p4), .val (.int p5), .val (.int (1 : Int32)), .val (.int (1 : Int32)), .val (.ref b799), .val (.ref b812), .val (.ref b815), .val (.ref b824), .val (.ref b834), .val (.int (1 : Int32)), .val (.int p4)] [(.int p1), (.int p1)])) _
        refine XS.icmpNo X947.here hx rfl (hb hby at_263) rfl (teq hc191_930).2 ?_
        show Steps p.tables e below (T947.setTop (mkF m 266 #[.val (.int p0), .val (.int p1), .val (.long q2), .second, .val (.long q3), .second, .val (.int p4), .val (.int p5), .val (.int (1 : Int32)), .val (.int (1 : Int32)), .val (.ref b799), .val (.ref b812), .val (.ref b815), .val (.ref b824), .val (.ref b834), .val (.int (1 : Int32)), .val (.int p4)] [])) _
        refine XS.aload X947.here hx rfl (hb hby at_266) rfl rfl ?_
        show Steps p.tables e below (T947.setTop (mkF m 268 #[.val (.int p0), .val (.int p1), .val (.long q2), .second, .val (.long q3), .second, .val (.int p4), .val (.int p5), .val (.int (1 : Int32)), .val (.int (1 : Int32)), .val (.ref b799), .val (.ref b812), .val (.ref b815), .val (.ref b824), .val (.ref b834), .val (.int (1 : Int32)), .val (.int p4)] [(.ref b815)])) _
        refine XS.iconst X947.here hx rfl (hb hby at_268) ?_
        show Steps p.tables e below (T947.setTop (mkF m 269 #[.val (.int p0), .val (.int p1), .val (.long q2), .second, .val (.long q3), .second, .val (.int p4), .val (.int p5), .val (.int (1 : Int32)), .val (.int (1 : Int32)), .val (.ref b799), .val (.ref b812), .val (.ref b815), .val (.ref b824), .val (.ref b834), .val (.int (1 : Int32)), .val (.int p4)] [(.int (0 : Int32)), (.ref b815)])) _
        refine own_ldJ X947 hx hZ rfl oAxj947 (i := 0) (by decide : (0 : Int32).toInt = ((0 : Nat) : Int)) (by decide) rfl (g := (mkF m 269 #[.val (.int p0), .val (.int p1), .val (.long q2), .second, .val (.long q3), .second, .val (.int p4), .val (.int p5), .val (.int (1 : Int32)), .val (.int (1 : Int32)), .val (.ref b799), .val (.ref b812), .val (.ref b815), .val (.ref b824), .val (.ref b834), .val (.int (1 : Int32)), .val (.int p4)] [(.int (0 : Int32)), (.ref b815)])) rfl rfl (hb hby at_269) _ ?_
        show Steps p.tables e below (T947.setTop (mkF m 270 #[.val (.int p0), .val (.int p1), .val (.long q2), .second, .val (.long q3), .second, .val (.int p4), .val (.int p5), .val (.int (1 : Int32)), .val (.int (1 : Int32)), .val (.ref b799), .val (.ref b812), .val (.ref b815), .val (.ref b824), .val (.ref b834), .val (.int (1 : Int32)), .val (.int p4)] [(.long q2)])) _
        refine XS.lloadN X947.here hx rfl (hb hby at_270) rfl ?_
        show Steps p.tables e below (T947.setTop (mkF m 271 #[.val (.int p0), .val (.int p1), .val (.long q2), .second, .val (.long q3), .second, .val (.int p4), .val (.int p5), .val (.int (1 : Int32)), .val (.int (1 : Int32)), .val (.ref b799), .val (.ref b812), .val (.ref b815), .val (.ref b824), .val (.ref b834), .val (.int (1 : Int32)), .val (.int p4)] [(.long q2), (.long q2)])) _
        refine XS.lcmp X947.here hx rfl (hb hby at_271) rfl ?_
        show Steps p.tables e below (T947.setTop (mkF m 272 #[.val (.int p0), .val (.int p1), .val (.long q2), .second, .val (.long q3), .second, .val (.int p4), .val (.int p5), .val (.int (1 : Int32)), .val (.int (1 : Int32)), .val (.ref b799), .val (.ref b812), .val (.ref b815), .val (.ref b824), .val (.ref b834), .val (.int (1 : Int32)), .val (.int p4)] [(.int (lcmpW q2 q2))])) _
        refine XS.ifNo X947.here hx rfl (hb hby at_272) rfl ((if0 _ _).trans (teq ((show ((lcmpW q2 q2) = 0) ↔ (q2 = q2) from lw_eq q2 q2).mpr hc200_931)).2) ?_
        show Steps p.tables e below (T947.setTop (mkF m 275 #[.val (.int p0), .val (.int p1), .val (.long q2), .second, .val (.long q3), .second, .val (.int p4), .val (.int p5), .val (.int (1 : Int32)), .val (.int (1 : Int32)), .val (.ref b799), .val (.ref b812), .val (.ref b815), .val (.ref b824), .val (.ref b834), .val (.int (1 : Int32)), .val (.int p4)] [])) _
        refine XS.aload X947.here hx rfl (hb hby at_275) rfl rfl ?_
        show Steps p.tables e below (T947.setTop (mkF m 277 #[.val (.int p0), .val (.int p1), .val (.long q2), .second, .val (.long q3), .second, .val (.int p4), .val (.int p5), .val (.int (1 : Int32)), .val (.int (1 : Int32)), .val (.ref b799), .val (.ref b812), .val (.ref b815), .val (.ref b824), .val (.ref b834), .val (.int (1 : Int32)), .val (.int p4)] [(.ref b815)])) _
        refine XS.iconst X947.here hx rfl (hb hby at_277) ?_
        show Steps p.tables e below (T947.setTop (mkF m 278 #[.val (.int p0), .val (.int p1), .val (.long q2), .second, .val (.long q3), .second, .val (.int p4), .val (.int p5), .val (.int (1 : Int32)), .val (.int (1 : Int32)), .val (.ref b799), .val (.ref b812), .val (.ref b815), .val (.ref b824), .val (.ref b834), .val (.int (1 : Int32)), .val (.int p4)] [(.int (1 : Int32)), (.ref b815)])) _
        refine own_ldJ X947 hx hZ rfl oAxj947 (i := 1) (by decide : (1 : Int32).toInt = ((1 : Nat) : Int)) (by decide) rfl (g := (mkF m 278 #[.val (.int p0), .val (.int p1), .val (.long q2), .second, .val (.long q3), .second, .val (.int p4), .val (.int p5), .val (.int (1 : Int32)), .val (.int (1 : Int32)), .val (.ref b799), .val (.ref b812), .val (.ref b815), .val (.ref b824), .val (.ref b834), .val (.int (1 : Int32)), .val (.int p4)] [(.int (1 : Int32)), (.ref b815)])) rfl rfl (hb hby at_278) _ ?_
        show Steps p.tables e below (T947.setTop (mkF m 279 #[.val (.int p0), .val (.int p1), .val (.long q2), .second, .val (.long q3), .second, .val (.int p4), .val (.int p5), .val (.int (1 : Int32)), .val (.int (1 : Int32)), .val (.ref b799), .val (.ref b812), .val (.ref b815), .val (.ref b824), .val (.ref b834), .val (.int (1 : Int32)), .val (.int p4)] [(.long q3)])) _
        refine XS.lload X947.here hx rfl (hb hby at_279) rfl ?_
        show Steps p.tables e below (T947.setTop (mkF m 281 #[.val (.int p0), .val (.int p1), .val (.long q2), .second, .val (.long q3), .second, .val (.int p4), .val (.int p5), .val (.int (1 : Int32)), .val (.int (1 : Int32)), .val (.ref b799), .val (.ref b812), .val (.ref b815), .val (.ref b824), .val (.ref b834), .val (.int (1 : Int32)), .val (.int p4)] [(.long q3), (.long q3)])) _
        refine XS.lcmp X947.here hx rfl (hb hby at_281) rfl ?_
        show Steps p.tables e below (T947.setTop (mkF m 282 #[.val (.int p0), .val (.int p1), .val (.long q2), .second, .val (.long q3), .second, .val (.int p4), .val (.int p5), .val (.int (1 : Int32)), .val (.int (1 : Int32)), .val (.ref b799), .val (.ref b812), .val (.ref b815), .val (.ref b824), .val (.ref b834), .val (.int (1 : Int32)), .val (.int p4)] [(.int (lcmpW q3 q3))])) _
        refine XS.ifNo X947.here hx rfl (hb hby at_282) rfl ((if0 _ _).trans (teq ((show ((lcmpW q3 q3) = 0) ↔ (q3 = q3) from lw_eq q3 q3).mpr hc282_950)).2) ?_
        show Steps p.tables e below (T947.setTop (mkF m 285 #[.val (.int p0), .val (.int p1), .val (.long q2), .second, .val (.long q3), .second, .val (.int p4), .val (.int p5), .val (.int (1 : Int32)), .val (.int (1 : Int32)), .val (.ref b799), .val (.ref b812), .val (.ref b815), .val (.ref b824), .val (.ref b834), .val (.int (1 : Int32)), .val (.int p4)] [])) _
        refine XS.aload X947.here hx rfl (hb hby at_285) rfl rfl ?_
        show Steps p.tables e below (T947.setTop (mkF m 287 #[.val (.int p0), .val (.int p1), .val (.long q2), .second, .val (.long q3), .second, .val (.int p4), .val (.int p5), .val (.int (1 : Int32)), .val (.int (1 : Int32)), .val (.ref b799), .val (.ref b812), .val (.ref b815), .val (.ref b824), .val (.ref b834), .val (.int (1 : Int32)), .val (.int p4)] [(.ref b799)])) _
        refine st951.trans ?_
        show Steps p.tables e below (T951.setTop (mkF m 290 #[.val (.int p0), .val (.int p1), .val (.long q2), .second, .val (.long q3), .second, .val (.int p4), .val (.int p5), .val (.int (1 : Int32)), .val (.int (1 : Int32)), .val (.ref b799), .val (.ref b812), .val (.ref b815), .val (.ref b824), .val (.ref b834), .val (.int (1 : Int32)), .val (.int p4)] [(.int (((((0 : Int32) + (1 : Int32)) + (1 : Int32)) - (1 : Int32)) - (1 : Int32)))])) _
        refine XS.ifNo X951.here hx rfl (hb hby at_290) rfl ((if0 _ _).trans (teq hc290_953).2) ?_
        show Steps p.tables e below (T951.setTop (mkF m 293 #[.val (.int p0), .val (.int p1), .val (.long q2), .second, .val (.long q3), .second, .val (.int p4), .val (.int p5), .val (.int (1 : Int32)), .val (.int (1 : Int32)), .val (.ref b799), .val (.ref b812), .val (.ref b815), .val (.ref b824), .val (.ref b834), .val (.int (1 : Int32)), .val (.int p4)] [])) _
        refine XS.iconst X951.here hx rfl (hb hby at_293) ?_
        show Steps p.tables e below (T951.setTop (mkF m 294 #[.val (.int p0), .val (.int p1), .val (.long q2), .second, .val (.long q3), .second, .val (.int p4), .val (.int p5), .val (.int (1 : Int32)), .val (.int (1 : Int32)), .val (.ref b799), .val (.ref b812), .val (.ref b815), .val (.ref b824), .val (.ref b834), .val (.int (1 : Int32)), .val (.int p4)] [(.int (1 : Int32))])) _
        refine XS.goto X951.here hx rfl (pc0 := 294) (pc' := 298) rfl (hb hby at_294) (by decide) (by decide) ?_
        show Steps p.tables e below (T951.setTop (mkF m 298 #[.val (.int p0), .val (.int p1), .val (.long q2), .second, .val (.long q3), .second, .val (.int p4), .val (.int p5), .val (.int (1 : Int32)), .val (.int (1 : Int32)), .val (.ref b799), .val (.ref b812), .val (.ref b815), .val (.ref b824), .val (.ref b834), .val (.int (1 : Int32)), .val (.int p4)] [(.int (1 : Int32))])) _
        exact kt
      obtain ⟨fs, hr, hrun, hended, hW, hsame⟩ := X951.leave (v := some (.int (1 : Int32))) (fun h => by rw [Bd.returns] at h; cases h) (hlocks := by first | exact BodyLoose.notSynchronized Bd | exact Body.notSynchronized Bd)
      refine ⟨_, _, k954 _ (retN X951 hx (t := .boolean) Bd.returns (by simp) (hb hby at_298) hr), hrun, hended, _, _, rfl, ?_, ⟨_, rfl⟩, hW, hsame.mono (by decide) (by decide)⟩
      show Q0 Z p0 p1 q2 q3 p4 p5 h0 n0 _ T951.heap _
      rw [eq951]
      exact ⟨rfl, N951⟩
set_option maxRecDepth 65536 in
set_option maxHeartbeats 40000000 in
theorem comes_1 {Post : Tables → Env → Array Value → State → Outcome → State → Prop} (hpost : ∀ tb e args s v u, (limb_1_1.after args s (.returned v) u = true ∧ limb_1_2.after args s (.returned v) u = true ∧ True) → FrameEnd s (.returned v) u (Jvm.fieldLocs frame_1_writes args s ++ Jvm.arrayLocs frame_1_arrays args s ++ Jvm.staticLocs frame_1_statics s) 32 704 → Post tb e args s (.returned v) u) :
    ArmFor flags0 classFile x code maxLocals ret World_1 tables_1 room_1 Calls_1 rest_1 Pre_1 Post := by
  intro l hfl _ _ p e ha hc hk s m args below hf hA hF happ hP
  obtain ⟨hcalls, hrest, hpre⟩ := hP
  obtain ⟨-, -, -, hnamed, -, -, -, hat⟩ := (Spec.applies_iff hf).mp happ
  obtain ⟨hg, hn⟩ := and_e (Cond.before_iff.mp (show (Jvm.Cond.and given_1 narrow_1).before args s = true from hpre))
  have hcount := (and_e hg).1
  have hgs0 := (and_e hg).2
  have hi0 := (and_e hgs0).1
  have hgs1 := (and_e hgs0).2
  have hi1 := (and_e hgs1).1
  have hgs2 := (and_e hgs1).2
  have hi2 := (and_e hgs2).1
  have hgs3 := (and_e hgs2).2
  have hi3 := (and_e hgs3).1
  have hgs4 := (and_e hgs3).2
  have hi4 := (and_e hgs4).1
  have hgs5 := (and_e hgs4).2
  have hi5 := hgs5
  obtain ⟨w0, w1, w2, w3, w4, w5, rfl⟩ : ∃ w0 w1 w2 w3 w4 w5 : Value, args = #[w0, w1, w2, w3, w4, w5] := by
    have hs : args.size = 6 := by simpa [Cond.value, given_1] using hcount
    obtain ⟨L⟩ := args
    match L, hs with
    | [w0, w1, w2, w3, w4, w5], _ => exact ⟨w0, w1, w2, w3, w4, w5, rfl⟩
  have hw := fun d (hd : d ∈ tables_1) => atoms_spec (ws := Jvm.Cond.code x code maxLocals ret :: tables_1) hat d (List.mem_cons_of_mem _ hd)
  have hfit : Fit s := fun {y c} hc i hi => by
    obtain ⟨ha, rfl⟩ := Array.getElem?_eq_some_iff.mp hc
    have q := List.all_eq_true.mp ((Array.all_eq_true_iff_forall_mem.mp hF) _ (Array.getElem_mem ha)) i (List.mem_range.mpr hi)
    simpa [Array.getElem?_eq_getElem hi] using q
  obtain ⟨i0, ei0⟩ := is_v hi0
  obtain rfl : w0 = (.int i0) := Option.some.inj ei0
  obtain ⟨i1, ei1⟩ := is_v hi1
  obtain rfl : w1 = (.int i1) := Option.some.inj ei1
  obtain ⟨i2, ei2⟩ := isL_v hi2
  obtain rfl : w2 = (.long i2) := Option.some.inj ei2
  obtain ⟨i3, ei3⟩ := isL_v hi3
  obtain rfl : w3 = (.long i3) := Option.some.inj ei3
  obtain ⟨i4, ei4⟩ := is_v hi4
  obtain rfl : w4 = (.int i4) := Option.some.inj ei4
  obtain ⟨i5, ei5⟩ := is_v hi5
  obtain rfl : w5 = (.int i5) := Option.some.inj ei5
  obtain ⟨n, o, h1, h2, h3, _, L, rfl, ⟨rfl, N⟩, hq⟩ := rm0 l s _ hw tables_1 i0 i1 i2 i3 i4 i5 s.heap s.heap.size (Nat.le_refl _)  p e ha hc hk s m _ below hf ((Spec.applies_iff_loose hf).mp happ).1 ⟨rfl, State.Warmed39.refl s, rfl⟩ trivial
  refine ⟨n, _, h1, h2, h3, hpost _ _ _ _ _ _ ⟨Cond.after_iff.mpr rfl, Cond.after_iff.mpr (eq_i res_at (Term.int_eval (1)) rfl), trivial⟩ ⟨hq.1, hq.2.1, (hq.2.2.sift fun y hy => Or.inr (N y hy)).mono (by decide) (by decide)⟩⟩
theorem main_1_1 : Claimed_1_1 := comes_1 fun _ _ _ _ _ _ h hF => ⟨h.1, hF⟩
theorem main_1_2 : Claimed_1_2 := comes_1 fun _ _ _ _ _ _ h hF => ⟨h.2.1, hF⟩
end Jvm.Pilot.@@N@@
namespace Jvm.Pilot.@@N@@
open Jvm Jvm.ClassFile Sem Op Lib Jvm.Free Jvm.Stand Jvm.Pilot.@@N@@.Jvm.D
/-! MADE BY PROGRAM (witnessworld.py) out of the Statement's table words and the real class files: 11 classes; the members and pool entries that the words name. The judged class is class 1, her method 1. -/
namespace start1
open Jvm.ClassFile
def u (s : String) : CpInfo := .utf8 (stringToUtf16 s)
/-- a pool by its gaps: so many unusable entries, then the entry; so many at the end -/
def gap : Nat → List CpInfo → List CpInfo
  | 0, r => r
  | n + 1, r => .unusable :: gap n r
def poolList (es : List (Nat × CpInfo)) (last : Nat) : List CpInfo := es.foldr (fun e r => gap e.1 (e.2 :: r)) (gap last [])
def pool (es : List (Nat × CpInfo)) (last : Nat) : Array CpInfo := ⟨poolList es last⟩
def fileOf (pool : Array CpInfo) (this : Nat) (attrs : Array Attribute := #[]) (ms : Array MethodInfo := #[]) (fl : Nat := 33) (sup : Nat := 0) (ifs : Array Nat := #[]) (fds : Array FieldInfo := #[]) : ClassFile where
  minorVersion := 0
  majorVersion := 65
  constantPool := pool
  accessFlags := fl
  thisClass := this
  superClass := sup
  interfaces := ifs
  fields := fds
  methods := ms
  attributes := attrs
def plain (name : String) (sup : Option ClassId) : Class where
  name := name
  kind := .ordinary
  loader := none
  accessFlags := 33
  super := sup
  interfaces := #[]
  cf := none
  fields := #[]
  methods := #[]
  instanceTypes := #[]
  staticTypes := #[]
  resolved := #[]
  callSites := []
  init := .initialized
  statics := none
  mirror := none

def pool0 : Array CpInfo := pool [(5, u "<init>"), (0, u "()V"), (1, .class_ 10), (1, u "java/lang/Object")] 113

def k0c0 : Code := { maxStack := 0, maxLocals := 1, code := object_method_1_code, exceptionTable := #[], attributes := #[] }
def k0m0 : Method := { name := "<init>", desc := "()V", sig := { parameters := [], returnType := none }, accessFlags := 1, code := some k0c0 }
/-- java/lang/Object -/
def k0 : Class := { plain "java/lang/Object" none with
  accessFlags := 33
  interfaces := #[]
  cf := some (fileOf pool0 8 #[] #[{ accessFlags := 1, nameIndex := 5, descriptorIndex := 6, attributes := #[] }] 33 0 #[] #[])
  fields := #[]
  methods := #[k0m0]
  instanceTypes := #[]
  staticTypes := #[]
  resolved := Array.replicate 124 none
  statics := none }

def pool1 : Array CpInfo := pool [(2, .class_ 4), (0, .nameAndType 5 6), (0, u "java/lang/Object"), (0, u "<init>"), (0, u "()V"), (0, .class_ 8), (0, u "com/example/tablewise/tablewise/propagation/Trail"), (0, .methodref 7 3), (0, .methodref 7 11), (0, .nameAndType 12 6), (0, u "openLevel"), (0, .methodref 7 14), (0, .nameAndType 15 16), (0, u "set"), (0, u "([I[JII)V"), (0, .methodref 7 18), (0, .nameAndType 15 19), (0, u "([J[JIJ)V"), (0, .methodref 7 21), (0, .nameAndType 22 6), (0, u "closeLevel"), (0, .methodref 7 24), (0, .nameAndType 25 26), (0, u "level"), (0, u "()I"), (0, .class_ 28), (0, u "com/example/tablewise/tablewise/propagation/TrailCloseLevelPinLaw"), (2, u "law"), (0, u "(IIJJII)Z")] 7

def k1m0 : Method := { name := "<init>", desc := "()V", sig := { parameters := [], returnType := none }, accessFlags := 1, code := none }
def k1c1 : Code := { maxStack := 6, maxLocals := 17, code := code, exceptionTable := #[], attributes := #[] }
def k1m1 : Method := { name := "law", desc := "(IIJJII)Z", sig := { parameters := [.int, .int, .long, .long, .int, .int], returnType := some .boolean }, accessFlags := 9, code := some k1c1 }
/-- com/example/tablewise/tablewise/propagation/TrailCloseLevelPinLaw -/
def k1 : Class := { plain "com/example/tablewise/tablewise/propagation/TrailCloseLevelPinLaw" (some 0) with
  accessFlags := 49
  interfaces := #[]
  cf := some (fileOf pool1 27 #[] #[{ accessFlags := 1, nameIndex := 5, descriptorIndex := 6, attributes := #[] }, { accessFlags := 9, nameIndex := 31, descriptorIndex := 32, attributes := #[] }] 49 2 #[] #[])
  fields := #[]
  methods := #[k1m0, k1m1]
  instanceTypes := #[]
  staticTypes := #[]
  resolved := Array.replicate 40 none
  statics := none }

def pool2 : Array CpInfo := pool [(1, .methodref 2 3), (0, .class_ 4), (0, .nameAndType 5 6), (0, u "java/lang/Object"), (0, u "<init>"), (0, u "()V"), (0, .class_ 8), (0, u "[I"), (0, .fieldref 10 11), (0, .class_ 12), (0, .nameAndType 13 14), (0, u "com/example/tablewise/tablewise/propagation/Trail"), (0, u "intArrays"), (0, u "[[I"), (0, .class_ 16), (0, u "[J"), (0, .fieldref 10 18), (0, .nameAndType 19 20), (0, u "longArrays"), (0, u "[[J"), (0, .fieldref 10 22), (0, .nameAndType 23 8), (0, u "slotIndices"), (0, .fieldref 10 25), (0, .nameAndType 26 16), (0, u "oldValues"), (0, .fieldref 10 28), (0, .nameAndType 29 8), (0, u "levelStarts"), (0, .fieldref 10 31), (0, .nameAndType 32 16), (0, u "outerStamps"), (0, .fieldref 10 34), (0, .nameAndType 35 36), (0, u "level"), (0, u "I"), (9, .fieldref 10 47), (0, .nameAndType 48 36), (0, u "entries"), (0, .fieldref 10 50), (0, .nameAndType 51 52), (0, u "stamp"), (0, u "J"), (0, .fieldref 10 54), (0, .nameAndType 55 52), (0, u "lastStamp"), (0, .methodref 10 57), (0, .nameAndType 58 59), (0, u "record"), (0, u "([I[JIJ)V"), (7, u "openLevel"), (1, u "closeLevel"), (0, u "()I"), (0, u "set"), (0, u "([I[JII)V"), (0, u "([J[JIJ)V")] 2

def k2c0 : Code := { maxStack := 2, maxLocals := 1, code := prog_23_method_1_code, exceptionTable := #[], attributes := #[] }
def k2m0 : Method := { name := "<init>", desc := "()V", sig := { parameters := [], returnType := none }, accessFlags := 1, code := some k2c0 }
def k2c1 : Code := { maxStack := 6, maxLocals := 1, code := prog_23_method_2_code, exceptionTable := #[], attributes := #[] }
def k2m1 : Method := { name := "openLevel", desc := "()V", sig := { parameters := [], returnType := none }, accessFlags := 1, code := some k2c1 }
def k2c2 : Code := { maxStack := 4, maxLocals := 3, code := prog_23_method_3_code, exceptionTable := #[], attributes := #[] }
def k2m2 : Method := { name := "closeLevel", desc := "()V", sig := { parameters := [], returnType := none }, accessFlags := 1, code := some k2c2 }
def k2c3 : Code := { maxStack := 1, maxLocals := 1, code := prog_23_method_4_code, exceptionTable := #[], attributes := #[] }
def k2m3 : Method := { name := "level", desc := "()I", sig := { parameters := [], returnType := some .int }, accessFlags := 1, code := some k2c3 }
def k2c4 : Code := { maxStack := 6, maxLocals := 5, code := prog_23_method_5_code, exceptionTable := #[], attributes := #[] }
def k2m4 : Method := { name := "set", desc := "([I[JII)V", sig := { parameters := [(.array .int), (.array .long), .int, .int], returnType := none }, accessFlags := 1, code := some k2c4 }
def k2c5 : Code := { maxStack := 6, maxLocals := 6, code := prog_23_method_6_code, exceptionTable := #[], attributes := #[] }
def k2m5 : Method := { name := "set", desc := "([J[JIJ)V", sig := { parameters := [(.array .long), (.array .long), .int, .long], returnType := none }, accessFlags := 1, code := some k2c5 }
def k2c6 : Code := { maxStack := 4, maxLocals := 6, code := prog_23_method_7_code, exceptionTable := #[], attributes := #[] }
def k2m6 : Method := { name := "record", desc := "([I[JIJ)V", sig := { parameters := [(.array .int), (.array .long), .int, .long], returnType := none }, accessFlags := 2, code := some k2c6 }
/-- com/example/tablewise/tablewise/propagation/Trail -/
def k2 : Class := { plain "com/example/tablewise/tablewise/propagation/Trail" (some 0) with
  accessFlags := 33
  interfaces := #[]
  cf := some (fileOf pool2 10 #[] #[{ accessFlags := 1, nameIndex := 5, descriptorIndex := 6, attributes := #[] }, { accessFlags := 1, nameIndex := 67, descriptorIndex := 6, attributes := #[] }, { accessFlags := 1, nameIndex := 69, descriptorIndex := 6, attributes := #[] }, { accessFlags := 1, nameIndex := 35, descriptorIndex := 70, attributes := #[] }, { accessFlags := 1, nameIndex := 71, descriptorIndex := 72, attributes := #[] }, { accessFlags := 1, nameIndex := 71, descriptorIndex := 73, attributes := #[] }, { accessFlags := 2, nameIndex := 58, descriptorIndex := 59, attributes := #[] }] 33 2 #[] #[{ accessFlags := 2, nameIndex := 13, descriptorIndex := 14, attributes := #[] }, { accessFlags := 2, nameIndex := 19, descriptorIndex := 20, attributes := #[] }, { accessFlags := 2, nameIndex := 23, descriptorIndex := 8, attributes := #[] }, { accessFlags := 2, nameIndex := 26, descriptorIndex := 16, attributes := #[] }, { accessFlags := 2, nameIndex := 48, descriptorIndex := 36, attributes := #[] }, { accessFlags := 2, nameIndex := 29, descriptorIndex := 8, attributes := #[] }, { accessFlags := 2, nameIndex := 32, descriptorIndex := 16, attributes := #[] }, { accessFlags := 2, nameIndex := 35, descriptorIndex := 36, attributes := #[] }, { accessFlags := 2, nameIndex := 51, descriptorIndex := 52, attributes := #[] }, { accessFlags := 2, nameIndex := 55, descriptorIndex := 52, attributes := #[] }])
  fields := #[{ name := "intArrays", type := (.array (.array .int)), accessFlags := 2, slot := 0, constantValue := 0 }, { name := "longArrays", type := (.array (.array .long)), accessFlags := 2, slot := 1, constantValue := 0 }, { name := "slotIndices", type := (.array .int), accessFlags := 2, slot := 2, constantValue := 0 }, { name := "oldValues", type := (.array .long), accessFlags := 2, slot := 3, constantValue := 0 }, { name := "entries", type := .int, accessFlags := 2, slot := 4, constantValue := 0 }, { name := "levelStarts", type := (.array .int), accessFlags := 2, slot := 5, constantValue := 0 }, { name := "outerStamps", type := (.array .long), accessFlags := 2, slot := 6, constantValue := 0 }, { name := "level", type := .int, accessFlags := 2, slot := 7, constantValue := 0 }, { name := "stamp", type := .long, accessFlags := 2, slot := 8, constantValue := 0 }, { name := "lastStamp", type := .long, accessFlags := 2, slot := 9, constantValue := 0 }]
  methods := #[k2m0, k2m1, k2m2, k2m3, k2m4, k2m5, k2m6]
  instanceTypes := #[(.array (.array .int)), (.array (.array .long)), (.array .int), (.array .long), .int, (.array .int), (.array .long), .int, .long, .long]
  staticTypes := #[]
  resolved := Array.replicate 76 none
  statics := none }

def pool3 : Array CpInfo := pool [(1, u "java/lang/Cloneable"), (0, .class_ 1), (0, u "java/lang/Object"), (0, .class_ 3)] 3

/-- java/lang/Cloneable -/
def k3 : Class := { plain "java/lang/Cloneable" (some 0) with
  accessFlags := 1537
  interfaces := #[]
  cf := some (fileOf pool3 2 #[] #[] 1537 4 #[] #[])
  fields := #[]
  methods := #[]
  instanceTypes := #[]
  staticTypes := #[]
  resolved := Array.replicate 8 none
  statics := none }

def pool4 : Array CpInfo := pool [(1, u "java/io/Serializable"), (0, .class_ 1), (0, u "java/lang/Object"), (0, .class_ 3)] 3

/-- java/io/Serializable -/
def k4 : Class := { plain "java/io/Serializable" (some 0) with
  accessFlags := 1537
  interfaces := #[]
  cf := some (fileOf pool4 2 #[] #[] 1537 4 #[] #[])
  fields := #[]
  methods := #[]
  instanceTypes := #[]
  staticTypes := #[]
  resolved := Array.replicate 8 none
  statics := none }

/-- the primitive byte -/
def k5 : Class := { plain "byte" none with kind := .primitive 'B', accessFlags := 0x411 }
/-- [B -/
def k6 : Class := { plain "[B" (some 0) with kind := .array 5 .byte, interfaces := #[3, 4], accessFlags := 1041 }

/-- the primitive int -/
def k7 : Class := { plain "int" none with kind := .primitive 'I', accessFlags := 0x411 }
/-- [I -/
def k8 : Class := { plain "[I" (some 0) with kind := .array 7 .int, interfaces := #[3, 4], accessFlags := 1041 }

/-- the primitive long -/
def k9 : Class := { plain "long" none with kind := .primitive 'J', accessFlags := 0x411 }
/-- [J -/
def k10 : Class := { plain "[J" (some 0) with kind := .array 9 .long, interfaces := #[3, 4], accessFlags := 1041 }

/-- [[I -/
def k11 : Class := { plain "[[I" (some 0) with kind := .array 8 (.array .int), interfaces := #[3, 4], accessFlags := 1041 }
/-- [[J -/
def k12 : Class := { plain "[[J" (some 0) with kind := .array 10 (.array .long), interfaces := #[3, 4], accessFlags := 1041 }

def heap : Heap := #[]
def classes : Array Class := #[k0, k1, k2, k3, k4, k5, k6, k7, k8, k9, k10, k11, k12]
def interned : List (Array UInt16 × Addr) := []
def slotsUsed : Nat := 0
def theMethod : MethodId := ⟨1, 1⟩
def args0 : Array Value := #[.int 1, .int 2, .long 3, .long 4, .int 5, .int 3]
def aboutOver (below : List Frame) : State where
  vm := { classes := classes, interned := interned.toArray }
  heap := heap
  slotsUsed := slotsUsed
  threads := #[{ frames := .invoking theMethod args0 :: below }]
def below0 : List Frame := [.native { method := ⟨0, 0⟩, args := #[] }]
def about1 : State := aboutOver below0
def p0 : Program := .bare "" "" ""
def e0 : Env := launch0.env 0 0 0
theorem w_frames : about1.frames = Frame.invoking theMethod args0 :: below0 := rfl
set_option maxRecDepth 65536 in
theorem w_args : argsFit about1.vm theMethod args0 = true := by decide +kernel
set_option maxRecDepth 65536 in
theorem w_heap : heapFits about1 = true := by decide +kernel
set_option maxRecDepth 65536 in
theorem w_runnable : about1.curStatus? = some .runnable := by decide +kernel
set_option maxRecDepth 65536 in
theorem w_alone : about1.alone = true := by decide +kernel
set_option maxRecDepth 65536 in
theorem w_named : about1.methodNamed? x = some theMethod := by decide +kernel
set_option maxRecDepth 65536 in
theorem w_hears : about1.hears theMethod below0 = true := by decide +kernel
set_option maxRecDepth 65536 in
theorem w_ripe : about1.ripe theMethod args0 below0 = true := by decide +kernel
theorem w_running : about1.status = .running := rfl
set_option maxRecDepth 65536 in
theorem w_room : about1.hasRoom e0.platform room_1 = true :=
  launch0.hasRoom_least _ room_1 (by decide +kernel) (by decide +kernel) (by decide +kernel) (by decide +kernel) (by decide +kernel) (by decide +kernel)
theorem allAtoms_all (ts : List Jvm.Cond) (a : Array Jvm.Value) (st : Jvm.State) : (allAtoms ts).before a st = ts.all (fun c => c.before a st) := by
  induction ts with
  | nil => rfl
  | cons c t ih =>
    show (Jvm.Cond.and c (allAtoms t)).before a st = _
    rw [Jvm.Cond.before_and, ih, List.all_cons]
def words1 : List Jvm.Cond := Jvm.Cond.code x code maxLocals ret :: tables_1
/-- a 'code' word, met by the world's own term for the bytes: nothing is compared byte by byte -/
theorem code_word {y : MethodName} {bytes : ByteArray} {mx : Nat} {rt : Option FieldType} {a : Array Value} {s : State} {m : MethodId} {meth : Method} {c : Code} (h1 : s.methodNamed? y = some m) (h2 : s.vm.method? m = some meth) (h3 : meth.code = some c) (h4 : c.code = bytes)
    (h5 : (c.maxLocals == mx && c.exceptionTable.isEmpty && decide (c.maxStack ≤ mostOperands) && decide (meth.sig.returnType = rt) && !meth.locks && decide (parseMethodDescriptor y.desc = some meth.sig)) = true) : (Jvm.Cond.code y bytes mx rt).before a s = true := by
  simp only [Bool.and_eq_true, beq_iff_eq, Bool.not_eq_true', decide_eq_true_eq] at h5
  obtain ⟨⟨⟨⟨⟨g1, g2⟩, g3⟩, g4⟩, g5⟩, g6⟩ := h5
  simp [Cond.before, Cond.holds, Cond.value, h1, h2, h3, h4, g1, g2, g3, g4, g5, g6]
def isCode : Jvm.Cond → Bool
  | .code _ _ _ _ => true
  | _ => false
theorem all_split {L : List Jvm.Cond} {P : Jvm.Cond → Bool} (h1 : L.all (fun c => isCode c || P c) = true) (h2 : ∀ c ∈ L.filter isCode, P c = true) : L.all P = true := by
  refine List.all_eq_true.mpr fun c hc => ?_
  have h := List.all_eq_true.mp h1 c hc
  rcases Bool.eq_false_or_eq_true (isCode c) with hi | hi
  · exact h2 c (List.mem_filter.mpr ⟨hc, hi⟩)
  · simpa [hi] using h
set_option maxRecDepth 65536 in
theorem w_c0 : (Jvm.Cond.code x code maxLocals ret).before args0 about1 = true := code_word (m := ⟨1, 1⟩) (meth := k1m1) (c := k1c1) (by decide +kernel) rfl rfl rfl (by decide +kernel)
set_option maxRecDepth 65536 in
theorem w_c1 : (Jvm.Cond.code ({ cls := "com/example/tablewise/tablewise/propagation/Trail", name := "<init>", desc := "()V" } : Jvm.MethodName) prog_23_method_1_code (1 : Nat) (Option.none : Option Jvm.ClassFile.FieldType)).before args0 about1 = true := code_word (m := ⟨2, 0⟩) (meth := k2m0) (c := k2c0) (by decide +kernel) rfl rfl rfl (by decide +kernel)
set_option maxRecDepth 65536 in
theorem w_c2 : (Jvm.Cond.code ({ cls := "java/lang/Object", name := "<init>", desc := "()V" } : Jvm.MethodName) object_method_1_code (1 : Nat) (Option.none : Option Jvm.ClassFile.FieldType)).before args0 about1 = true := code_word (m := ⟨0, 0⟩) (meth := k0m0) (c := k0c0) (by decide +kernel) rfl rfl rfl (by decide +kernel)
set_option maxRecDepth 65536 in
theorem w_c3 : (Jvm.Cond.code ({ cls := "com/example/tablewise/tablewise/propagation/Trail", name := "openLevel", desc := "()V" } : Jvm.MethodName) prog_23_method_2_code (1 : Nat) (Option.none : Option Jvm.ClassFile.FieldType)).before args0 about1 = true := code_word (m := ⟨2, 1⟩) (meth := k2m1) (c := k2c1) (by decide +kernel) rfl rfl rfl (by decide +kernel)
set_option maxRecDepth 65536 in
theorem w_c4 : (Jvm.Cond.code ({ cls := "com/example/tablewise/tablewise/propagation/Trail", name := "set", desc := "([I[JII)V" } : Jvm.MethodName) prog_23_method_5_code (5 : Nat) (Option.none : Option Jvm.ClassFile.FieldType)).before args0 about1 = true := code_word (m := ⟨2, 4⟩) (meth := k2m4) (c := k2c4) (by decide +kernel) rfl rfl rfl (by decide +kernel)
set_option maxRecDepth 65536 in
theorem w_c5 : (Jvm.Cond.code ({ cls := "com/example/tablewise/tablewise/propagation/Trail", name := "record", desc := "([I[JIJ)V" } : Jvm.MethodName) prog_23_method_7_code (6 : Nat) (Option.none : Option Jvm.ClassFile.FieldType)).before args0 about1 = true := code_word (m := ⟨2, 6⟩) (meth := k2m6) (c := k2c6) (by decide +kernel) rfl rfl rfl (by decide +kernel)
set_option maxRecDepth 65536 in
theorem w_c6 : (Jvm.Cond.code ({ cls := "com/example/tablewise/tablewise/propagation/Trail", name := "set", desc := "([J[JIJ)V" } : Jvm.MethodName) prog_23_method_6_code (6 : Nat) (Option.none : Option Jvm.ClassFile.FieldType)).before args0 about1 = true := code_word (m := ⟨2, 5⟩) (meth := k2m5) (c := k2c5) (by decide +kernel) rfl rfl rfl (by decide +kernel)
set_option maxRecDepth 65536 in
theorem w_c7 : (Jvm.Cond.code ({ cls := "com/example/tablewise/tablewise/propagation/Trail", name := "closeLevel", desc := "()V" } : Jvm.MethodName) prog_23_method_3_code (3 : Nat) (Option.none : Option Jvm.ClassFile.FieldType)).before args0 about1 = true := code_word (m := ⟨2, 2⟩) (meth := k2m2) (c := k2c2) (by decide +kernel) rfl rfl rfl (by decide +kernel)
set_option maxRecDepth 65536 in
theorem w_c8 : (Jvm.Cond.code ({ cls := "com/example/tablewise/tablewise/propagation/Trail", name := "level", desc := "()I" } : Jvm.MethodName) prog_23_method_4_code (1 : Nat) (Option.some Jvm.ClassFile.FieldType.int)).before args0 about1 = true := code_word (m := ⟨2, 3⟩) (meth := k2m3) (c := k2c3) (by decide +kernel) rfl rfl rfl (by decide +kernel)
def codes1 : List Jvm.Cond := [Jvm.Cond.code x code maxLocals ret, Jvm.Cond.code ({ cls := "com/example/tablewise/tablewise/propagation/Trail", name := "<init>", desc := "()V" } : Jvm.MethodName) prog_23_method_1_code (1 : Nat) (Option.none : Option Jvm.ClassFile.FieldType), Jvm.Cond.code ({ cls := "java/lang/Object", name := "<init>", desc := "()V" } : Jvm.MethodName) object_method_1_code (1 : Nat) (Option.none : Option Jvm.ClassFile.FieldType), Jvm.Cond.code ({ cls := "com/example/tablewise/tablewise/propagation/Trail", name := "openLevel", desc := "()V" } : Jvm.MethodName) prog_23_method_2_code (1 : Nat) (Option.none : Option Jvm.ClassFile.FieldType), Jvm.Cond.code ({ cls := "com/example/tablewise/tablewise/propagation/Trail", name := "set", desc := "([I[JII)V" } : Jvm.MethodName) prog_23_method_5_code (5 : Nat) (Option.none : Option Jvm.ClassFile.FieldType), Jvm.Cond.code ({ cls := "com/example/tablewise/tablewise/propagation/Trail", name := "record", desc := "([I[JIJ)V" } : Jvm.MethodName) prog_23_method_7_code (6 : Nat) (Option.none : Option Jvm.ClassFile.FieldType), Jvm.Cond.code ({ cls := "com/example/tablewise/tablewise/propagation/Trail", name := "set", desc := "([J[JIJ)V" } : Jvm.MethodName) prog_23_method_6_code (6 : Nat) (Option.none : Option Jvm.ClassFile.FieldType), Jvm.Cond.code ({ cls := "com/example/tablewise/tablewise/propagation/Trail", name := "closeLevel", desc := "()V" } : Jvm.MethodName) prog_23_method_3_code (3 : Nat) (Option.none : Option Jvm.ClassFile.FieldType), Jvm.Cond.code ({ cls := "com/example/tablewise/tablewise/propagation/Trail", name := "level", desc := "()I" } : Jvm.MethodName) prog_23_method_4_code (1 : Nat) (Option.some Jvm.ClassFile.FieldType.int)]
set_option maxRecDepth 65536 in
theorem codes_eq : words1.filter isCode = codes1 := rfl
theorem w_codes : ∀ c ∈ words1.filter isCode, c.before args0 about1 = true := by
  rw [codes_eq]
  intro c hc
  simp only [codes1, List.mem_cons, List.not_mem_nil, or_false] at hc
  rcases hc with rfl | rfl | rfl | rfl | rfl | rfl | rfl | rfl | rfl
  · exact w_c0
  · exact w_c1
  · exact w_c2
  · exact w_c3
  · exact w_c4
  · exact w_c5
  · exact w_c6
  · exact w_c7
  · exact w_c8
set_option maxRecDepth 65536 in
theorem w_t1 : (words1.take 24).all (fun c => isCode c || c.before args0 about1) = true := by decide +kernel
set_option maxRecDepth 65536 in
theorem w_t2 : ((words1.drop 24).take 24).all (fun c => isCode c || c.before args0 about1) = true := by decide +kernel
set_option maxRecDepth 65536 in
theorem w_t3 : ((words1.drop 24).drop 24).all (fun c => isCode c || c.before args0 about1) = true := by decide +kernel
theorem w_tables : (allAtoms (Jvm.Cond.code x code maxLocals ret :: tables_1)).before args0 about1 = true := by
  rw [allAtoms_all]
  show words1.all (fun c => c.before args0 about1) = true
  refine all_split ?_ w_codes
  rw [← List.take_append_drop 24 words1, List.all_append, w_t1, ← List.take_append_drop 24 (words1.drop 24), List.all_append, w_t2, w_t3]
  rfl
set_option maxRecDepth 65536 in
theorem w_case : (Jvm.Cond.and given_1 narrow_1).before args0 about1 = true := by decide +kernel
theorem w_applies : (headSpec (Jvm.Cond.code x code maxLocals ret :: tables_1) room_1).applies x e0.platform about1 = true :=
  (Spec.applies_iff w_frames).mpr ⟨w_running, w_runnable, w_alone, w_named, w_hears, w_ripe, w_room, w_tables⟩
theorem atStart : AtStart classFile x code maxLocals ret World_1 tables_1 room_1 Calls_1 rest_1 Pre_1 launch0 p0 e0 about1 theMethod args0 below0 :=
  ⟨lists_1, trivial, launch0.admits_env _ _ _, launch0.least_env, fairChoices_fair.cas, fairChoices_fair.clock, w_frames, w_args, w_heap, w_applies, trivial, trivial, w_case⟩
end start1
theorem witness_1 : WitnessClaimed_1 := ⟨start1.p0, start1.e0, start1.about1, start1.theMethod, start1.args0, start1.below0, start1.atStart⟩
end Jvm.Pilot.@@N@@
