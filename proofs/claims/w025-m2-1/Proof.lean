import JvmDerived
import JvmDerived.Pilot.@@N@@Statement
import JvmDerived.Pilot.@@N@@Code
set_option linter.unusedVariables false
set_option linter.unusedSimpArgs false
namespace Jvm.RoadKit
open Sem ClassFile Op Lib Jvm.Stand Jvm.Free Jvm.LawKit
section New
variable {p : Program} {l : Launch} {e : Env} {R : Room} {s : State} {m : MethodId} {args : Array Value} {below : List Frame} {meth : Method} {c : Code} {T : State} {locs : List Loc} {cells slots : Nat}
theorem retI (X : Stand p l e R s m args below meth c T locs cells slots) (hx : p.tables.exec = Jvm.exec) {pc : Nat} {Ls : Array Slot} {z : Int32} {rest : List Value} (hret : meth.sig.returnType = some .int) (hd : decode c.code pc = .ok (.ireturn, 1)) {fs : List Frame}
    (hl : ∀ (f : JFrame) (acts : List Action), f.method = m → f.locked = none → f.entered = [] → (doReturn e (T.setTop f) acts (some (.int z))).1 = T.setFrames fs) : Steps p.tables e below (T.setTop (mkF m pc Ls (.int z :: rest))) (T.setFrames fs) := by
  have hm' : T.vm.method? m = some meth := X.method'
  have hn : narrow .int (.int z) = .int z := rfl
  show Steps p.tables e below (T.setTop { method := m, pc := pc, locals := Ls, stack := _ :: rest, locked := none }) _
  jvm_step X.here [X.here.top, hx, hd, hm', hret, hn]
  first | (intro acts; rw [hl _ acts rfl rfl rfl]) | rw [hl _ _ rfl rfl rfl]
  exact Steps.refl _
end New
end Jvm.RoadKit
namespace Jvm.Pilot.@@N@@
open Jvm Jvm.ClassFile Sem Op Lib Jvm.Free Jvm.Stand Jvm.LawKit Jvm.RoadKit Bundle Jvm.Pilot.@@N@@.Jvm.D
section Own
variable {p : Program} {l : Launch} {e : Env} {R : Room} {s : State} {m : MethodId} {args : Array Value} {below : List Frame} {meth : Method} {c : Code} {T : State} {locs : List Loc} {cells slots : Nat} {Z : State} {a0 : Array Value} {h h' : Heap}
/-- an array of n places, whose j-th holds f j -/
def own_AF (Z : State) (h : Heap) (a : Addr) (ty : FieldType) (n : Nat) (f : Nat → Value) : Prop := n < 2147483648 ∧ ∃ c : Cell, Arr Z h a c ty ∧ c.slots.size = n ∧ ∀ j, j < n → c.slots[j]? = some (f j)
/-- an array of ints, bytes, chars, booleans -/
def own_AI (Z : State) (h : Heap) (a : Addr) (ty : FieldType) (n : Nat) (f : Nat → Int32) : Prop := own_AF Z h a ty n (fun j => .int (f j))
def own_AL (Z : State) (h : Heap) (a : Addr) (n : Nat) (f : Nat → Int64) : Prop := own_AF Z h a .long n (fun j => .long (f j))
def own_upd {α : Type} (f : Nat → α) (i : Nat) (x : α) : Nat → α := fun j => if j = i then x else f j
theorem own_AF.lt {a : Addr} {ty : FieldType} {n : Nat} {f : Nat → Value} (F : own_AF Z h a ty n f) : a < h.size := by obtain ⟨_, c, A, -⟩ := F; exact A.lt
theorem own_AI.lt {a : Addr} {ty : FieldType} {n : Nat} {f : Nat → Int32} (F : own_AI Z h a ty n f) : a < h.size := own_AF.lt F
theorem own_AL.lt {a : Addr} {n : Nat} {f : Nat → Int64} (F : own_AL Z h a n f) : a < h.size := own_AF.lt F
theorem own_AF.keep {a : Addr} {ty : FieldType} {n : Nat} {f : Nat → Value} {ws : List Addr} (F : own_AF Z h a ty n f) (K : Keep h h' ws) (q : a ∉ ws) : own_AF Z h' a ty n f := by
  obtain ⟨b, c, A, r⟩ := F; exact ⟨b, c, ⟨K.2.1 a c A.1 q, A.2⟩, r⟩
theorem own_AI.keep {a : Addr} {ty : FieldType} {n : Nat} {f : Nat → Int32} {ws : List Addr} (F : own_AI Z h a ty n f) (K : Keep h h' ws) (q : a ∉ ws) : own_AI Z h' a ty n f := own_AF.keep F K q
theorem own_AL.keep {a : Addr} {n : Nat} {f : Nat → Int64} {ws : List Addr} (F : own_AL Z h a n f) (K : Keep h h' ws) (q : a ∉ ws) : own_AL Z h' a n f := own_AF.keep F K q
theorem own_AF.congr {a : Addr} {ty : FieldType} {n : Nat} {f g : Nat → Value} (F : own_AF Z h a ty n f) (q : ∀ j, j < n → f j = g j) : own_AF Z h a ty n g := by
  obtain ⟨b, c, A, s, r⟩ := F; exact ⟨b, c, A, s, fun j hj => by rw [r j hj, q j hj]⟩
theorem own_AI.congr {a : Addr} {ty : FieldType} {n : Nat} {f g : Nat → Int32} (F : own_AI Z h a ty n f) (q : ∀ j, j < n → f j = g j) : own_AI Z h a ty n g := own_AF.congr F fun j hj => by show Value.int (f j) = .int (g j); rw [q j hj]
theorem own_AF.wr {a : Addr} {ty : FieldType} {n i : Nat} {f : Nat → Value} {v : Value} (F : own_AF Z h a ty n f) (hi : i < n) (W : Wr h h' a i v) : own_AF Z h' a ty n (own_upd f i v) := by
  obtain ⟨b, c, A, s, r⟩ := F
  refine ⟨b, _, A.same W, by rw [sz_set]; exact s, fun j hj => ?_⟩
  simp only [Cell.setSlot, own_upd, Array.getElem?_setIfInBounds]
  by_cases q : i = j
  · subst q; simp [s, hi]
  · have q' : ¬ j = i := fun e => q e.symm
    simp [q, q', r j hj]
theorem own_AI.wr {a : Addr} {ty : FieldType} {n i : Nat} {f : Nat → Int32} {x : Int32} (F : own_AI Z h a ty n f) (hi : i < n) (W : Wr h h' a i (.int x)) : own_AI Z h' a ty n (own_upd f i x) :=
  (own_AF.wr F hi W).congr fun j hj => by simp only [own_upd]; split <;> rfl
theorem own_AL.wr {a : Addr} {n i : Nat} {f : Nat → Int64} {x : Int64} (F : own_AL Z h a n f) (hi : i < n) (W : Wr h h' a i (.long x)) : own_AL Z h' a n (own_upd f i x) :=
  (own_AF.wr F hi W).congr fun j hj => by simp only [own_upd]; split <;> rfl
theorem own_idx {j : Int32} {i : Nat} (hj : j.toInt = i) : ¬ j < 0 ∧ j.toNatClampNeg = i := by
  refine ⟨by rw [Int32.lt_iff_toInt_lt, Int32.toInt_zero]; omega, ?_⟩
  have := nat_of (j := j) (by rw [Int32.lt_iff_toInt_lt, Int32.toInt_zero]; omega)
  omega
theorem own_inb {j : Int32} {i n : Nat} {cl : Cell} (hj : j.toInt = i) (hi : i < n) (hs : cl.slots.size = n) : ¬ (j < 0 ∨ cl.slots.size ≤ j.toNatClampNeg) := by
  obtain ⟨h1, h2⟩ := own_idx hj
  rintro (q | q)
  · exact h1 q
  · rw [h2, hs] at q; omega
theorem own_ldF {a : Addr} {n i : Nat} {ty : FieldType} {f : Nat → Value} {j : Int32} {v : Value} (A : own_AF Z h a ty n f) (hj : j.toInt = i) (hi : i < n) (hv : f i = v) : ∃ cl : Cell, Arr Z h a cl ty ∧ ¬ (j < 0 ∨ cl.slots.size ≤ j.toNatClampNeg) ∧ cl.slots[j.toNatClampNeg]? = some v := by
  obtain ⟨b, cl, Ar, hs, hf⟩ := A
  exact ⟨cl, Ar, own_inb hj hi hs, by rw [(own_idx hj).2, hf i hi, hv]⟩
theorem own_ldI (X : Stand p l e R s m args below meth c T locs cells slots) (hx : p.tables.exec = Jvm.exec) (hZ : Z.Warmed39 s.vm) (eT : T.heap = h) {a : Addr} {n i : Nat} {f : Nat → Int32} {j x : Int32} (A : own_AI Z h a .int n f) (hj : j.toInt = i) (hi : i < n) (hv : f i = x) {g : JFrame} (hg : g.method = m) {rest : List Value} (hs : g.stack = .int j :: .ref a :: rest) (hd : decode c.code g.pc = .ok (.iaload, 1)) :
    ∀ target, Steps p.tables e below (T.setTop { g with pc := g.pc + 1, stack := .int x :: rest }) target → Steps p.tables e below (T.setTop g) target := by
  obtain ⟨cl, Ar, h1, h2⟩ := own_ldF A hj hi (by rw [hv])
  exact X.iaload hx (by rw [eT]; exact Ar.1) (State.isArrayOf_alike hZ.alike Ar.2.1) Ar.2.2 h1 h2 hg hs hd
theorem own_ldC (X : Stand p l e R s m args below meth c T locs cells slots) (hx : p.tables.exec = Jvm.exec) (hZ : Z.Warmed39 s.vm) (eT : T.heap = h) {a : Addr} {n i : Nat} {f : Nat → Int32} {j x : Int32} (A : own_AI Z h a .char n f) (hj : j.toInt = i) (hi : i < n) (hv : f i = x) {g : JFrame} (hg : g.method = m) {rest : List Value} (hs : g.stack = .int j :: .ref a :: rest) (hd : decode c.code g.pc = .ok (.caload, 1)) :
    ∀ target, Steps p.tables e below (T.setTop { g with pc := g.pc + 1, stack := .int x :: rest }) target → Steps p.tables e below (T.setTop g) target := by
  obtain ⟨cl, Ar, h1, h2⟩ := own_ldF A hj hi (by rw [hv])
  exact X.caload hx (by rw [eT]; exact Ar.1) (State.isArrayOf_alike hZ.alike Ar.2.1) Ar.2.2 h1 h2 hg hs hd
theorem own_ldB (X : Stand p l e R s m args below meth c T locs cells slots) (hx : p.tables.exec = Jvm.exec) (hZ : Z.Warmed39 s.vm) (eT : T.heap = h) {a : Addr} {n i : Nat} {f : Nat → Int32} {j x : Int32} (A : own_AI Z h a .byte n f) (hj : j.toInt = i) (hi : i < n) (hv : f i = x) {g : JFrame} (hg : g.method = m) {rest : List Value} (hs : g.stack = .int j :: .ref a :: rest) (hd : decode c.code g.pc = .ok (.baload, 1)) :
    ∀ target, Steps p.tables e below (T.setTop { g with pc := g.pc + 1, stack := .int x :: rest }) target → Steps p.tables e below (T.setTop g) target := by
  obtain ⟨cl, Ar, h1, h2⟩ := own_ldF A hj hi (by rw [hv])
  exact X.baloadBytes hx (by rw [eT]; exact Ar.1) (State.isArrayOf_alike hZ.alike Ar.2.1) Ar.2.2 h1 h2 hg hs hd
theorem own_ldZ (X : Stand p l e R s m args below meth c T locs cells slots) (hx : p.tables.exec = Jvm.exec) (hZ : Z.Warmed39 s.vm) (eT : T.heap = h) {a : Addr} {n i : Nat} {f : Nat → Int32} {j x : Int32} (A : own_AI Z h a .boolean n f) (hj : j.toInt = i) (hi : i < n) (hv : f i = x) {g : JFrame} (hg : g.method = m) {rest : List Value} (hs : g.stack = .int j :: .ref a :: rest) (hd : decode c.code g.pc = .ok (.baload, 1)) :
    ∀ target, Steps p.tables e below (T.setTop { g with pc := g.pc + 1, stack := .int x :: rest }) target → Steps p.tables e below (T.setTop g) target := by
  obtain ⟨cl, Ar, h1, h2⟩ := own_ldF A hj hi (by rw [hv])
  exact X.baloadBooleans hx (by rw [eT]; exact Ar.1) (State.isArrayOf_alike hZ.alike Ar.2.1) Ar.2.2 h1 h2 hg hs hd
theorem own_ldJ (X : Stand p l e R s m args below meth c T locs cells slots) (hx : p.tables.exec = Jvm.exec) (hZ : Z.Warmed39 s.vm) (eT : T.heap = h) {a : Addr} {n i : Nat} {f : Nat → Int64} {j : Int32} {x : Int64} (A : own_AL Z h a n f) (hj : j.toInt = i) (hi : i < n) (hv : f i = x) {g : JFrame} (hg : g.method = m) {rest : List Value} (hs : g.stack = .int j :: .ref a :: rest) (hd : decode c.code g.pc = .ok (.laload, 1)) :
    ∀ target, Steps p.tables e below (T.setTop { g with pc := g.pc + 1, stack := .long x :: rest }) target → Steps p.tables e below (T.setTop g) target := by
  obtain ⟨cl, Ar, h1, h2⟩ := own_ldF A hj hi (by rw [hv])
  exact X.laload hx (by rw [eT]; exact Ar.1) (State.isArrayOf_alike hZ.alike Ar.2.1) Ar.2.2 h1 h2 hg hs hd
theorem own_ldR (X : Stand p l e R s m args below meth c T locs cells slots) (hx : p.tables.exec = Jvm.exec) (hZ : Z.Warmed39 s.vm) (eT : T.heap = h) {a : Addr} {n i : Nat} {ty : FieldType} {f : Nat → Value} {j : Int32} {v : Value} (hty : ty.isReference = true) (A : own_AF Z h a ty n f) (hj : j.toInt = i) (hi : i < n) (hv : f i = v) {g : JFrame} (hg : g.method = m) {rest : List Value} (hs : g.stack = .int j :: .ref a :: rest) (hd : decode c.code g.pc = .ok (.aaload, 1)) :
    ∀ target, Steps p.tables e below (T.setTop { g with pc := g.pc + 1, stack := v :: rest }) target → Steps p.tables e below (T.setTop g) target := by
  obtain ⟨cl, Ar, h1, h2⟩ := own_ldF A hj hi hv
  exact X.aaload hx (by rw [eT]; exact Ar.1) (State.isArrayOf_alike hZ.alike Ar.2.1) hty Ar.2.2 h1 h2 hg hs hd
theorem own_len (X : Stand p l e R s m args below meth c T locs cells slots) (hx : p.tables.exec = Jvm.exec) (hZ : Z.Warmed39 s.vm) (eT : T.heap = h) {a : Addr} {n : Nat} {ty : FieldType} {f : Nat → Value} {z : Int32} (A : own_AF Z h a ty n f) (hz : z.toInt = n) {g : JFrame} (hg : g.method = m) {rest : List Value} (hs : g.stack = .ref a :: rest) (hd : decode c.code g.pc = .ok (.arraylength, 1)) :
    ∀ target, Steps p.tables e below (T.setTop { g with pc := g.pc + 1, stack := .int z :: rest }) target → Steps p.tables e below (T.setTop g) target := by
  obtain ⟨b, cl, Ar, hs', hf⟩ := A
  intro target k
  refine X.arraylength hx (by rw [eT]; exact Ar.1) (State.isArrayOf_alike hZ.alike Ar.2.1) hg hs hd target ?_
  have q : cl.slots.size.toInt32 = z := by
    apply Int32.toInt_inj.mp
    rw [hs', len_toInt (by omega), hz]
  rw [q]; exact k
theorem own_stI (X : Stand p l e R s m args below meth c T locs cells slots) (hx : p.tables.exec = Jvm.exec) (hZ : Z.Warmed39 s.vm) (eT : T.heap = h) {a : Addr} {n i : Nat} {f : Nat → Int32} {j x : Int32} (A : own_AI Z h a .int n f) (hj : j.toInt = i) (hi : i < n) {g : JFrame} (hg : g.method = m) {rest : List Value} (hs : g.stack = .int x :: .int j :: .ref a :: rest) (hd : decode c.code g.pc = .ok (.iastore, 1)) :
    ∃ T' h', Stand p l e R s m args below meth c T' (locs ++ [⟨a, i⟩]) cells slots ∧ T'.heap = h' ∧ Wr h h' a i (.int x) ∧ own_AI Z h' a .int n (own_upd f i x) ∧ ∀ target, Steps p.tables e below (T'.setTop { g with pc := g.pc + 1, stack := rest }) target → Steps p.tables e below (T.setTop g) target := by
  obtain ⟨cl, Ar, h1, -⟩ := own_ldF A hj hi rfl
  obtain ⟨T', h', X', e', W, st⟩ := stI X hx hZ eT Ar h1 hg hs hd
  rw [(own_idx hj).2] at X' W
  exact ⟨T', h', X', e', W, A.wr hi W, st⟩
theorem own_stB (X : Stand p l e R s m args below meth c T locs cells slots) (hx : p.tables.exec = Jvm.exec) (hZ : Z.Warmed39 s.vm) (eT : T.heap = h) {a : Addr} {n i : Nat} {f : Nat → Int32} {j x : Int32} (A : own_AI Z h a .byte n f) (hj : j.toInt = i) (hi : i < n) {g : JFrame} (hg : g.method = m) {rest : List Value} (hs : g.stack = .int x :: .int j :: .ref a :: rest) (hd : decode c.code g.pc = .ok (.bastore, 1)) :
    ∃ T' h', Stand p l e R s m args below meth c T' (locs ++ [⟨a, i⟩]) cells slots ∧ T'.heap = h' ∧ Wr h h' a i (.int (x.toInt8.toInt32)) ∧ own_AI Z h' a .byte n (own_upd f i (x.toInt8.toInt32)) ∧ ∀ target, Steps p.tables e below (T'.setTop { g with pc := g.pc + 1, stack := rest }) target → Steps p.tables e below (T.setTop g) target := by
  obtain ⟨cl, Ar, h1, -⟩ := own_ldF A hj hi rfl
  obtain ⟨T', h', X', e', W, st⟩ := stB X hx hZ eT Ar h1 hg hs hd
  rw [(own_idx hj).2] at X' W
  exact ⟨T', h', X', e', W, A.wr hi W, st⟩
theorem own_stZ (X : Stand p l e R s m args below meth c T locs cells slots) (hx : p.tables.exec = Jvm.exec) (hZ : Z.Warmed39 s.vm) (eT : T.heap = h) {a : Addr} {n i : Nat} {f : Nat → Int32} {j x : Int32} (A : own_AI Z h a .boolean n f) (hj : j.toInt = i) (hi : i < n) {g : JFrame} (hg : g.method = m) {rest : List Value} (hs : g.stack = .int x :: .int j :: .ref a :: rest) (hd : decode c.code g.pc = .ok (.bastore, 1)) :
    ∃ T' h', Stand p l e R s m args below meth c T' (locs ++ [⟨a, i⟩]) cells slots ∧ T'.heap = h' ∧ Wr h h' a i (.int (x &&& 1)) ∧ own_AI Z h' a .boolean n (own_upd f i (x &&& 1)) ∧ ∀ target, Steps p.tables e below (T'.setTop { g with pc := g.pc + 1, stack := rest }) target → Steps p.tables e below (T.setTop g) target := by
  obtain ⟨cl, Ar, h1, -⟩ := own_ldF A hj hi rfl
  obtain ⟨T', h', X', e', W, st⟩ := stZ X hx hZ eT Ar h1 hg hs hd
  rw [(own_idx hj).2] at X' W
  exact ⟨T', h', X', e', W, A.wr hi W, st⟩
theorem own_stC (X : Stand p l e R s m args below meth c T locs cells slots) (hx : p.tables.exec = Jvm.exec) (hZ : Z.Warmed39 s.vm) (eT : T.heap = h) {a : Addr} {n i : Nat} {f : Nat → Int32} {j x : Int32} (A : own_AI Z h a .char n f) (hj : j.toInt = i) (hi : i < n) {g : JFrame} (hg : g.method = m) {rest : List Value} (hs : g.stack = .int x :: .int j :: .ref a :: rest) (hd : decode c.code g.pc = .ok (.castore, 1)) :
    ∃ T' h', Stand p l e R s m args below meth c T' (locs ++ [⟨a, i⟩]) cells slots ∧ T'.heap = h' ∧ Wr h h' a i (.int (x.toUInt32.toUInt16.toUInt32.toInt32)) ∧ own_AI Z h' a .char n (own_upd f i (x.toUInt32.toUInt16.toUInt32.toInt32)) ∧ ∀ target, Steps p.tables e below (T'.setTop { g with pc := g.pc + 1, stack := rest }) target → Steps p.tables e below (T.setTop g) target := by
  obtain ⟨cl, Ar, h1, -⟩ := own_ldF A hj hi rfl
  obtain ⟨T', h', X', e', W, st⟩ := stC X hx hZ eT Ar h1 hg hs hd
  rw [(own_idx hj).2] at X' W
  exact ⟨T', h', X', e', W, A.wr hi W, st⟩
theorem own_stJ (X : Stand p l e R s m args below meth c T locs cells slots) (hx : p.tables.exec = Jvm.exec) (hZ : Z.Warmed39 s.vm) (eT : T.heap = h) {a : Addr} {n i : Nat} {f : Nat → Int64} {j : Int32} {x : Int64} (A : own_AL Z h a n f) (hj : j.toInt = i) (hi : i < n) {g : JFrame} (hg : g.method = m) {rest : List Value} (hs : g.stack = .long x :: .int j :: .ref a :: rest) (hd : decode c.code g.pc = .ok (.lastore, 1)) :
    ∃ T' h', Stand p l e R s m args below meth c T' (locs ++ [⟨a, i⟩]) cells slots ∧ T'.heap = h' ∧ Wr h h' a i (.long x) ∧ own_AL Z h' a n (own_upd f i x) ∧ ∀ target, Steps p.tables e below (T'.setTop { g with pc := g.pc + 1, stack := rest }) target → Steps p.tables e below (T.setTop g) target := by
  obtain ⟨cl, Ar, h1, -⟩ := own_ldF A hj hi rfl
  obtain ⟨T', h', X', e', W, st⟩ := stJ X hx hZ eT Ar h1 hg hs hd
  rw [(own_idx hj).2] at X' W
  exact ⟨T', h', X', e', W, A.wr hi W, st⟩
theorem own_newF {a : Addr} {cA : ClassId} {ty : FieldType} {n : Int32} {i : Nat} (hn : n.toInt = i) (A : Arr Z h a (newA cA ty n) ty) : own_AF Z h a ty i (fun _ => defaultValue ty) := by
  obtain ⟨h1, h2⟩ := own_idx hn
  have := n.toInt_lt
  refine ⟨by omega, _, A, by rw [sz_new, h2], fun j hj => ?_⟩
  simp [newA, h2, hj]
theorem own_newI {a : Addr} {cA : ClassId} {ty : FieldType} {n : Int32} {i : Nat} (hn : n.toInt = i) (A : Arr Z h a (newA cA ty n) ty) (hd : defaultValue ty = .int 0) : own_AI Z h a ty i (fun _ => 0) :=
  (own_newF hn A).congr fun _ _ => hd
theorem own_newL {a : Addr} {cA : ClassId} {n : Int32} {i : Nat} (hn : n.toInt = i) (A : Arr Z h a (newA cA .long n) .long) : own_AL Z h a i (fun _ => 0) :=
  (own_newF hn A).congr fun _ _ => rfl
theorem own_Sta.keep {C n d : String} {v : Value} {ws : List Addr} (F : Sta Z h C n d v) (K : Keep h h' ws) (q : ∀ x ∈ ws, ∀ cl : Cell, h[x]? = some cl → cl.vm.isStatics = false) : Sta Z h' C n d v := by
  obtain ⟨cf, i, k, f, st, cell, h1, h2, h3, h4, h5, h6, h7⟩ := F
  refine ⟨cf, i, k, f, st, cell, h1, h2, h3, h4, K.2.1 st cell h5 (fun q' => ?_), h6, h7⟩
  have := q st q' cell h5
  rw [h6] at this; cases this
theorem own_selP {args : Array Value} {C : String} {y y' : MethodName} (hcls : y'.cls = y.cls) (hs : (Jvm.Cond.selects C y' y').before args s = true) (hi' : (Jvm.Cond.instanceMethod y').before args s = true) (hp : (Jvm.Cond.privateMethod y).before args s = true) (hi : (Jvm.Cond.instanceMethod y).before args s = true) (hy : y.cls ≠ "java/lang/invoke/MethodHandle" ∧ y.cls ≠ "java/lang/invoke/VarHandle") : (Jvm.Cond.selects y.cls y y).before args s = true := by
  obtain ⟨mk, methM, hnamed, -⟩ := Cond.instanceMethod_spec hi'
  obtain ⟨kr, hk, hni⟩ := notFace_of_selects hs mk hnamed
  have hc := findClass_of_methodNamed hnamed
  rw [hcls] at hc
  exact selects_self_of_private hc hk hni (Cond.privateMethod_at hp) hi hy
end Own

def own_wrap (n k : Nat) : Nat := if k < n then k else k - n
def own_inv (n : Nat) (q : List Int32) (H : Nat) (fr fw : Nat → Int32) : Prop :=
  H < n ∧ q.length ≤ n ∧ q.Nodup ∧ (∀ x ∈ q, ∃ i : Nat, x.toInt = (i : Int) ∧ i < n) ∧ (∀ i, i < q.length → fr (own_wrap n (H + i)) = q.getD i 0) ∧ (∀ (x : Int32) (i : Nat), x.toInt = (i : Int) → i < n → fw i = if x ∈ q then 1 else 0)
def own_add (q : List Int32) (v : Int32) : List Int32 := if v ∈ q then q else q ++ [v]
theorem own_pig : ∀ (n : Nat) (q : List Int32), q.Nodup → (∀ x ∈ q, ∃ i : Nat, x.toInt = (i : Int) ∧ i < n) → q.length ≤ n
  | 0, q, _, h => by
    cases q with
    | nil => simp
    | cons x r => obtain ⟨i, _, hi⟩ := h x (by simp); omega
  | n + 1, q, hd, h => by
    by_cases hx : ∃ x ∈ q, x.toInt = (n : Int)
    · obtain ⟨x, hx, ex⟩ := hx
      have := own_pig n (q.erase x) (hd.erase x) (fun y hy => by
        obtain ⟨i, e, hi⟩ := h y (List.mem_of_mem_erase hy)
        refine ⟨i, e, ?_⟩
        have h1 : y ≠ x := fun z => by subst z; exact (List.Nodup.not_mem_erase hd) hy
        have h2 : i ≠ n := fun z => h1 (Int32.toInt_inj.mp (by omega))
        omega)
      rw [List.length_erase_of_mem hx] at this
      omega
    · have := own_pig n q hd (fun y hy => by
        obtain ⟨i, e, hi⟩ := h y hy
        exact ⟨i, e, by have : i ≠ n := fun z => hx ⟨y, hy, by omega⟩
                        omega⟩)
      omega
theorem own_nin {n : Nat} {q : List Int32} {H : Nat} {fr fw : Nat → Int32} (I : own_inv n q H fr fw) {v : Int32} {k : Nat} (hv : v.toInt = (k : Int)) (hk : k < n) (h : fw k = 0) : v ∉ q := fun hq => by
  have := I.2.2.2.2.2 v k hv hk
  rw [if_pos hq, h] at this
  exact absurd this (by decide)
theorem own_mem {n : Nat} {q : List Int32} {H : Nat} {fr fw : Nat → Int32} (I : own_inv n q H fr fw) {v : Int32} {k : Nat} (hv : v.toInt = (k : Int)) (hk : k < n) (h : ¬ fw k = 0) : v ∈ q := Classical.byContradiction fun hq => by
  have := I.2.2.2.2.2 v k hv hk
  rw [if_neg hq] at this
  exact h this
theorem own_wlt {n H j : Nat} (h1 : H < n) (h2 : j ≤ n) : own_wrap n (H + j) < n := by unfold own_wrap; split <;> omega
theorem own_inv_add {n : Nat} {q : List Int32} {H : Nat} {fr fw : Nat → Int32} (I : own_inv n q H fr fw) {v : Int32} {k : Nat} (hv : v.toInt = (k : Int)) (hk : k < n) (hq : v ∉ q) : q.length < n ∧ own_inv n (q ++ [v]) H (own_upd fr (own_wrap n (H + q.length)) v) (own_upd fw k 1) := by
  obtain ⟨h1, h2, h3, h4, h5, h6⟩ := I
  have nd : (q ++ [v]).Nodup := by
    rw [List.nodup_append]
    refine ⟨h3, by simp, fun a ha b hb => ?_⟩
    rw [List.mem_singleton] at hb
    subst hb
    exact fun e => hq (e ▸ ha)
  have al : ∀ x ∈ q ++ [v], ∃ i : Nat, x.toInt = (i : Int) ∧ i < n := fun x hx => by
    rcases List.mem_append.mp hx with hx | hx
    · exact h4 x hx
    · rw [List.mem_singleton] at hx; subst hx; exact ⟨k, hv, hk⟩
  have hl := own_pig n _ nd al
  have hl' : q.length < n := by simp at hl; omega
  refine ⟨hl', h1, hl, nd, al, fun i hi => ?_, fun x i hx hin => ?_⟩
  · simp only [List.length_append, List.length_cons, List.length_nil] at hi
    by_cases e : i = q.length
    · subst e
      simp [own_upd]
    · have ne : ¬ own_wrap n (H + i) = own_wrap n (H + q.length) := by
        unfold own_wrap
        split <;> split <;> omega
      have hi' : i < q.length := by omega
      simp only [own_upd, if_neg ne, h5 i hi']
      simp [List.getD, List.getElem?_append, hi']
  · by_cases e : i = k
    · subst e
      have : x = v := Int32.toInt_inj.mp (by omega)
      subst this
      simp [own_upd]
    · have ne : ¬ x = v := fun z => e (by subst z; omega)
      simp only [own_upd, if_neg e, h6 x i hx hin, List.mem_append, List.mem_singleton, ne, or_false]
theorem own_inv_take {n : Nat} {x : Int32} {q : List Int32} {H : Nat} {fr fw : Nat → Int32} (I : own_inv n (x :: q) H fr fw) : fr H = x ∧ ∃ k : Nat, x.toInt = (k : Int) ∧ k < n ∧ own_inv n q (own_wrap n (H + 1)) fr (own_upd fw k 0) := by
  obtain ⟨h1, h2, h3, h4, h5, h6⟩ := I
  have e0 := h5 0 (by simp)
  have w0 : own_wrap n (H + 0) = H := by unfold own_wrap; split <;> omega
  rw [w0] at e0
  obtain ⟨k, hk, hkn⟩ := h4 x (by simp)
  rw [List.nodup_cons] at h3
  simp only [List.length_cons] at h2
  refine ⟨by simpa using e0, k, hk, hkn, own_wlt h1 (by omega), by omega, h3.2, fun y hy => h4 y (List.mem_cons_of_mem _ hy), fun i hi => ?_, fun y i hy hin => ?_⟩
  · have := h5 (i + 1) (by simp; omega)
    have w1 : own_wrap n (own_wrap n (H + 1) + i) = own_wrap n (H + (i + 1)) := by
      unfold own_wrap
      split <;> split <;> split <;> omega
    rw [w1, this]
    simp
  · by_cases e : i = k
    · subst e
      have : y = x := Int32.toInt_inj.mp (by omega)
      subst this
      simp [own_upd, h3.1]
    · have ne : ¬ y = x := fun z => e (by subst z; omega)
      simp only [own_upd, if_neg e, h6 y i hy hin, List.mem_cons, ne, false_or]
def own_Ring (Z : State) (h : Heap) (r ra wa : Addr) (nn : Int32) (n : Nat) (q : List Int32) : Prop := ∃ (H : Nat) (hd cnt : Int32) (fr fw : Nat → Int32), Exa Z h r "com/example/tablewise/tablewise/propagation/WaitingRing" ∧ Fld Z h r "com/example/tablewise/tablewise/propagation/WaitingRing" "ring" "[I" (.ref ra) ∧ Fld Z h r "com/example/tablewise/tablewise/propagation/WaitingRing" "waiting" "[Z" (.ref wa) ∧ Fld Z h r "com/example/tablewise/tablewise/propagation/WaitingRing" "head" "I" (.int hd) ∧ Fld Z h r "com/example/tablewise/tablewise/propagation/WaitingRing" "count" "I" (.int cnt) ∧ own_AI Z h ra .int n fr ∧ own_AI Z h wa .boolean n fw ∧ r ≠ ra ∧ r ≠ wa ∧ ra ≠ wa ∧ nn.toInt = (n : Int) ∧ n ≤ 4 ∧ hd.toInt = (H : Int) ∧ cnt.toInt = (q.length : Int) ∧ own_inv n q H fr fw
theorem own_Ring.keep {Z : State} {h h' : Heap} {r ra wa : Addr} {nn : Int32} {n : Nat} {q : List Int32} {ws : List Addr} (F : own_Ring Z h r ra wa nn n q) (Kp : Keep h h' ws) (q1 : r ∉ ws) (q2 : ra ∉ ws) (q3 : wa ∉ ws) : own_Ring Z h' r ra wa nn n q := by
  obtain ⟨H, hd, cnt, fr, fw, E, F1, F2, F3, F4, V1, V2, rest⟩ := F
  exact ⟨H, hd, cnt, fr, fw, E.keep Kp, F1.keep Kp q1, F2.keep Kp q1, F3.keep Kp q1, F4.keep Kp q1, V1.keep Kp q2, V2.keep Kp q3, rest⟩
theorem own_Ring.lt {Z : State} {h : Heap} {r ra wa : Addr} {nn : Int32} {n : Nat} {q : List Int32} (F : own_Ring Z h r ra wa nn n q) : r < h.size := by
  obtain ⟨H, hd, cnt, fr, fw, E, rest⟩ := F; exact E.lt
theorem own_Ring.lt2 {Z : State} {h : Heap} {r ra wa : Addr} {nn : Int32} {n : Nat} {q : List Int32} (F : own_Ring Z h r ra wa nn n q) : ra < h.size := by
  obtain ⟨H, hd, cnt, fr, fw, E, F1, F2, F3, F4, V1, V2, rest⟩ := F; exact V1.lt
theorem own_Ring.lt3 {Z : State} {h : Heap} {r ra wa : Addr} {nn : Int32} {n : Nat} {q : List Int32} (F : own_Ring Z h r ra wa nn n q) : wa < h.size := by
  obtain ⟨H, hd, cnt, fr, fw, E, F1, F2, F3, F4, V1, V2, rest⟩ := F; exact V2.lt
theorem own_Ring.exa {Z : State} {h : Heap} {r ra wa : Addr} {nn : Int32} {n : Nat} {q : List Int32} (F : own_Ring Z h r ra wa nn n q) : Exa Z h r "com/example/tablewise/tablewise/propagation/WaitingRing" := by
  obtain ⟨H, hd, cnt, fr, fw, E, rest⟩ := F; exact E
theorem own_inv_nil {n : Nat} (h : 0 < n) : own_inv n [] 0 (fun _ => 0) (fun _ => 0) := ⟨h, by simp, by simp, by simp, by simp, by simp⟩

theorem d1_0 : decode prog_25_method_1_code 0 = .ok (.aload_n 0, 1) := by decide +kernel
theorem d1_1 : decode prog_25_method_1_code 1 = .ok (.invokespecial 1, 3) := by decide +kernel
theorem d1_4 : decode prog_25_method_1_code 4 = .ok (.aload_n 0, 1) := by decide +kernel
theorem d1_5 : decode prog_25_method_1_code 5 = .ok (.iload_n 1, 1) := by decide +kernel
theorem d1_6 : decode prog_25_method_1_code 6 = .ok (.newarray .int, 2) := by decide +kernel
theorem d1_8 : decode prog_25_method_1_code 8 = .ok (.putfield 7, 3) := by decide +kernel
theorem d1_11 : decode prog_25_method_1_code 11 = .ok (.aload_n 0, 1) := by decide +kernel
theorem d1_12 : decode prog_25_method_1_code 12 = .ok (.iload_n 1, 1) := by decide +kernel
theorem d1_13 : decode prog_25_method_1_code 13 = .ok (.newarray .boolean, 2) := by decide +kernel
theorem d1_15 : decode prog_25_method_1_code 15 = .ok (.putfield 13, 3) := by decide +kernel
theorem d1_18 : decode prog_25_method_1_code 18 = .ok (.return_, 1) := by decide +kernel
theorem pn_1 : plainName "com/example/tablewise/tablewise/propagation/WaitingRing" = true := by first | (simp [plainName, overriddenIn]; done) | decide +kernel
theorem ef_1 (m : MethodId) (x0 : Addr) (x1 : Int32) : entryFrame m #[(.ref x0), (.int x1)] 2 = mkF m 0 #[.val (.ref x0), .val (.int x1)] [] := by first | (simp [entryFrame, mkF, argsToLocals, Value.category]; done) | rfl
def Q1 (Z : State) (r : Addr) (nn : Int32) (n : Nat) (h0 : Heap) (n0 : Nat) (rv_ : Option Value) (h : Heap) (LL_ : List Loc) : Prop := rv_ = none ∧ Fr n0 LL_ ∧ Keep h0 h [r] ∧ (∃ ra wa : Addr, own_Ring Z h r ra wa nn n [] ∧ n0 ≤ ra ∧ n0 ≤ wa)
set_option maxRecDepth 65536 in
set_option maxHeartbeats 40000000 in
theorem rm1 (l : Launch) (Z : State) (a0 : Array Value) (hw : ∀ d ∈ tables_1, d.before a0 Z = true) (ws : List Jvm.Cond) (r : Addr) (nn : Int32) (n : Nat) (h0 : Heap) (n0 : Nat) (Z0 : n0 ≤ h0.size) (E_r : Exa Z h0 r "com/example/tablewise/tablewise/propagation/WaitingRing") (F_r_ring : Fld Z h0 r "com/example/tablewise/tablewise/propagation/WaitingRing" "ring" "[I" .null) (F_r_waiting : Fld Z h0 r "com/example/tablewise/tablewise/propagation/WaitingRing" "waiting" "[Z" .null) (F_r_head : Fld Z h0 r "com/example/tablewise/tablewise/propagation/WaitingRing" "head" "I" (.int (0 : Int32))) (F_r_count : Fld Z h0 r "com/example/tablewise/tablewise/propagation/WaitingRing" "count" "I" (.int (0 : Int32))) (g_r : n0 ≤ r) (hnn : nn.toInt = (n : Int)) (hn1 : 0 < n) (hn4 : n ≤ 4) :
    MetFree l (⟨"com/example/tablewise/tablewise/propagation/WaitingRing", "<init>", "(I)V"⟩ : MethodName) (head1 (Jvm.Cond.code (⟨"com/example/tablewise/tablewise/propagation/WaitingRing", "<init>", "(I)V"⟩ : MethodName) prog_25_method_1_code 2 none :: ws) ({ frames := 1, cells := 2, slots := 8, locals := 12 } : Room)) (fun aa UU => aa = #[(.ref r), (.int nn)] ∧ Z.Warmed39 UU.vm ∧ UU.heap = h0) (fun _ _ _ _ _ => True) (fun _ UU oo UV => ∃ vv LL, oo = .returned vv ∧ Q1 Z r nn n h0 n0 vv UV.heap LL ∧ FrameEnd UU oo UV LL ({ frames := 1, cells := 2, slots := 8, locals := 12 } : Room).cells ({ frames := 1, cells := 2, slots := 8, locals := 12 } : Room).slots) := by
  refine MetFree.of_bodySF (plainFor_of_name pn_1) hisR ?_
  intro p e s m args below meth c s₁ Bd hml0 hP hK
  obtain ⟨rfl, hZ, hh⟩ := hP
  have hx := Bd.exec
  have hby := Bd.bytes
  have hml : c.maxLocals = 2 := hml0
  have hown : s.vm.findClass "com/example/tablewise/tablewise/propagation/WaitingRing" = some m.cls := findClass_of_methodNamed Bd.named
  have hnm := (name_of_methodNamed Bd.named Bd.method).1
  have X0 : Stand p l e ({ frames := 1, cells := 2, slots := 8, locals := 12 } : Room) s m #[(.ref r), (.int nn)] below meth c s₁ [] 0 0 := Stand.of_body Bd
  have e0 : s₁.heap = h0 := by rw [← hh, Bd.state]; rfl
  have N0 := Fr.nil n0
  have k0 : ∀ tg_, Steps p.tables e below (s₁.setTop (mkF m 0 #[.val (.ref r), .val (.int nn)] [])) tg_ → Steps p.tables e below (s₁.setTop (entryFrame m #[(.ref r), (.int nn)] 2)) tg_ := fun tg_ k => castTop (ef_1 m r nn) k
  obtain ⟨T1, X1, e1, st1⟩ := initO X0 hx hZ hown (hw _ (List.mem_of_getElem? (i := 6) rfl)) (hw _ (List.mem_of_getElem? (i := 7) rfl)) (hw _ (List.mem_of_getElem? (i := 8) rfl)) e0 (g := (mkF m 1 #[.val (.ref r), .val (.int nn)] [(.ref r)])) rfl (by rw [hml]; rfl) rfl (hb hby d1_1) (by decide) (W := 0) (by show 2 * 0 + _ ≤ _; exact Nat.le_of_eq rfl) (by decide)
  obtain ⟨T2, h2, kA2, X2, e2, E2, A2, st2⟩ := newP X1 hx hZ (hw _ (List.mem_of_getElem? (i := 9) rfl)) e1 (g := (mkF m 6 #[.val (.ref r), .val (.int nn)] [(.int nn), (.ref r)])) rfl (hb hby d1_6) rfl (own_idx hnn).1 (cap := 4) (by rw [(own_idx hnn).2]; omega) (by decide) (by decide) (by decide)
  obtain ⟨b2, g2⟩ : ∃ z, z = h0.size := ⟨_, rfl⟩
  rw [← g2] at A2 st2
  have ne_r_b2 : r ≠ b2 := Nat.ne_of_lt (Nat.lt_of_lt_of_le (E_r).lt (Nat.le_of_eq g2.symm))
  have ge_b2 : n0 ≤ b2 := Nat.le_trans Z0 (Nat.le_of_eq g2.symm)
  have sz_b2 : h0.size ≤ b2 := Nat.le_trans (Keep.refl h0 [r]).1 (Nat.le_of_eq g2.symm)
  have V2 : own_AI Z h2 b2 .int n (fun _ => 0) := own_newI hnn A2 rfl
  have f3 := (F_r_ring.keep ((Keep.refl _ []).ext E2) nin0)
  have f4 := (E_r.keep ((Keep.refl _ []).ext E2))
  obtain ⟨T5, h5, X5, e5, W5, st5⟩ := putF X2 hx hZ hown (host := "") (Or.inl (hw _ (List.mem_of_getElem? (i := 10) rfl))) Via.refl e2 f3 f4 (Or.inr ⟨(hw _ (List.mem_of_getElem? (i := 11) rfl)), rfl, hnm⟩) (hw _ (List.mem_of_getElem? (i := 1) rfl)) (ty := (.array .int)) (by decide) rfl rfl (g := (mkF m 8 #[.val (.ref r), .val (.int nn)] [(.ref b2), (.ref r)])) rfl rfl (hb hby d1_8)
  have N5 := Fr.snoc X5 N0 g_r
  have F5 := Fld.same W5 f3
  obtain ⟨T6, h6, kA6, X6, e6, E6, A6, st6⟩ := newP X5 hx hZ (hw _ (List.mem_of_getElem? (i := 12) rfl)) e5 (g := (mkF m 13 #[.val (.ref r), .val (.int nn)] [(.int nn), (.ref r)])) rfl (hb hby d1_13) rfl (own_idx hnn).1 (cap := 4) (by rw [(own_idx hnn).2]; omega) (by decide) (by decide) (by decide)
  obtain ⟨b6, g6⟩ : ∃ z, z = h5.size := ⟨_, rfl⟩
  rw [← g6] at A6 st6
  have f7 := (f4.keep (Keep.of_wr W5))
  have ne_r_b6 : r ≠ b6 := Nat.ne_of_lt (Nat.lt_of_lt_of_le (f7).lt (Nat.le_of_eq g6.symm))
  have f8 := (V2.keep (Keep.of_wr W5) (ninS (Ne.symm ne_r_b2) nin0))
  have ne_b2_b6 : b2 ≠ b6 := Nat.ne_of_lt (Nat.lt_of_lt_of_le (f8).lt (Nat.le_of_eq g6.symm))
  have f9 := (Nat.le_trans (Nat.le_trans Z0 ((Keep.refl _ []).ext E2).1) (Keep.of_wr W5).1)
  have ge_b6 : n0 ≤ b6 := Nat.le_trans f9 (Nat.le_of_eq g6.symm)
  have f10 := (((Keep.refl h0 [r]).trans ((Keep.refl _ []).ext E2) all0).trans (Keep.of_wr W5) (allS (Or.inl (List.mem_of_getElem? (i := 0) rfl)) all0))
  have sz_b6 : h0.size ≤ b6 := Nat.le_trans f10.1 (Nat.le_of_eq g6.symm)
  have V6 : own_AI Z h6 b6 .boolean n (fun _ => 0) := own_newI hnn A6 rfl
  have f11 := ((Fld.other W5 (F_r_waiting.keep ((Keep.refl _ []).ext E2) nin0) (Or.inr (slot_ne (Or.inr (hw _ (List.mem_of_getElem? (i := 14) rfl))) (Or.inr (hw _ (List.mem_of_getElem? (i := 11) rfl))) (by decide) (t := (.array .boolean)) (t' := (.array .int)) (by decide) (by decide)))).keep ((Keep.refl _ []).ext E6) nin0)
  have f12 := (f7.keep ((Keep.refl _ []).ext E6))
  obtain ⟨T13, h13, X13, e13, W13, st13⟩ := putF X6 hx hZ hown (host := "") (Or.inl (hw _ (List.mem_of_getElem? (i := 13) rfl))) Via.refl e6 f11 f12 (Or.inr ⟨(hw _ (List.mem_of_getElem? (i := 14) rfl)), rfl, hnm⟩) (hw _ (List.mem_of_getElem? (i := 1) rfl)) (ty := (.array .boolean)) (by decide) rfl rfl (g := (mkF m 15 #[.val (.ref r), .val (.int nn)] [(.ref b6), (.ref r)])) rfl rfl (hb hby d1_15)
  have N13 := Fr.snoc X13 N5 g_r
  have F13 := Fld.same W13 f11
  have k14 : ∀ tg_, Steps p.tables e below (T13.setTop (mkF m 18 #[.val (.ref r), .val (.int nn)] [])) tg_ → Steps p.tables e below (s₁.setTop (entryFrame m #[(.ref r), (.int nn)] 2)) tg_ := by
    intro tg_ kt
    refine k0 tg_ ?_
    refine XS.aloadN X0.here hx rfl (hb hby d1_0) rfl rfl ?_
    show Steps p.tables e below (s₁.setTop (mkF m 1 #[.val (.ref r), .val (.int nn)] [(.ref r)])) _
    refine st1 _ ?_
    show Steps p.tables e below (T1.setTop (mkF m 4 #[.val (.ref r), .val (.int nn)] [])) _
    refine XS.aloadN X1.here hx rfl (hb hby d1_4) rfl rfl ?_
    show Steps p.tables e below (T1.setTop (mkF m 5 #[.val (.ref r), .val (.int nn)] [(.ref r)])) _
    refine XS.iloadN X1.here hx rfl (hb hby d1_5) rfl ?_
    show Steps p.tables e below (T1.setTop (mkF m 6 #[.val (.ref r), .val (.int nn)] [(.int nn), (.ref r)])) _
    refine st2 _ ?_
    show Steps p.tables e below (T2.setTop (mkF m 8 #[.val (.ref r), .val (.int nn)] [(.ref b2), (.ref r)])) _
    refine st5 _ ?_
    show Steps p.tables e below (T5.setTop (mkF m 11 #[.val (.ref r), .val (.int nn)] [])) _
    refine XS.aloadN X5.here hx rfl (hb hby d1_11) rfl rfl ?_
    show Steps p.tables e below (T5.setTop (mkF m 12 #[.val (.ref r), .val (.int nn)] [(.ref r)])) _
    refine XS.iloadN X5.here hx rfl (hb hby d1_12) rfl ?_
    show Steps p.tables e below (T5.setTop (mkF m 13 #[.val (.ref r), .val (.int nn)] [(.int nn), (.ref r)])) _
    refine st6 _ ?_
    show Steps p.tables e below (T6.setTop (mkF m 15 #[.val (.ref r), .val (.int nn)] [(.ref b6), (.ref r)])) _
    refine st13 _ ?_
    show Steps p.tables e below (T13.setTop (mkF m 18 #[.val (.ref r), .val (.int nn)] [])) _
    exact kt
  have f15 := ((f10.trans ((Keep.refl _ []).ext E6) all0).trans (Keep.of_wr W13) (allS (Or.inl (List.mem_of_getElem? (i := 0) rfl)) all0))
  have f16 := (f12.keep (Keep.of_wr W13))
  have f17 := (Fld.other W13 (F5.keep ((Keep.refl _ []).ext E6) nin0) (Or.inr (slot_ne (Or.inr (hw _ (List.mem_of_getElem? (i := 11) rfl))) (Or.inr (hw _ (List.mem_of_getElem? (i := 14) rfl))) (by decide) (t := (.array .int)) (t' := (.array .boolean)) (by decide) (by decide))))
  have f18 := (Fld.other W13 ((Fld.other W5 (F_r_head.keep ((Keep.refl _ []).ext E2) nin0) (Or.inr (slot_ne (Or.inl (hw _ (List.mem_of_getElem? (i := 26) rfl))) (Or.inr (hw _ (List.mem_of_getElem? (i := 11) rfl))) (by decide) (t := .int) (t' := (.array .int)) (by decide) (by decide)))).keep ((Keep.refl _ []).ext E6) nin0) (Or.inr (slot_ne (Or.inl (hw _ (List.mem_of_getElem? (i := 26) rfl))) (Or.inr (hw _ (List.mem_of_getElem? (i := 14) rfl))) (by decide) (t := .int) (t' := (.array .boolean)) (by decide) (by decide))))
  have f19 := (Fld.other W13 ((Fld.other W5 (F_r_count.keep ((Keep.refl _ []).ext E2) nin0) (Or.inr (slot_ne (Or.inl (hw _ (List.mem_of_getElem? (i := 28) rfl))) (Or.inr (hw _ (List.mem_of_getElem? (i := 11) rfl))) (by decide) (t := .int) (t' := (.array .int)) (by decide) (by decide)))).keep ((Keep.refl _ []).ext E6) nin0) (Or.inr (slot_ne (Or.inl (hw _ (List.mem_of_getElem? (i := 28) rfl))) (Or.inr (hw _ (List.mem_of_getElem? (i := 14) rfl))) (by decide) (t := .int) (t' := (.array .boolean)) (by decide) (by decide))))
  have f20 := ((f8.keep ((Keep.refl _ []).ext E6) nin0).keep (Keep.of_wr W13) (ninS (Ne.symm ne_r_b2) nin0))
  have f21 := (V6.keep (Keep.of_wr W13) (ninS (Ne.symm ne_r_b6) nin0))
  obtain ⟨fs, hr, hrun, hended, hW, hsame⟩ := X13.leave (v := none) (fun _ => rfl)
  refine ⟨_, _, k14 _ (X13.returnOut hx Bd.returns (hb hby d1_18) hr), hrun, hended, _, _, rfl, ?_, ⟨_, rfl⟩, hW, hsame.mono (by decide) (by decide)⟩
  show Q1 Z r nn n h0 n0 _ T13.heap _
  rw [e13]
  exact ⟨rfl, N13, f15, ⟨b2, b6, ⟨0, 0, 0, _, _, f16, f17, F13, f18, f19, f20, f21, ne_r_b2, ne_r_b6, ne_b2_b6, hnn, hn4, by decide, by decide, own_inv_nil hn1⟩, ge_b2, ge_b6⟩⟩
theorem d4_0 : decode prog_25_method_3_code 0 = .ok (.aload_n 0, 1) := by decide +kernel
theorem d4_1 : decode prog_25_method_3_code 1 = .ok (.getfield 13, 3) := by decide +kernel
theorem d4_4 : decode prog_25_method_3_code 4 = .ok (.iload_n 1, 1) := by decide +kernel
theorem d4_5 : decode prog_25_method_3_code 5 = .ok (.baload, 1) := by decide +kernel
theorem d4_6 : decode prog_25_method_3_code 6 = .ok (.ifCond .ne 56, 3) := by decide +kernel
theorem d4_9 : decode prog_25_method_3_code 9 = .ok (.aload_n 0, 1) := by decide +kernel
theorem d4_10 : decode prog_25_method_3_code 10 = .ok (.getfield 13, 3) := by decide +kernel
theorem d4_13 : decode prog_25_method_3_code 13 = .ok (.iload_n 1, 1) := by decide +kernel
theorem d4_14 : decode prog_25_method_3_code 14 = .ok (.iconst 1, 1) := by decide +kernel
theorem d4_15 : decode prog_25_method_3_code 15 = .ok (.bastore, 1) := by decide +kernel
theorem d4_16 : decode prog_25_method_3_code 16 = .ok (.aload_n 0, 1) := by decide +kernel
theorem d4_17 : decode prog_25_method_3_code 17 = .ok (.getfield 21, 3) := by decide +kernel
theorem d4_20 : decode prog_25_method_3_code 20 = .ok (.aload_n 0, 1) := by decide +kernel
theorem d4_21 : decode prog_25_method_3_code 21 = .ok (.getfield 17, 3) := by decide +kernel
theorem d4_24 : decode prog_25_method_3_code 24 = .ok (.iadd, 1) := by decide +kernel
theorem d4_25 : decode prog_25_method_3_code 25 = .ok (.istore_n 2, 1) := by decide +kernel
theorem d4_26 : decode prog_25_method_3_code 26 = .ok (.aload_n 0, 1) := by decide +kernel
theorem d4_27 : decode prog_25_method_3_code 27 = .ok (.getfield 7, 3) := by decide +kernel
theorem d4_30 : decode prog_25_method_3_code 30 = .ok (.iload_n 2, 1) := by decide +kernel
theorem d4_31 : decode prog_25_method_3_code 31 = .ok (.aload_n 0, 1) := by decide +kernel
theorem d4_32 : decode prog_25_method_3_code 32 = .ok (.getfield 7, 3) := by decide +kernel
theorem d4_35 : decode prog_25_method_3_code 35 = .ok (.arraylength, 1) := by decide +kernel
theorem d4_36 : decode prog_25_method_3_code 36 = .ok (.if_icmp .ge 7, 3) := by decide +kernel
theorem d4_39 : decode prog_25_method_3_code 39 = .ok (.iload_n 2, 1) := by decide +kernel
theorem d4_40 : decode prog_25_method_3_code 40 = .ok (.goto 10, 3) := by decide +kernel
theorem d4_43 : decode prog_25_method_3_code 43 = .ok (.iload_n 2, 1) := by decide +kernel
theorem d4_44 : decode prog_25_method_3_code 44 = .ok (.aload_n 0, 1) := by decide +kernel
theorem d4_45 : decode prog_25_method_3_code 45 = .ok (.getfield 7, 3) := by decide +kernel
theorem d4_48 : decode prog_25_method_3_code 48 = .ok (.arraylength, 1) := by decide +kernel
theorem d4_49 : decode prog_25_method_3_code 49 = .ok (.isub, 1) := by decide +kernel
theorem d4_50 : decode prog_25_method_3_code 50 = .ok (.iload_n 1, 1) := by decide +kernel
theorem d4_51 : decode prog_25_method_3_code 51 = .ok (.iastore, 1) := by decide +kernel
theorem d4_52 : decode prog_25_method_3_code 52 = .ok (.aload_n 0, 1) := by decide +kernel
theorem d4_53 : decode prog_25_method_3_code 53 = .ok (.dup, 1) := by decide +kernel
theorem d4_54 : decode prog_25_method_3_code 54 = .ok (.getfield 17, 3) := by decide +kernel
theorem d4_57 : decode prog_25_method_3_code 57 = .ok (.iconst 1, 1) := by decide +kernel
theorem d4_58 : decode prog_25_method_3_code 58 = .ok (.iadd, 1) := by decide +kernel
theorem d4_59 : decode prog_25_method_3_code 59 = .ok (.putfield 17, 3) := by decide +kernel
theorem d4_62 : decode prog_25_method_3_code 62 = .ok (.return_, 1) := by decide +kernel
theorem pn_4 : plainName "com/example/tablewise/tablewise/propagation/WaitingRing" = true := by first | (simp [plainName, overriddenIn]; done) | decide +kernel
theorem ef_4 (m : MethodId) (x0 : Addr) (x1 : Int32) : entryFrame m #[(.ref x0), (.int x1)] 3 = mkF m 0 #[.val (.ref x0), .val (.int x1), .unset] [] := by first | (simp [entryFrame, mkF, argsToLocals, Value.category]; done) | rfl
def Q4 (Z : State) (r : Addr) (v : Int32) (ra : Addr) (wa : Addr) (nn : Int32) (n : Nat) (q : List Int32) (k : Nat) (h0 : Heap) (n0 : Nat) (rv_ : Option Value) (h : Heap) (LL_ : List Loc) : Prop := rv_ = none ∧ Fr n0 LL_ ∧ Keep h0 h [r, ra, wa] ∧ own_Ring Z h r ra wa nn n (own_add q v)
set_option maxRecDepth 65536 in
set_option maxHeartbeats 40000000 in
theorem rm4 (l : Launch) (Z : State) (a0 : Array Value) (hw : ∀ d ∈ tables_1, d.before a0 Z = true) (ws : List Jvm.Cond) (r : Addr) (v : Int32) (ra : Addr) (wa : Addr) (nn : Int32) (n : Nat) (q : List Int32) (k : Nat) (h0 : Heap) (n0 : Nat) (Z0 : n0 ≤ h0.size) (g_r : n0 ≤ r) (g_ra : n0 ≤ ra) (g_wa : n0 ≤ wa) (R : own_Ring Z h0 r ra wa nn n q) (hv : v.toInt = (k : Int)) (hk : k < n) :
    MetFree l (⟨"com/example/tablewise/tablewise/propagation/WaitingRing", "add", "(I)V"⟩ : MethodName) (head1 (Jvm.Cond.code (⟨"com/example/tablewise/tablewise/propagation/WaitingRing", "add", "(I)V"⟩ : MethodName) prog_25_method_3_code 3 none :: ws) ({ frames := 0, cells := 0, slots := 0, locals := 0 } : Room)) (fun aa UU => aa = #[(.ref r), (.int v)] ∧ Z.Warmed39 UU.vm ∧ UU.heap = h0) (fun _ _ _ _ _ => True) (fun _ UU oo UV => ∃ vv LL, oo = .returned vv ∧ Q4 Z r v ra wa nn n q k h0 n0 vv UV.heap LL ∧ FrameEnd UU oo UV LL ({ frames := 0, cells := 0, slots := 0, locals := 0 } : Room).cells ({ frames := 0, cells := 0, slots := 0, locals := 0 } : Room).slots) := by
  refine MetFree.of_bodySF (plainFor_of_name pn_4) hisR ?_
  intro p e s m args below meth c s₁ Bd hml0 hP hK
  obtain ⟨rfl, hZ, hh⟩ := hP
  have hx := Bd.exec
  have hby := Bd.bytes
  have hml : c.maxLocals = 3 := hml0
  have hown : s.vm.findClass "com/example/tablewise/tablewise/propagation/WaitingRing" = some m.cls := findClass_of_methodNamed Bd.named
  have hnm := (name_of_methodNamed Bd.named Bd.method).1
  have X0 : Stand p l e ({ frames := 0, cells := 0, slots := 0, locals := 0 } : Room) s m #[(.ref r), (.int v)] below meth c s₁ [] 0 0 := Stand.of_body Bd
  have e0 : s₁.heap = h0 := by rw [← hh, Bd.state]; rfl
  have N0 := Fr.nil n0
  have k0 : ∀ tg_, Steps p.tables e below (s₁.setTop (mkF m 0 #[.val (.ref r), .val (.int v), .unset] [])) tg_ → Steps p.tables e below (s₁.setTop (entryFrame m #[(.ref r), (.int v)] 3)) tg_ := fun tg_ k => castTop (ef_4 m r v) k
  obtain ⟨H, hd, cnt, fr, fw, E, F1, F2, F3, F4, V1, V2, ne1, ne2, ne3, hnn, hn4, hhd, hcnt, I⟩ := R
  obtain ⟨T22, X22, e22, st22⟩ := getF X0 hx hZ hown (host := "") (Or.inl (hw _ (List.mem_of_getElem? (i := 13) rfl))) Via.refl e0 F2 (g := (mkF m 1 #[.val (.ref r), .val (.int v), .unset] [(.ref r)])) rfl rfl (hb hby d4_1)
  have k23 : ∀ tg_, Steps p.tables e below (T22.setTop (mkF m 6 #[.val (.ref r), .val (.int v), .unset] [(.int (fw k))])) tg_ → Steps p.tables e below (s₁.setTop (entryFrame m #[(.ref r), (.int v)] 3)) tg_ := by
    intro tg_ kt
    refine k0 tg_ ?_
    refine XS.aloadN X0.here hx rfl (hb hby d4_0) rfl rfl ?_
    show Steps p.tables e below (s₁.setTop (mkF m 1 #[.val (.ref r), .val (.int v), .unset] [(.ref r)])) _
    refine st22 _ ?_
    show Steps p.tables e below (T22.setTop (mkF m 4 #[.val (.ref r), .val (.int v), .unset] [(.ref wa)])) _
    refine XS.iloadN X22.here hx rfl (hb hby d4_4) rfl ?_
    show Steps p.tables e below (T22.setTop (mkF m 5 #[.val (.ref r), .val (.int v), .unset] [(.int v), (.ref wa)])) _
    refine own_ldZ X22 hx hZ e22 V2 (i := k) hv hk rfl (g := (mkF m 5 #[.val (.ref r), .val (.int v), .unset] [(.int v), (.ref wa)])) rfl rfl (hb hby d4_5) _ ?_
    show Steps p.tables e below (T22.setTop (mkF m 6 #[.val (.ref r), .val (.int v), .unset] [(.int (fw k))])) _
    exact kt
  by_cases hc6_24 : (fw k) = (0 : Int32)
  · obtain ⟨T25, X25, e25, st25⟩ := getF X22 hx hZ hown (host := "") (Or.inl (hw _ (List.mem_of_getElem? (i := 13) rfl))) Via.refl e22 F2 (g := (mkF m 10 #[.val (.ref r), .val (.int v), .unset] [(.ref r)])) rfl rfl (hb hby d4_10)
    obtain ⟨T26, h26, X26, e26, W26, V26, st26⟩ := own_stZ X25 hx hZ e25 V2 (i := k) hv hk (g := (mkF m 15 #[.val (.ref r), .val (.int v), .unset] [(.int (1 : Int32)), (.int v), (.ref wa)])) rfl rfl (hb hby d4_15)
    have N26 := Fr.snoc X26 N0 g_wa
    have V26 : own_AI Z h26 wa .boolean n (own_upd fw k (1 : Int32)) := V26
    have f27 := (F3.keep (Keep.of_wr W26) (ninS ne2 nin0))
    obtain ⟨T28, X28, e28, st28⟩ := getF X26 hx hZ hown (host := "") (Or.inl (hw _ (List.mem_of_getElem? (i := 25) rfl))) Via.refl e26 f27 (g := (mkF m 17 #[.val (.ref r), .val (.int v), .unset] [(.ref r)])) rfl rfl (hb hby d4_17)
    have f29 := (F4.keep (Keep.of_wr W26) (ninS ne2 nin0))
    obtain ⟨T30, X30, e30, st30⟩ := getF X28 hx hZ hown (host := "") (Or.inl (hw _ (List.mem_of_getElem? (i := 27) rfl))) Via.refl e28 f29 (g := (mkF m 21 #[.val (.ref r), .val (.int v), .unset] [(.ref r), (.int hd)])) rfl rfl (hb hby d4_21)
    have f31 := (F1.keep (Keep.of_wr W26) (ninS ne2 nin0))
    obtain ⟨T32, X32, e32, st32⟩ := getF X30 hx hZ hown (host := "") (Or.inl (hw _ (List.mem_of_getElem? (i := 10) rfl))) Via.refl e30 f31 (g := (mkF m 27 #[.val (.ref r), .val (.int v), .val (.int (hd + cnt))] [(.ref r)])) rfl rfl (hb hby d4_27)
    obtain ⟨T33, X33, e33, st33⟩ := getF X32 hx hZ hown (host := "") (Or.inl (hw _ (List.mem_of_getElem? (i := 10) rfl))) Via.refl e32 f31 (g := (mkF m 32 #[.val (.ref r), .val (.int v), .val (.int (hd + cnt))] [(.ref r), (.int (hd + cnt)), (.ref ra)])) rfl rfl (hb hby d4_32)
    have f34 := (V1.keep (Keep.of_wr W26) (ninS ne3 nin0))
    have k35 : ∀ tg_, Steps p.tables e below (T33.setTop (mkF m 36 #[.val (.ref r), .val (.int v), .val (.int (hd + cnt))] [(.int nn), (.int (hd + cnt)), (.ref ra)])) tg_ → Steps p.tables e below (s₁.setTop (entryFrame m #[(.ref r), (.int v)] 3)) tg_ := by
      intro tg_ kt
      refine k23 tg_ ?_
      refine XS.ifNo X22.here hx rfl (hb hby d4_6) rfl ((if0 _ _).trans (teq hc6_24).2) ?_
      show Steps p.tables e below (T22.setTop (mkF m 9 #[.val (.ref r), .val (.int v), .unset] [])) _
      refine XS.aloadN X22.here hx rfl (hb hby d4_9) rfl rfl ?_
      show Steps p.tables e below (T22.setTop (mkF m 10 #[.val (.ref r), .val (.int v), .unset] [(.ref r)])) _
      refine st25 _ ?_
      show Steps p.tables e below (T25.setTop (mkF m 13 #[.val (.ref r), .val (.int v), .unset] [(.ref wa)])) _
      refine XS.iloadN X25.here hx rfl (hb hby d4_13) rfl ?_
      show Steps p.tables e below (T25.setTop (mkF m 14 #[.val (.ref r), .val (.int v), .unset] [(.int v), (.ref wa)])) _
      refine XS.iconst X25.here hx rfl (hb hby d4_14) ?_
      show Steps p.tables e below (T25.setTop (mkF m 15 #[.val (.ref r), .val (.int v), .unset] [(.int (1 : Int32)), (.int v), (.ref wa)])) _
      refine st26 _ ?_
      show Steps p.tables e below (T26.setTop (mkF m 16 #[.val (.ref r), .val (.int v), .unset] [])) _
      refine XS.aloadN X26.here hx rfl (hb hby d4_16) rfl rfl ?_
      show Steps p.tables e below (T26.setTop (mkF m 17 #[.val (.ref r), .val (.int v), .unset] [(.ref r)])) _
      refine st28 _ ?_
      show Steps p.tables e below (T28.setTop (mkF m 20 #[.val (.ref r), .val (.int v), .unset] [(.int hd)])) _
      refine XS.aloadN X28.here hx rfl (hb hby d4_20) rfl rfl ?_
      show Steps p.tables e below (T28.setTop (mkF m 21 #[.val (.ref r), .val (.int v), .unset] [(.ref r), (.int hd)])) _
      refine st30 _ ?_
      show Steps p.tables e below (T30.setTop (mkF m 24 #[.val (.ref r), .val (.int v), .unset] [(.int cnt), (.int hd)])) _
      refine XS.iadd X30.here hx rfl (hb hby d4_24) rfl ?_
      show Steps p.tables e below (T30.setTop (mkF m 25 #[.val (.ref r), .val (.int v), .unset] [(.int (hd + cnt))])) _
      refine XS.istoreN X30.here hx rfl (hb hby d4_25) rfl (l' := #[.val (.ref r), .val (.int v), .val (.int (hd + cnt))]) rfl ?_
      show Steps p.tables e below (T30.setTop (mkF m 26 #[.val (.ref r), .val (.int v), .val (.int (hd + cnt))] [])) _
      refine XS.aloadN X30.here hx rfl (hb hby d4_26) rfl rfl ?_
      show Steps p.tables e below (T30.setTop (mkF m 27 #[.val (.ref r), .val (.int v), .val (.int (hd + cnt))] [(.ref r)])) _
      refine st32 _ ?_
      show Steps p.tables e below (T32.setTop (mkF m 30 #[.val (.ref r), .val (.int v), .val (.int (hd + cnt))] [(.ref ra)])) _
      refine XS.iloadN X32.here hx rfl (hb hby d4_30) rfl ?_
      show Steps p.tables e below (T32.setTop (mkF m 31 #[.val (.ref r), .val (.int v), .val (.int (hd + cnt))] [(.int (hd + cnt)), (.ref ra)])) _
      refine XS.aloadN X32.here hx rfl (hb hby d4_31) rfl rfl ?_
      show Steps p.tables e below (T32.setTop (mkF m 32 #[.val (.ref r), .val (.int v), .val (.int (hd + cnt))] [(.ref r), (.int (hd + cnt)), (.ref ra)])) _
      refine st33 _ ?_
      show Steps p.tables e below (T33.setTop (mkF m 35 #[.val (.ref r), .val (.int v), .val (.int (hd + cnt))] [(.ref ra), (.int (hd + cnt)), (.ref ra)])) _
      refine own_len X33 hx hZ e33 f34 (z := nn) hnn (g := (mkF m 35 #[.val (.ref r), .val (.int v), .val (.int (hd + cnt))] [(.ref ra), (.int (hd + cnt)), (.ref ra)])) rfl rfl (hb hby d4_35) _ ?_
      show Steps p.tables e below (T33.setTop (mkF m 36 #[.val (.ref r), .val (.int v), .val (.int (hd + cnt))] [(.int nn), (.int (hd + cnt)), (.ref ra)])) _
      exact kt
    by_cases hc36_36 : (hd + cnt) < nn
    · have hlt37 := (own_inv_add I hv hk (own_nin I hv hk hc6_24)).1
      have hI37 := I.1
      have hj37 : (hd + cnt).toInt = ((own_wrap n (H + q.length) : Nat) : Int) := by
        have ar38 := rng32 hd
        have ar39 := rng32 cnt
        have ar40 := rng32 (hd + cnt)
        first | have ar41 : (hd + cnt).toInt = hd.toInt + cnt.toInt := (by have qw := c_iadd hd cnt; omega) | (have ar41 := c_iadd hd cnt; skip)
        have ar42 := rng32 nn
        have ar43 : (hd + cnt).toInt < nn.toInt := Int32.lt_iff_toInt_lt.mp hc36_36
        unfold own_wrap
        split <;> omega
      obtain ⟨T44, h44, X44, e44, W44, V44, st44⟩ := own_stI X33 hx hZ e33 f34 (i := (own_wrap n (H + q.length))) hj37 (own_wlt I.1 (Nat.le_of_lt hlt37)) (g := (mkF m 51 #[.val (.ref r), .val (.int v), .val (.int (hd + cnt))] [(.int v), (.int (hd + cnt)), (.ref ra)])) rfl rfl (hb hby d4_51)
      have N44 := Fr.snoc X44 N26 g_ra
      have f45 := (f29.keep (Keep.of_wr W44) (ninS ne1 nin0))
      obtain ⟨T46, X46, e46, st46⟩ := getF X44 hx hZ hown (host := "") (Or.inl (hw _ (List.mem_of_getElem? (i := 27) rfl))) Via.refl e44 f45 (g := (mkF m 54 #[.val (.ref r), .val (.int v), .val (.int (hd + cnt))] [(.ref r), (.ref r)])) rfl rfl (hb hby d4_54)
      have f47 := ((E.keep (Keep.of_wr W26)).keep (Keep.of_wr W44))
      obtain ⟨T48, h48, X48, e48, W48, st48⟩ := putF X46 hx hZ hown (host := "") (Or.inl (hw _ (List.mem_of_getElem? (i := 27) rfl))) Via.refl e46 f45 f47 (Or.inl (hw _ (List.mem_of_getElem? (i := 28) rfl))) (hw _ (List.mem_of_getElem? (i := 1) rfl)) (ty := .int) (by decide) rfl rfl (g := (mkF m 59 #[.val (.ref r), .val (.int v), .val (.int (hd + cnt))] [(.int (cnt + (1 : Int32))), (.ref r)])) rfl rfl (hb hby d4_59)
      have N48 := Fr.snoc X48 N44 g_r
      have F48 := Fld.same W48 f45
      have k49 : ∀ tg_, Steps p.tables e below (T48.setTop (mkF m 62 #[.val (.ref r), .val (.int v), .val (.int (hd + cnt))] [])) tg_ → Steps p.tables e below (s₁.setTop (entryFrame m #[(.ref r), (.int v)] 3)) tg_ := by
        intro tg_ kt
        refine k35 tg_ ?_
        refine XS.icmpNo X33.here hx rfl (hb hby d4_36) rfl (tlt hc36_36).2.1 ?_
        show Steps p.tables e below (T33.setTop (mkF m 39 #[.val (.ref r), .val (.int v), .val (.int (hd + cnt))] [(.ref ra)])) _
        refine XS.iloadN X33.here hx rfl (hb hby d4_39) rfl ?_
        show Steps p.tables e below (T33.setTop (mkF m 40 #[.val (.ref r), .val (.int v), .val (.int (hd + cnt))] [(.int (hd + cnt)), (.ref ra)])) _
        refine XS.goto X33.here hx rfl (pc0 := 40) (pc' := 50) rfl (hb hby d4_40) (by decide) (by decide) ?_
        show Steps p.tables e below (T33.setTop (mkF m 50 #[.val (.ref r), .val (.int v), .val (.int (hd + cnt))] [(.int (hd + cnt)), (.ref ra)])) _
        refine XS.iloadN X33.here hx rfl (hb hby d4_50) rfl ?_
        show Steps p.tables e below (T33.setTop (mkF m 51 #[.val (.ref r), .val (.int v), .val (.int (hd + cnt))] [(.int v), (.int (hd + cnt)), (.ref ra)])) _
        refine st44 _ ?_
        show Steps p.tables e below (T44.setTop (mkF m 52 #[.val (.ref r), .val (.int v), .val (.int (hd + cnt))] [])) _
        refine XS.aloadN X44.here hx rfl (hb hby d4_52) rfl rfl ?_
        show Steps p.tables e below (T44.setTop (mkF m 53 #[.val (.ref r), .val (.int v), .val (.int (hd + cnt))] [(.ref r)])) _
        refine XS.dup X44.here hx rfl (hb hby d4_53) rfl rfl ?_
        show Steps p.tables e below (T44.setTop (mkF m 54 #[.val (.ref r), .val (.int v), .val (.int (hd + cnt))] [(.ref r), (.ref r)])) _
        refine st46 _ ?_
        show Steps p.tables e below (T46.setTop (mkF m 57 #[.val (.ref r), .val (.int v), .val (.int (hd + cnt))] [(.int cnt), (.ref r)])) _
        refine XS.iconst X46.here hx rfl (hb hby d4_57) ?_
        show Steps p.tables e below (T46.setTop (mkF m 58 #[.val (.ref r), .val (.int v), .val (.int (hd + cnt))] [(.int (1 : Int32)), (.int cnt), (.ref r)])) _
        refine XS.iadd X46.here hx rfl (hb hby d4_58) rfl ?_
        show Steps p.tables e below (T46.setTop (mkF m 59 #[.val (.ref r), .val (.int v), .val (.int (hd + cnt))] [(.int (cnt + (1 : Int32))), (.ref r)])) _
        refine st48 _ ?_
        show Steps p.tables e below (T48.setTop (mkF m 62 #[.val (.ref r), .val (.int v), .val (.int (hd + cnt))] [])) _
        exact kt
      have f50 := ((((Keep.refl h0 [r, ra, wa]).trans (Keep.of_wr W26) (allS (Or.inl (List.mem_of_getElem? (i := 2) rfl)) all0)).trans (Keep.of_wr W44) (allS (Or.inl (List.mem_of_getElem? (i := 1) rfl)) all0)).trans (Keep.of_wr W48) (allS (Or.inl (List.mem_of_getElem? (i := 0) rfl)) all0))
      have hcn51 : (cnt + (1 : Int32)).toInt = ((q ++ [v]).length : Int) := by
        have hlt := (own_inv_add I hv hk (own_nin I hv hk hc6_24)).1
        rw [List.length_append, List.length_singleton]
        have ar52 := rng32 cnt
        have ar53 : (1 : Int32).toInt = 1 := by decide
        have ar54 := rng32 (cnt + (1 : Int32))
        first | have ar55 : (cnt + (1 : Int32)).toInt = cnt.toInt + 1 := (by have qw := c_iadd cnt (1 : Int32); omega) | (have ar55 := c_iadd cnt (1 : Int32); skip)
        omega
      have hIn51 := (own_inv_add I hv hk (own_nin I hv hk hc6_24)).2
      have f56 := (f47.keep (Keep.of_wr W48))
      have f57 := (Fld.other W48 (f31.keep (Keep.of_wr W44) (ninS ne1 nin0)) (Or.inr (slot_ne (Or.inr (hw _ (List.mem_of_getElem? (i := 11) rfl))) (Or.inl (hw _ (List.mem_of_getElem? (i := 28) rfl))) (by decide) (t := (.array .int)) (t' := .int) (by decide) (by decide))))
      have f58 := (Fld.other W48 ((F2.keep (Keep.of_wr W26) (ninS ne2 nin0)).keep (Keep.of_wr W44) (ninS ne1 nin0)) (Or.inr (slot_ne (Or.inr (hw _ (List.mem_of_getElem? (i := 14) rfl))) (Or.inl (hw _ (List.mem_of_getElem? (i := 28) rfl))) (by decide) (t := (.array .boolean)) (t' := .int) (by decide) (by decide))))
      have f59 := (Fld.other W48 (f27.keep (Keep.of_wr W44) (ninS ne1 nin0)) (Or.inr (slot_ne (Or.inl (hw _ (List.mem_of_getElem? (i := 26) rfl))) (Or.inl (hw _ (List.mem_of_getElem? (i := 28) rfl))) (by decide) (t := .int) (t' := .int) (by decide) (by decide))))
      have f60 := (V44.keep (Keep.of_wr W48) (ninS (Ne.symm ne1) nin0))
      have f61 := ((V26.keep (Keep.of_wr W44) (ninS (Ne.symm ne3) nin0)).keep (Keep.of_wr W48) (ninS (Ne.symm ne2) nin0))
      obtain ⟨fs, hr, hrun, hended, hW, hsame⟩ := X48.leave (v := none) (fun _ => rfl)
      refine ⟨_, _, k49 _ (X48.returnOut hx Bd.returns (hb hby d4_62) hr), hrun, hended, _, _, rfl, ?_, ⟨_, rfl⟩, hW, hsame.mono (by decide) (by decide)⟩
      show Q4 Z r v ra wa nn n q k h0 n0 _ T48.heap _
      rw [e48]
      exact ⟨rfl, N48, f50, (by rw [own_add, if_neg (own_nin I hv hk hc6_24)]; exact ⟨H, hd, (cnt + (1 : Int32)), _, _, f56, f57, f58, f59, F48, f60, f61, ne1, ne2, ne3, hnn, hn4, hhd, hcn51, hIn51⟩)⟩
    · obtain ⟨T62, X62, e62, st62⟩ := getF X33 hx hZ hown (host := "") (Or.inl (hw _ (List.mem_of_getElem? (i := 10) rfl))) Via.refl e33 f31 (g := (mkF m 45 #[.val (.ref r), .val (.int v), .val (.int (hd + cnt))] [(.ref r), (.int (hd + cnt)), (.ref ra)])) rfl rfl (hb hby d4_45)
      have hlt63 := (own_inv_add I hv hk (own_nin I hv hk hc6_24)).1
      have hI63 := I.1
      have hj63 : ((hd + cnt) - nn).toInt = ((own_wrap n (H + q.length) : Nat) : Int) := by
        have ar64 := rng32 hd
        have ar65 := rng32 cnt
        have ar66 := rng32 (hd + cnt)
        first | have ar67 : (hd + cnt).toInt = hd.toInt + cnt.toInt := (by have qw := c_iadd hd cnt; omega) | (have ar67 := c_iadd hd cnt; skip)
        have ar68 := rng32 nn
        have ar69 : ¬ ((hd + cnt).toInt < nn.toInt) := fun qq_ => hc36_36 (Int32.lt_iff_toInt_lt.mpr qq_)
        have ar70 := rng32 ((hd + cnt) - nn)
        first | have ar71 : ((hd + cnt) - nn).toInt = (hd + cnt).toInt - nn.toInt := (by have qw := c_isub (hd + cnt) nn; omega) | (have ar71 := c_isub (hd + cnt) nn; skip)
        unfold own_wrap
        split <;> omega
      obtain ⟨T72, h72, X72, e72, W72, V72, st72⟩ := own_stI X62 hx hZ e62 f34 (i := (own_wrap n (H + q.length))) hj63 (own_wlt I.1 (Nat.le_of_lt hlt63)) (g := (mkF m 51 #[.val (.ref r), .val (.int v), .val (.int (hd + cnt))] [(.int v), (.int ((hd + cnt) - nn)), (.ref ra)])) rfl rfl (hb hby d4_51)
      have N72 := Fr.snoc X72 N26 g_ra
      have f73 := (f29.keep (Keep.of_wr W72) (ninS ne1 nin0))
      obtain ⟨T74, X74, e74, st74⟩ := getF X72 hx hZ hown (host := "") (Or.inl (hw _ (List.mem_of_getElem? (i := 27) rfl))) Via.refl e72 f73 (g := (mkF m 54 #[.val (.ref r), .val (.int v), .val (.int (hd + cnt))] [(.ref r), (.ref r)])) rfl rfl (hb hby d4_54)
      have f75 := ((E.keep (Keep.of_wr W26)).keep (Keep.of_wr W72))
      obtain ⟨T76, h76, X76, e76, W76, st76⟩ := putF X74 hx hZ hown (host := "") (Or.inl (hw _ (List.mem_of_getElem? (i := 27) rfl))) Via.refl e74 f73 f75 (Or.inl (hw _ (List.mem_of_getElem? (i := 28) rfl))) (hw _ (List.mem_of_getElem? (i := 1) rfl)) (ty := .int) (by decide) rfl rfl (g := (mkF m 59 #[.val (.ref r), .val (.int v), .val (.int (hd + cnt))] [(.int (cnt + (1 : Int32))), (.ref r)])) rfl rfl (hb hby d4_59)
      have N76 := Fr.snoc X76 N72 g_r
      have F76 := Fld.same W76 f73
      have k77 : ∀ tg_, Steps p.tables e below (T76.setTop (mkF m 62 #[.val (.ref r), .val (.int v), .val (.int (hd + cnt))] [])) tg_ → Steps p.tables e below (s₁.setTop (entryFrame m #[(.ref r), (.int v)] 3)) tg_ := by
        intro tg_ kt
        refine k35 tg_ ?_
        refine XS.icmpYes X33.here hx rfl (pc0 := 36) (pc' := 43) rfl (hb hby d4_36) rfl (flt hc36_36).2.1 (by decide) (by decide) ?_
        show Steps p.tables e below (T33.setTop (mkF m 43 #[.val (.ref r), .val (.int v), .val (.int (hd + cnt))] [(.ref ra)])) _
        refine XS.iloadN X33.here hx rfl (hb hby d4_43) rfl ?_
        show Steps p.tables e below (T33.setTop (mkF m 44 #[.val (.ref r), .val (.int v), .val (.int (hd + cnt))] [(.int (hd + cnt)), (.ref ra)])) _
        refine XS.aloadN X33.here hx rfl (hb hby d4_44) rfl rfl ?_
        show Steps p.tables e below (T33.setTop (mkF m 45 #[.val (.ref r), .val (.int v), .val (.int (hd + cnt))] [(.ref r), (.int (hd + cnt)), (.ref ra)])) _
        refine st62 _ ?_
        show Steps p.tables e below (T62.setTop (mkF m 48 #[.val (.ref r), .val (.int v), .val (.int (hd + cnt))] [(.ref ra), (.int (hd + cnt)), (.ref ra)])) _
        refine own_len X62 hx hZ e62 f34 (z := nn) hnn (g := (mkF m 48 #[.val (.ref r), .val (.int v), .val (.int (hd + cnt))] [(.ref ra), (.int (hd + cnt)), (.ref ra)])) rfl rfl (hb hby d4_48) _ ?_
        show Steps p.tables e below (T62.setTop (mkF m 49 #[.val (.ref r), .val (.int v), .val (.int (hd + cnt))] [(.int nn), (.int (hd + cnt)), (.ref ra)])) _
        refine XS.isub X62.here hx rfl (hb hby d4_49) rfl ?_
        show Steps p.tables e below (T62.setTop (mkF m 50 #[.val (.ref r), .val (.int v), .val (.int (hd + cnt))] [(.int ((hd + cnt) - nn)), (.ref ra)])) _
        refine XS.iloadN X62.here hx rfl (hb hby d4_50) rfl ?_
        show Steps p.tables e below (T62.setTop (mkF m 51 #[.val (.ref r), .val (.int v), .val (.int (hd + cnt))] [(.int v), (.int ((hd + cnt) - nn)), (.ref ra)])) _
        refine st72 _ ?_
        show Steps p.tables e below (T72.setTop (mkF m 52 #[.val (.ref r), .val (.int v), .val (.int (hd + cnt))] [])) _
        refine XS.aloadN X72.here hx rfl (hb hby d4_52) rfl rfl ?_
        show Steps p.tables e below (T72.setTop (mkF m 53 #[.val (.ref r), .val (.int v), .val (.int (hd + cnt))] [(.ref r)])) _
        refine XS.dup X72.here hx rfl (hb hby d4_53) rfl rfl ?_
        show Steps p.tables e below (T72.setTop (mkF m 54 #[.val (.ref r), .val (.int v), .val (.int (hd + cnt))] [(.ref r), (.ref r)])) _
        refine st74 _ ?_
        show Steps p.tables e below (T74.setTop (mkF m 57 #[.val (.ref r), .val (.int v), .val (.int (hd + cnt))] [(.int cnt), (.ref r)])) _
        refine XS.iconst X74.here hx rfl (hb hby d4_57) ?_
        show Steps p.tables e below (T74.setTop (mkF m 58 #[.val (.ref r), .val (.int v), .val (.int (hd + cnt))] [(.int (1 : Int32)), (.int cnt), (.ref r)])) _
        refine XS.iadd X74.here hx rfl (hb hby d4_58) rfl ?_
        show Steps p.tables e below (T74.setTop (mkF m 59 #[.val (.ref r), .val (.int v), .val (.int (hd + cnt))] [(.int (cnt + (1 : Int32))), (.ref r)])) _
        refine st76 _ ?_
        show Steps p.tables e below (T76.setTop (mkF m 62 #[.val (.ref r), .val (.int v), .val (.int (hd + cnt))] [])) _
        exact kt
      have f78 := ((((Keep.refl h0 [r, ra, wa]).trans (Keep.of_wr W26) (allS (Or.inl (List.mem_of_getElem? (i := 2) rfl)) all0)).trans (Keep.of_wr W72) (allS (Or.inl (List.mem_of_getElem? (i := 1) rfl)) all0)).trans (Keep.of_wr W76) (allS (Or.inl (List.mem_of_getElem? (i := 0) rfl)) all0))
      have hcn79 : (cnt + (1 : Int32)).toInt = ((q ++ [v]).length : Int) := by
        have hlt := (own_inv_add I hv hk (own_nin I hv hk hc6_24)).1
        rw [List.length_append, List.length_singleton]
        have ar80 := rng32 cnt
        have ar81 : (1 : Int32).toInt = 1 := by decide
        have ar82 := rng32 (cnt + (1 : Int32))
        first | have ar83 : (cnt + (1 : Int32)).toInt = cnt.toInt + 1 := (by have qw := c_iadd cnt (1 : Int32); omega) | (have ar83 := c_iadd cnt (1 : Int32); skip)
        omega
      have hIn79 := (own_inv_add I hv hk (own_nin I hv hk hc6_24)).2
      have f84 := (f75.keep (Keep.of_wr W76))
      have f85 := (Fld.other W76 (f31.keep (Keep.of_wr W72) (ninS ne1 nin0)) (Or.inr (slot_ne (Or.inr (hw _ (List.mem_of_getElem? (i := 11) rfl))) (Or.inl (hw _ (List.mem_of_getElem? (i := 28) rfl))) (by decide) (t := (.array .int)) (t' := .int) (by decide) (by decide))))
      have f86 := (Fld.other W76 ((F2.keep (Keep.of_wr W26) (ninS ne2 nin0)).keep (Keep.of_wr W72) (ninS ne1 nin0)) (Or.inr (slot_ne (Or.inr (hw _ (List.mem_of_getElem? (i := 14) rfl))) (Or.inl (hw _ (List.mem_of_getElem? (i := 28) rfl))) (by decide) (t := (.array .boolean)) (t' := .int) (by decide) (by decide))))
      have f87 := (Fld.other W76 (f27.keep (Keep.of_wr W72) (ninS ne1 nin0)) (Or.inr (slot_ne (Or.inl (hw _ (List.mem_of_getElem? (i := 26) rfl))) (Or.inl (hw _ (List.mem_of_getElem? (i := 28) rfl))) (by decide) (t := .int) (t' := .int) (by decide) (by decide))))
      have f88 := (V72.keep (Keep.of_wr W76) (ninS (Ne.symm ne1) nin0))
      have f89 := ((V26.keep (Keep.of_wr W72) (ninS (Ne.symm ne3) nin0)).keep (Keep.of_wr W76) (ninS (Ne.symm ne2) nin0))
      obtain ⟨fs, hr, hrun, hended, hW, hsame⟩ := X76.leave (v := none) (fun _ => rfl)
      refine ⟨_, _, k77 _ (X76.returnOut hx Bd.returns (hb hby d4_62) hr), hrun, hended, _, _, rfl, ?_, ⟨_, rfl⟩, hW, hsame.mono (by decide) (by decide)⟩
      show Q4 Z r v ra wa nn n q k h0 n0 _ T76.heap _
      rw [e76]
      exact ⟨rfl, N76, f78, (by rw [own_add, if_neg (own_nin I hv hk hc6_24)]; exact ⟨H, hd, (cnt + (1 : Int32)), _, _, f84, f85, f86, f87, F76, f88, f89, ne1, ne2, ne3, hnn, hn4, hhd, hcn79, hIn79⟩)⟩
  · have k90 : ∀ tg_, Steps p.tables e below (T22.setTop (mkF m 62 #[.val (.ref r), .val (.int v), .unset] [])) tg_ → Steps p.tables e below (s₁.setTop (entryFrame m #[(.ref r), (.int v)] 3)) tg_ := by
      intro tg_ kt
      refine k23 tg_ ?_
      refine XS.ifYes X22.here hx rfl (pc0 := 6) (pc' := 62) rfl (hb hby d4_6) rfl ((if0 _ _).trans (feq hc6_24).2) (by decide) (by decide) ?_
      show Steps p.tables e below (T22.setTop (mkF m 62 #[.val (.ref r), .val (.int v), .unset] [])) _
      exact kt
    obtain ⟨fs, hr, hrun, hended, hW, hsame⟩ := X22.leave (v := none) (fun _ => rfl)
    refine ⟨_, _, k90 _ (X22.returnOut hx Bd.returns (hb hby d4_62) hr), hrun, hended, _, _, rfl, ?_, ⟨_, rfl⟩, hW, hsame.mono (by decide) (by decide)⟩
    show Q4 Z r v ra wa nn n q k h0 n0 _ T22.heap _
    rw [e22]
    exact ⟨rfl, N0, (Keep.refl h0 [r, ra, wa]), (by rw [own_add, if_pos (own_mem I hv hk hc6_24)]; exact ⟨H, hd, cnt, _, _, E, F1, F2, F3, F4, V1, V2, ne1, ne2, ne3, hnn, hn4, hhd, hcnt, I⟩)⟩
theorem d5_0 : decode prog_25_method_4_code 0 = .ok (.aload_n 0, 1) := by decide +kernel
theorem d5_1 : decode prog_25_method_4_code 1 = .ok (.getfield 7, 3) := by decide +kernel
theorem d5_4 : decode prog_25_method_4_code 4 = .ok (.aload_n 0, 1) := by decide +kernel
theorem d5_5 : decode prog_25_method_4_code 5 = .ok (.getfield 21, 3) := by decide +kernel
theorem d5_8 : decode prog_25_method_4_code 8 = .ok (.iaload, 1) := by decide +kernel
theorem d5_9 : decode prog_25_method_4_code 9 = .ok (.istore_n 1, 1) := by decide +kernel
theorem d5_10 : decode prog_25_method_4_code 10 = .ok (.aload_n 0, 1) := by decide +kernel
theorem d5_11 : decode prog_25_method_4_code 11 = .ok (.aload_n 0, 1) := by decide +kernel
theorem d5_12 : decode prog_25_method_4_code 12 = .ok (.getfield 21, 3) := by decide +kernel
theorem d5_15 : decode prog_25_method_4_code 15 = .ok (.iconst 1, 1) := by decide +kernel
theorem d5_16 : decode prog_25_method_4_code 16 = .ok (.iadd, 1) := by decide +kernel
theorem d5_17 : decode prog_25_method_4_code 17 = .ok (.aload_n 0, 1) := by decide +kernel
theorem d5_18 : decode prog_25_method_4_code 18 = .ok (.getfield 7, 3) := by decide +kernel
theorem d5_21 : decode prog_25_method_4_code 21 = .ok (.arraylength, 1) := by decide +kernel
theorem d5_22 : decode prog_25_method_4_code 22 = .ok (.if_icmp .ge 12, 3) := by decide +kernel
theorem d5_25 : decode prog_25_method_4_code 25 = .ok (.aload_n 0, 1) := by decide +kernel
theorem d5_26 : decode prog_25_method_4_code 26 = .ok (.getfield 21, 3) := by decide +kernel
theorem d5_29 : decode prog_25_method_4_code 29 = .ok (.iconst 1, 1) := by decide +kernel
theorem d5_30 : decode prog_25_method_4_code 30 = .ok (.iadd, 1) := by decide +kernel
theorem d5_31 : decode prog_25_method_4_code 31 = .ok (.goto 4, 3) := by decide +kernel
theorem d5_34 : decode prog_25_method_4_code 34 = .ok (.iconst 0, 1) := by decide +kernel
theorem d5_35 : decode prog_25_method_4_code 35 = .ok (.putfield 21, 3) := by decide +kernel
theorem d5_38 : decode prog_25_method_4_code 38 = .ok (.aload_n 0, 1) := by decide +kernel
theorem d5_39 : decode prog_25_method_4_code 39 = .ok (.dup, 1) := by decide +kernel
theorem d5_40 : decode prog_25_method_4_code 40 = .ok (.getfield 17, 3) := by decide +kernel
theorem d5_43 : decode prog_25_method_4_code 43 = .ok (.iconst 1, 1) := by decide +kernel
theorem d5_44 : decode prog_25_method_4_code 44 = .ok (.isub, 1) := by decide +kernel
theorem d5_45 : decode prog_25_method_4_code 45 = .ok (.putfield 17, 3) := by decide +kernel
theorem d5_48 : decode prog_25_method_4_code 48 = .ok (.aload_n 0, 1) := by decide +kernel
theorem d5_49 : decode prog_25_method_4_code 49 = .ok (.getfield 13, 3) := by decide +kernel
theorem d5_52 : decode prog_25_method_4_code 52 = .ok (.iload_n 1, 1) := by decide +kernel
theorem d5_53 : decode prog_25_method_4_code 53 = .ok (.iconst 0, 1) := by decide +kernel
theorem d5_54 : decode prog_25_method_4_code 54 = .ok (.bastore, 1) := by decide +kernel
theorem d5_55 : decode prog_25_method_4_code 55 = .ok (.iload_n 1, 1) := by decide +kernel
theorem d5_56 : decode prog_25_method_4_code 56 = .ok (.ireturn, 1) := by decide +kernel
theorem pn_5 : plainName "com/example/tablewise/tablewise/propagation/WaitingRing" = true := by first | (simp [plainName, overriddenIn]; done) | decide +kernel
theorem ef_5 (m : MethodId) (x0 : Addr) : entryFrame m #[(.ref x0)] 2 = mkF m 0 #[.val (.ref x0), .unset] [] := by first | (simp [entryFrame, mkF, argsToLocals, Value.category]; done) | rfl
def Q5 (Z : State) (r : Addr) (ra : Addr) (wa : Addr) (nn : Int32) (n : Nat) (x : Int32) (q : List Int32) (h0 : Heap) (n0 : Nat) (rv_ : Option Value) (h : Heap) (LL_ : List Loc) : Prop := rv_ = some (.int x) ∧ Fr n0 LL_ ∧ Keep h0 h [r, ra, wa] ∧ own_Ring Z h r ra wa nn n q
set_option maxRecDepth 65536 in
set_option maxHeartbeats 40000000 in
theorem rm5 (l : Launch) (Z : State) (a0 : Array Value) (hw : ∀ d ∈ tables_1, d.before a0 Z = true) (ws : List Jvm.Cond) (r : Addr) (ra : Addr) (wa : Addr) (nn : Int32) (n : Nat) (x : Int32) (q : List Int32) (h0 : Heap) (n0 : Nat) (Z0 : n0 ≤ h0.size) (g_r : n0 ≤ r) (g_ra : n0 ≤ ra) (g_wa : n0 ≤ wa) (R : own_Ring Z h0 r ra wa nn n (x :: q)) :
    MetFree l (⟨"com/example/tablewise/tablewise/propagation/WaitingRing", "take", "()I"⟩ : MethodName) (head1 (Jvm.Cond.code (⟨"com/example/tablewise/tablewise/propagation/WaitingRing", "take", "()I"⟩ : MethodName) prog_25_method_4_code 2 (some .int) :: ws) ({ frames := 0, cells := 0, slots := 0, locals := 0 } : Room)) (fun aa UU => aa = #[(.ref r)] ∧ Z.Warmed39 UU.vm ∧ UU.heap = h0) (fun _ _ _ _ _ => True) (fun _ UU oo UV => ∃ vv LL, oo = .returned vv ∧ Q5 Z r ra wa nn n x q h0 n0 vv UV.heap LL ∧ FrameEnd UU oo UV LL ({ frames := 0, cells := 0, slots := 0, locals := 0 } : Room).cells ({ frames := 0, cells := 0, slots := 0, locals := 0 } : Room).slots) := by
  refine MetFree.of_bodySF (plainFor_of_name pn_5) hisR ?_
  intro p e s m args below meth c s₁ Bd hml0 hP hK
  obtain ⟨rfl, hZ, hh⟩ := hP
  have hx := Bd.exec
  have hby := Bd.bytes
  have hml : c.maxLocals = 2 := hml0
  have hown : s.vm.findClass "com/example/tablewise/tablewise/propagation/WaitingRing" = some m.cls := findClass_of_methodNamed Bd.named
  have hnm := (name_of_methodNamed Bd.named Bd.method).1
  have X0 : Stand p l e ({ frames := 0, cells := 0, slots := 0, locals := 0 } : Room) s m #[(.ref r)] below meth c s₁ [] 0 0 := Stand.of_body Bd
  have e0 : s₁.heap = h0 := by rw [← hh, Bd.state]; rfl
  have N0 := Fr.nil n0
  have k0 : ∀ tg_, Steps p.tables e below (s₁.setTop (mkF m 0 #[.val (.ref r), .unset] [])) tg_ → Steps p.tables e below (s₁.setTop (entryFrame m #[(.ref r)] 2)) tg_ := fun tg_ k => castTop (ef_5 m r) k
  obtain ⟨H, hd, cnt, fr, fw, E, F1, F2, F3, F4, V1, V2, ne1, ne2, ne3, hnn, hn4, hhd, hcnt, I⟩ := R
  obtain ⟨hfx, k, hxk, hkn, I'⟩ := own_inv_take I
  obtain ⟨T91, X91, e91, st91⟩ := getF X0 hx hZ hown (host := "") (Or.inl (hw _ (List.mem_of_getElem? (i := 10) rfl))) Via.refl e0 F1 (g := (mkF m 1 #[.val (.ref r), .unset] [(.ref r)])) rfl rfl (hb hby d5_1)
  obtain ⟨T92, X92, e92, st92⟩ := getF X91 hx hZ hown (host := "") (Or.inl (hw _ (List.mem_of_getElem? (i := 25) rfl))) Via.refl e91 F3 (g := (mkF m 5 #[.val (.ref r), .unset] [(.ref r), (.ref ra)])) rfl rfl (hb hby d5_5)
  obtain ⟨T93, X93, e93, st93⟩ := getF X92 hx hZ hown (host := "") (Or.inl (hw _ (List.mem_of_getElem? (i := 25) rfl))) Via.refl e92 F3 (g := (mkF m 12 #[.val (.ref r), .val (.int x)] [(.ref r), (.ref r)])) rfl rfl (hb hby d5_12)
  obtain ⟨T94, X94, e94, st94⟩ := getF X93 hx hZ hown (host := "") (Or.inl (hw _ (List.mem_of_getElem? (i := 10) rfl))) Via.refl e93 F1 (g := (mkF m 18 #[.val (.ref r), .val (.int x)] [(.ref r), (.int (hd + (1 : Int32))), (.ref r)])) rfl rfl (hb hby d5_18)
  have k95 : ∀ tg_, Steps p.tables e below (T94.setTop (mkF m 22 #[.val (.ref r), .val (.int x)] [(.int nn), (.int (hd + (1 : Int32))), (.ref r)])) tg_ → Steps p.tables e below (s₁.setTop (entryFrame m #[(.ref r)] 2)) tg_ := by
    intro tg_ kt
    refine k0 tg_ ?_
    refine XS.aloadN X0.here hx rfl (hb hby d5_0) rfl rfl ?_
    show Steps p.tables e below (s₁.setTop (mkF m 1 #[.val (.ref r), .unset] [(.ref r)])) _
    refine st91 _ ?_
    show Steps p.tables e below (T91.setTop (mkF m 4 #[.val (.ref r), .unset] [(.ref ra)])) _
    refine XS.aloadN X91.here hx rfl (hb hby d5_4) rfl rfl ?_
    show Steps p.tables e below (T91.setTop (mkF m 5 #[.val (.ref r), .unset] [(.ref r), (.ref ra)])) _
    refine st92 _ ?_
    show Steps p.tables e below (T92.setTop (mkF m 8 #[.val (.ref r), .unset] [(.int hd), (.ref ra)])) _
    refine own_ldI X92 hx hZ e92 V1 (i := H) hhd I.1 hfx (g := (mkF m 8 #[.val (.ref r), .unset] [(.int hd), (.ref ra)])) rfl rfl (hb hby d5_8) _ ?_
    show Steps p.tables e below (T92.setTop (mkF m 9 #[.val (.ref r), .unset] [(.int x)])) _
    refine XS.istoreN X92.here hx rfl (hb hby d5_9) rfl (l' := #[.val (.ref r), .val (.int x)]) rfl ?_
    show Steps p.tables e below (T92.setTop (mkF m 10 #[.val (.ref r), .val (.int x)] [])) _
    refine XS.aloadN X92.here hx rfl (hb hby d5_10) rfl rfl ?_
    show Steps p.tables e below (T92.setTop (mkF m 11 #[.val (.ref r), .val (.int x)] [(.ref r)])) _
    refine XS.aloadN X92.here hx rfl (hb hby d5_11) rfl rfl ?_
    show Steps p.tables e below (T92.setTop (mkF m 12 #[.val (.ref r), .val (.int x)] [(.ref r), (.ref r)])) _
    refine st93 _ ?_
    show Steps p.tables e below (T93.setTop (mkF m 15 #[.val (.ref r), .val (.int x)] [(.int hd), (.ref r)])) _
    refine XS.iconst X93.here hx rfl (hb hby d5_15) ?_
    show Steps p.tables e below (T93.setTop (mkF m 16 #[.val (.ref r), .val (.int x)] [(.int (1 : Int32)), (.int hd), (.ref r)])) _
    refine XS.iadd X93.here hx rfl (hb hby d5_16) rfl ?_
    show Steps p.tables e below (T93.setTop (mkF m 17 #[.val (.ref r), .val (.int x)] [(.int (hd + (1 : Int32))), (.ref r)])) _
    refine XS.aloadN X93.here hx rfl (hb hby d5_17) rfl rfl ?_
    show Steps p.tables e below (T93.setTop (mkF m 18 #[.val (.ref r), .val (.int x)] [(.ref r), (.int (hd + (1 : Int32))), (.ref r)])) _
    refine st94 _ ?_
    show Steps p.tables e below (T94.setTop (mkF m 21 #[.val (.ref r), .val (.int x)] [(.ref ra), (.int (hd + (1 : Int32))), (.ref r)])) _
    refine own_len X94 hx hZ e94 V1 (z := nn) hnn (g := (mkF m 21 #[.val (.ref r), .val (.int x)] [(.ref ra), (.int (hd + (1 : Int32))), (.ref r)])) rfl rfl (hb hby d5_21) _ ?_
    show Steps p.tables e below (T94.setTop (mkF m 22 #[.val (.ref r), .val (.int x)] [(.int nn), (.int (hd + (1 : Int32))), (.ref r)])) _
    exact kt
  by_cases hc22_96 : (hd + (1 : Int32)) < nn
  · obtain ⟨T97, X97, e97, st97⟩ := getF X94 hx hZ hown (host := "") (Or.inl (hw _ (List.mem_of_getElem? (i := 25) rfl))) Via.refl e94 F3 (g := (mkF m 26 #[.val (.ref r), .val (.int x)] [(.ref r), (.ref r)])) rfl rfl (hb hby d5_26)
    obtain ⟨T98, h98, X98, e98, W98, st98⟩ := putF X97 hx hZ hown (host := "") (Or.inl (hw _ (List.mem_of_getElem? (i := 25) rfl))) Via.refl e97 F3 E (Or.inl (hw _ (List.mem_of_getElem? (i := 26) rfl))) (hw _ (List.mem_of_getElem? (i := 1) rfl)) (ty := .int) (by decide) rfl rfl (g := (mkF m 35 #[.val (.ref r), .val (.int x)] [(.int (hd + (1 : Int32))), (.ref r)])) rfl rfl (hb hby d5_35)
    have N98 := Fr.snoc X98 N0 g_r
    have F98 := Fld.same W98 F3
    have f99 := (Fld.other W98 F4 (Or.inr (slot_ne (Or.inl (hw _ (List.mem_of_getElem? (i := 28) rfl))) (Or.inl (hw _ (List.mem_of_getElem? (i := 26) rfl))) (by decide) (t := .int) (t' := .int) (by decide) (by decide))))
    obtain ⟨T100, X100, e100, st100⟩ := getF X98 hx hZ hown (host := "") (Or.inl (hw _ (List.mem_of_getElem? (i := 27) rfl))) Via.refl e98 f99 (g := (mkF m 40 #[.val (.ref r), .val (.int x)] [(.ref r), (.ref r)])) rfl rfl (hb hby d5_40)
    have f101 := (E.keep (Keep.of_wr W98))
    obtain ⟨T102, h102, X102, e102, W102, st102⟩ := putF X100 hx hZ hown (host := "") (Or.inl (hw _ (List.mem_of_getElem? (i := 27) rfl))) Via.refl e100 f99 f101 (Or.inl (hw _ (List.mem_of_getElem? (i := 28) rfl))) (hw _ (List.mem_of_getElem? (i := 1) rfl)) (ty := .int) (by decide) rfl rfl (g := (mkF m 45 #[.val (.ref r), .val (.int x)] [(.int (cnt - (1 : Int32))), (.ref r)])) rfl rfl (hb hby d5_45)
    have N102 := Fr.snoc X102 N98 g_r
    have F102 := Fld.same W102 f99
    have f103 := (Fld.other W102 (Fld.other W98 F2 (Or.inr (slot_ne (Or.inr (hw _ (List.mem_of_getElem? (i := 14) rfl))) (Or.inl (hw _ (List.mem_of_getElem? (i := 26) rfl))) (by decide) (t := (.array .boolean)) (t' := .int) (by decide) (by decide)))) (Or.inr (slot_ne (Or.inr (hw _ (List.mem_of_getElem? (i := 14) rfl))) (Or.inl (hw _ (List.mem_of_getElem? (i := 28) rfl))) (by decide) (t := (.array .boolean)) (t' := .int) (by decide) (by decide))))
    obtain ⟨T104, X104, e104, st104⟩ := getF X102 hx hZ hown (host := "") (Or.inl (hw _ (List.mem_of_getElem? (i := 13) rfl))) Via.refl e102 f103 (g := (mkF m 49 #[.val (.ref r), .val (.int x)] [(.ref r)])) rfl rfl (hb hby d5_49)
    have f105 := ((V2.keep (Keep.of_wr W98) (ninS (Ne.symm ne2) nin0)).keep (Keep.of_wr W102) (ninS (Ne.symm ne2) nin0))
    obtain ⟨T106, h106, X106, e106, W106, V106, st106⟩ := own_stZ X104 hx hZ e104 f105 (i := k) hxk hkn (g := (mkF m 54 #[.val (.ref r), .val (.int x)] [(.int (0 : Int32)), (.int x), (.ref wa)])) rfl rfl (hb hby d5_54)
    have N106 := Fr.snoc X106 N102 g_wa
    have V106 : own_AI Z h106 wa .boolean n (own_upd fw k (0 : Int32)) := V106
    have k107 : ∀ tg_, Steps p.tables e below (T106.setTop (mkF m 56 #[.val (.ref r), .val (.int x)] [(.int x)])) tg_ → Steps p.tables e below (s₁.setTop (entryFrame m #[(.ref r)] 2)) tg_ := by
      intro tg_ kt
      refine k95 tg_ ?_
      refine XS.icmpNo X94.here hx rfl (hb hby d5_22) rfl (tlt hc22_96).2.1 ?_
      show Steps p.tables e below (T94.setTop (mkF m 25 #[.val (.ref r), .val (.int x)] [(.ref r)])) _
      refine XS.aloadN X94.here hx rfl (hb hby d5_25) rfl rfl ?_
      show Steps p.tables e below (T94.setTop (mkF m 26 #[.val (.ref r), .val (.int x)] [(.ref r), (.ref r)])) _
      refine st97 _ ?_
      show Steps p.tables e below (T97.setTop (mkF m 29 #[.val (.ref r), .val (.int x)] [(.int hd), (.ref r)])) _
      refine XS.iconst X97.here hx rfl (hb hby d5_29) ?_
      show Steps p.tables e below (T97.setTop (mkF m 30 #[.val (.ref r), .val (.int x)] [(.int (1 : Int32)), (.int hd), (.ref r)])) _
      refine XS.iadd X97.here hx rfl (hb hby d5_30) rfl ?_
      show Steps p.tables e below (T97.setTop (mkF m 31 #[.val (.ref r), .val (.int x)] [(.int (hd + (1 : Int32))), (.ref r)])) _
      refine XS.goto X97.here hx rfl (pc0 := 31) (pc' := 35) rfl (hb hby d5_31) (by decide) (by decide) ?_
      show Steps p.tables e below (T97.setTop (mkF m 35 #[.val (.ref r), .val (.int x)] [(.int (hd + (1 : Int32))), (.ref r)])) _
      refine st98 _ ?_
      show Steps p.tables e below (T98.setTop (mkF m 38 #[.val (.ref r), .val (.int x)] [])) _
      refine XS.aloadN X98.here hx rfl (hb hby d5_38) rfl rfl ?_
      show Steps p.tables e below (T98.setTop (mkF m 39 #[.val (.ref r), .val (.int x)] [(.ref r)])) _
      refine XS.dup X98.here hx rfl (hb hby d5_39) rfl rfl ?_
      show Steps p.tables e below (T98.setTop (mkF m 40 #[.val (.ref r), .val (.int x)] [(.ref r), (.ref r)])) _
      refine st100 _ ?_
      show Steps p.tables e below (T100.setTop (mkF m 43 #[.val (.ref r), .val (.int x)] [(.int cnt), (.ref r)])) _
      refine XS.iconst X100.here hx rfl (hb hby d5_43) ?_
      show Steps p.tables e below (T100.setTop (mkF m 44 #[.val (.ref r), .val (.int x)] [(.int (1 : Int32)), (.int cnt), (.ref r)])) _
      refine XS.isub X100.here hx rfl (hb hby d5_44) rfl ?_
      show Steps p.tables e below (T100.setTop (mkF m 45 #[.val (.ref r), .val (.int x)] [(.int (cnt - (1 : Int32))), (.ref r)])) _
      refine st102 _ ?_
      show Steps p.tables e below (T102.setTop (mkF m 48 #[.val (.ref r), .val (.int x)] [])) _
      refine XS.aloadN X102.here hx rfl (hb hby d5_48) rfl rfl ?_
      show Steps p.tables e below (T102.setTop (mkF m 49 #[.val (.ref r), .val (.int x)] [(.ref r)])) _
      refine st104 _ ?_
      show Steps p.tables e below (T104.setTop (mkF m 52 #[.val (.ref r), .val (.int x)] [(.ref wa)])) _
      refine XS.iloadN X104.here hx rfl (hb hby d5_52) rfl ?_
      show Steps p.tables e below (T104.setTop (mkF m 53 #[.val (.ref r), .val (.int x)] [(.int x), (.ref wa)])) _
      refine XS.iconst X104.here hx rfl (hb hby d5_53) ?_
      show Steps p.tables e below (T104.setTop (mkF m 54 #[.val (.ref r), .val (.int x)] [(.int (0 : Int32)), (.int x), (.ref wa)])) _
      refine st106 _ ?_
      show Steps p.tables e below (T106.setTop (mkF m 55 #[.val (.ref r), .val (.int x)] [])) _
      refine XS.iloadN X106.here hx rfl (hb hby d5_55) rfl ?_
      show Steps p.tables e below (T106.setTop (mkF m 56 #[.val (.ref r), .val (.int x)] [(.int x)])) _
      exact kt
    have f108 := ((((Keep.refl h0 [r, ra, wa]).trans (Keep.of_wr W98) (allS (Or.inl (List.mem_of_getElem? (i := 0) rfl)) all0)).trans (Keep.of_wr W102) (allS (Or.inl (List.mem_of_getElem? (i := 0) rfl)) all0)).trans (Keep.of_wr W106) (allS (Or.inl (List.mem_of_getElem? (i := 2) rfl)) all0))
    have hI109 := I.1
    have hhn109 : (hd + (1 : Int32)).toInt = ((own_wrap n (H + 1) : Nat) : Int) := by
      have ar110 := rng32 hd
      have ar111 : (1 : Int32).toInt = 1 := by decide
      have ar112 := rng32 (hd + (1 : Int32))
      first | have ar113 : (hd + (1 : Int32)).toInt = hd.toInt + 1 := (by have qw := c_iadd hd (1 : Int32); omega) | (have ar113 := c_iadd hd (1 : Int32); skip)
      have ar114 := rng32 nn
      have ar115 : (hd + (1 : Int32)).toInt < nn.toInt := Int32.lt_iff_toInt_lt.mp hc22_96
      unfold own_wrap
      split <;> omega
    have hcn109 : (cnt - (1 : Int32)).toInt = (q.length : Int) := by
      rw [List.length_cons] at hcnt
      have ar116 := rng32 cnt
      have ar117 : (1 : Int32).toInt = 1 := by decide
      have ar118 := rng32 (cnt - (1 : Int32))
      first | have ar119 : (cnt - (1 : Int32)).toInt = cnt.toInt - 1 := (by have qw := c_isub cnt (1 : Int32); omega) | (have ar119 := c_isub cnt (1 : Int32); skip)
      omega
    have f120 := ((f101.keep (Keep.of_wr W102)).keep (Keep.of_wr W106))
    have f121 := ((Fld.other W102 (Fld.other W98 F1 (Or.inr (slot_ne (Or.inr (hw _ (List.mem_of_getElem? (i := 11) rfl))) (Or.inl (hw _ (List.mem_of_getElem? (i := 26) rfl))) (by decide) (t := (.array .int)) (t' := .int) (by decide) (by decide)))) (Or.inr (slot_ne (Or.inr (hw _ (List.mem_of_getElem? (i := 11) rfl))) (Or.inl (hw _ (List.mem_of_getElem? (i := 28) rfl))) (by decide) (t := (.array .int)) (t' := .int) (by decide) (by decide)))).keep (Keep.of_wr W106) (ninS ne2 nin0))
    have f122 := (f103.keep (Keep.of_wr W106) (ninS ne2 nin0))
    have f123 := ((Fld.other W102 F98 (Or.inr (slot_ne (Or.inl (hw _ (List.mem_of_getElem? (i := 26) rfl))) (Or.inl (hw _ (List.mem_of_getElem? (i := 28) rfl))) (by decide) (t := .int) (t' := .int) (by decide) (by decide)))).keep (Keep.of_wr W106) (ninS ne2 nin0))
    have f124 := (F102.keep (Keep.of_wr W106) (ninS ne2 nin0))
    have f125 := (((V1.keep (Keep.of_wr W98) (ninS (Ne.symm ne1) nin0)).keep (Keep.of_wr W102) (ninS (Ne.symm ne1) nin0)).keep (Keep.of_wr W106) (ninS ne3 nin0))
    obtain ⟨fs, hr, hrun, hended, hW, hsame⟩ := X106.leave (v := some (.int x)) (fun h => by rw [Bd.returns] at h; cases h)
    refine ⟨_, _, k107 _ (retI X106 hx Bd.returns (hb hby d5_56) hr), hrun, hended, _, _, rfl, ?_, ⟨_, rfl⟩, hW, hsame.mono (by decide) (by decide)⟩
    show Q5 Z r ra wa nn n x q h0 n0 _ T106.heap _
    rw [e106]
    exact ⟨rfl, N106, f108, (by exact ⟨(own_wrap n (H + 1)), (hd + (1 : Int32)), (cnt - (1 : Int32)), _, _, f120, f121, f122, f123, f124, f125, V106, ne1, ne2, ne3, hnn, hn4, hhn109, hcn109, I'⟩)⟩
  · obtain ⟨T126, h126, X126, e126, W126, st126⟩ := putF X94 hx hZ hown (host := "") (Or.inl (hw _ (List.mem_of_getElem? (i := 25) rfl))) Via.refl e94 F3 E (Or.inl (hw _ (List.mem_of_getElem? (i := 26) rfl))) (hw _ (List.mem_of_getElem? (i := 1) rfl)) (ty := .int) (by decide) rfl rfl (g := (mkF m 35 #[.val (.ref r), .val (.int x)] [(.int (0 : Int32)), (.ref r)])) rfl rfl (hb hby d5_35)
    have N126 := Fr.snoc X126 N0 g_r
    have F126 := Fld.same W126 F3
    have f127 := (Fld.other W126 F4 (Or.inr (slot_ne (Or.inl (hw _ (List.mem_of_getElem? (i := 28) rfl))) (Or.inl (hw _ (List.mem_of_getElem? (i := 26) rfl))) (by decide) (t := .int) (t' := .int) (by decide) (by decide))))
    obtain ⟨T128, X128, e128, st128⟩ := getF X126 hx hZ hown (host := "") (Or.inl (hw _ (List.mem_of_getElem? (i := 27) rfl))) Via.refl e126 f127 (g := (mkF m 40 #[.val (.ref r), .val (.int x)] [(.ref r), (.ref r)])) rfl rfl (hb hby d5_40)
    have f129 := (E.keep (Keep.of_wr W126))
    obtain ⟨T130, h130, X130, e130, W130, st130⟩ := putF X128 hx hZ hown (host := "") (Or.inl (hw _ (List.mem_of_getElem? (i := 27) rfl))) Via.refl e128 f127 f129 (Or.inl (hw _ (List.mem_of_getElem? (i := 28) rfl))) (hw _ (List.mem_of_getElem? (i := 1) rfl)) (ty := .int) (by decide) rfl rfl (g := (mkF m 45 #[.val (.ref r), .val (.int x)] [(.int (cnt - (1 : Int32))), (.ref r)])) rfl rfl (hb hby d5_45)
    have N130 := Fr.snoc X130 N126 g_r
    have F130 := Fld.same W130 f127
    have f131 := (Fld.other W130 (Fld.other W126 F2 (Or.inr (slot_ne (Or.inr (hw _ (List.mem_of_getElem? (i := 14) rfl))) (Or.inl (hw _ (List.mem_of_getElem? (i := 26) rfl))) (by decide) (t := (.array .boolean)) (t' := .int) (by decide) (by decide)))) (Or.inr (slot_ne (Or.inr (hw _ (List.mem_of_getElem? (i := 14) rfl))) (Or.inl (hw _ (List.mem_of_getElem? (i := 28) rfl))) (by decide) (t := (.array .boolean)) (t' := .int) (by decide) (by decide))))
    obtain ⟨T132, X132, e132, st132⟩ := getF X130 hx hZ hown (host := "") (Or.inl (hw _ (List.mem_of_getElem? (i := 13) rfl))) Via.refl e130 f131 (g := (mkF m 49 #[.val (.ref r), .val (.int x)] [(.ref r)])) rfl rfl (hb hby d5_49)
    have f133 := ((V2.keep (Keep.of_wr W126) (ninS (Ne.symm ne2) nin0)).keep (Keep.of_wr W130) (ninS (Ne.symm ne2) nin0))
    obtain ⟨T134, h134, X134, e134, W134, V134, st134⟩ := own_stZ X132 hx hZ e132 f133 (i := k) hxk hkn (g := (mkF m 54 #[.val (.ref r), .val (.int x)] [(.int (0 : Int32)), (.int x), (.ref wa)])) rfl rfl (hb hby d5_54)
    have N134 := Fr.snoc X134 N130 g_wa
    have V134 : own_AI Z h134 wa .boolean n (own_upd fw k (0 : Int32)) := V134
    have k135 : ∀ tg_, Steps p.tables e below (T134.setTop (mkF m 56 #[.val (.ref r), .val (.int x)] [(.int x)])) tg_ → Steps p.tables e below (s₁.setTop (entryFrame m #[(.ref r)] 2)) tg_ := by
      intro tg_ kt
      refine k95 tg_ ?_
      refine XS.icmpYes X94.here hx rfl (pc0 := 22) (pc' := 34) rfl (hb hby d5_22) rfl (flt hc22_96).2.1 (by decide) (by decide) ?_
      show Steps p.tables e below (T94.setTop (mkF m 34 #[.val (.ref r), .val (.int x)] [(.ref r)])) _
      refine XS.iconst X94.here hx rfl (hb hby d5_34) ?_
      show Steps p.tables e below (T94.setTop (mkF m 35 #[.val (.ref r), .val (.int x)] [(.int (0 : Int32)), (.ref r)])) _
      refine st126 _ ?_
      show Steps p.tables e below (T126.setTop (mkF m 38 #[.val (.ref r), .val (.int x)] [])) _
      refine XS.aloadN X126.here hx rfl (hb hby d5_38) rfl rfl ?_
      show Steps p.tables e below (T126.setTop (mkF m 39 #[.val (.ref r), .val (.int x)] [(.ref r)])) _
      refine XS.dup X126.here hx rfl (hb hby d5_39) rfl rfl ?_
      show Steps p.tables e below (T126.setTop (mkF m 40 #[.val (.ref r), .val (.int x)] [(.ref r), (.ref r)])) _
      refine st128 _ ?_
      show Steps p.tables e below (T128.setTop (mkF m 43 #[.val (.ref r), .val (.int x)] [(.int cnt), (.ref r)])) _
      refine XS.iconst X128.here hx rfl (hb hby d5_43) ?_
      show Steps p.tables e below (T128.setTop (mkF m 44 #[.val (.ref r), .val (.int x)] [(.int (1 : Int32)), (.int cnt), (.ref r)])) _
      refine XS.isub X128.here hx rfl (hb hby d5_44) rfl ?_
      show Steps p.tables e below (T128.setTop (mkF m 45 #[.val (.ref r), .val (.int x)] [(.int (cnt - (1 : Int32))), (.ref r)])) _
      refine st130 _ ?_
      show Steps p.tables e below (T130.setTop (mkF m 48 #[.val (.ref r), .val (.int x)] [])) _
      refine XS.aloadN X130.here hx rfl (hb hby d5_48) rfl rfl ?_
      show Steps p.tables e below (T130.setTop (mkF m 49 #[.val (.ref r), .val (.int x)] [(.ref r)])) _
      refine st132 _ ?_
      show Steps p.tables e below (T132.setTop (mkF m 52 #[.val (.ref r), .val (.int x)] [(.ref wa)])) _
      refine XS.iloadN X132.here hx rfl (hb hby d5_52) rfl ?_
      show Steps p.tables e below (T132.setTop (mkF m 53 #[.val (.ref r), .val (.int x)] [(.int x), (.ref wa)])) _
      refine XS.iconst X132.here hx rfl (hb hby d5_53) ?_
      show Steps p.tables e below (T132.setTop (mkF m 54 #[.val (.ref r), .val (.int x)] [(.int (0 : Int32)), (.int x), (.ref wa)])) _
      refine st134 _ ?_
      show Steps p.tables e below (T134.setTop (mkF m 55 #[.val (.ref r), .val (.int x)] [])) _
      refine XS.iloadN X134.here hx rfl (hb hby d5_55) rfl ?_
      show Steps p.tables e below (T134.setTop (mkF m 56 #[.val (.ref r), .val (.int x)] [(.int x)])) _
      exact kt
    have f136 := ((((Keep.refl h0 [r, ra, wa]).trans (Keep.of_wr W126) (allS (Or.inl (List.mem_of_getElem? (i := 0) rfl)) all0)).trans (Keep.of_wr W130) (allS (Or.inl (List.mem_of_getElem? (i := 0) rfl)) all0)).trans (Keep.of_wr W134) (allS (Or.inl (List.mem_of_getElem? (i := 2) rfl)) all0))
    have hI137 := I.1
    have hhn137 : (0 : Int32).toInt = ((own_wrap n (H + 1) : Nat) : Int) := by
      have ar138 := rng32 hd
      have ar139 : (1 : Int32).toInt = 1 := by decide
      have ar140 := rng32 (hd + (1 : Int32))
      first | have ar141 : (hd + (1 : Int32)).toInt = hd.toInt + 1 := (by have qw := c_iadd hd (1 : Int32); omega) | (have ar141 := c_iadd hd (1 : Int32); skip)
      have ar142 := rng32 nn
      have ar143 : ¬ ((hd + (1 : Int32)).toInt < nn.toInt) := fun qq_ => hc22_96 (Int32.lt_iff_toInt_lt.mpr qq_)
      have ar144 : (0 : Int32).toInt = 0 := by decide
      unfold own_wrap
      split <;> omega
    have hcn137 : (cnt - (1 : Int32)).toInt = (q.length : Int) := by
      rw [List.length_cons] at hcnt
      have ar145 := rng32 cnt
      have ar146 : (1 : Int32).toInt = 1 := by decide
      have ar147 := rng32 (cnt - (1 : Int32))
      first | have ar148 : (cnt - (1 : Int32)).toInt = cnt.toInt - 1 := (by have qw := c_isub cnt (1 : Int32); omega) | (have ar148 := c_isub cnt (1 : Int32); skip)
      omega
    have f149 := ((f129.keep (Keep.of_wr W130)).keep (Keep.of_wr W134))
    have f150 := ((Fld.other W130 (Fld.other W126 F1 (Or.inr (slot_ne (Or.inr (hw _ (List.mem_of_getElem? (i := 11) rfl))) (Or.inl (hw _ (List.mem_of_getElem? (i := 26) rfl))) (by decide) (t := (.array .int)) (t' := .int) (by decide) (by decide)))) (Or.inr (slot_ne (Or.inr (hw _ (List.mem_of_getElem? (i := 11) rfl))) (Or.inl (hw _ (List.mem_of_getElem? (i := 28) rfl))) (by decide) (t := (.array .int)) (t' := .int) (by decide) (by decide)))).keep (Keep.of_wr W134) (ninS ne2 nin0))
    have f151 := (f131.keep (Keep.of_wr W134) (ninS ne2 nin0))
    have f152 := ((Fld.other W130 F126 (Or.inr (slot_ne (Or.inl (hw _ (List.mem_of_getElem? (i := 26) rfl))) (Or.inl (hw _ (List.mem_of_getElem? (i := 28) rfl))) (by decide) (t := .int) (t' := .int) (by decide) (by decide)))).keep (Keep.of_wr W134) (ninS ne2 nin0))
    have f153 := (F130.keep (Keep.of_wr W134) (ninS ne2 nin0))
    have f154 := (((V1.keep (Keep.of_wr W126) (ninS (Ne.symm ne1) nin0)).keep (Keep.of_wr W130) (ninS (Ne.symm ne1) nin0)).keep (Keep.of_wr W134) (ninS ne3 nin0))
    obtain ⟨fs, hr, hrun, hended, hW, hsame⟩ := X134.leave (v := some (.int x)) (fun h => by rw [Bd.returns] at h; cases h)
    refine ⟨_, _, k135 _ (retI X134 hx Bd.returns (hb hby d5_56) hr), hrun, hended, _, _, rfl, ?_, ⟨_, rfl⟩, hW, hsame.mono (by decide) (by decide)⟩
    show Q5 Z r ra wa nn n x q h0 n0 _ T134.heap _
    rw [e134]
    exact ⟨rfl, N134, f136, (by exact ⟨(own_wrap n (H + 1)), (0 : Int32), (cnt - (1 : Int32)), _, _, f149, f150, f151, f152, f153, f154, V134, ne1, ne2, ne3, hnn, hn4, hhn137, hcn137, I'⟩)⟩
theorem d6_0 : decode prog_25_method_2_code 0 = .ok (.aload_n 0, 1) := by decide +kernel
theorem d6_1 : decode prog_25_method_2_code 1 = .ok (.getfield 17, 3) := by decide +kernel
theorem d6_4 : decode prog_25_method_2_code 4 = .ok (.ifCond .ne 7, 3) := by decide +kernel
theorem d6_7 : decode prog_25_method_2_code 7 = .ok (.iconst 1, 1) := by decide +kernel
theorem d6_8 : decode prog_25_method_2_code 8 = .ok (.goto 4, 3) := by decide +kernel
theorem d6_11 : decode prog_25_method_2_code 11 = .ok (.iconst 0, 1) := by decide +kernel
theorem d6_12 : decode prog_25_method_2_code 12 = .ok (.ireturn, 1) := by decide +kernel
theorem pn_6 : plainName "com/example/tablewise/tablewise/propagation/WaitingRing" = true := by first | (simp [plainName, overriddenIn]; done) | decide +kernel
theorem ef_6 (m : MethodId) (x0 : Addr) : entryFrame m #[(.ref x0)] 1 = mkF m 0 #[.val (.ref x0)] [] := by first | (simp [entryFrame, mkF, argsToLocals, Value.category]; done) | rfl
def Q6 (Z : State) (r : Addr) (ra : Addr) (wa : Addr) (nn : Int32) (n : Nat) (q : List Int32) (h0 : Heap) (n0 : Nat) (rv_ : Option Value) (h : Heap) (LL_ : List Loc) : Prop := rv_ = some (.int (if q.length = 0 then (1 : Int32) else (0 : Int32))) ∧ Fr n0 LL_ ∧ h = h0
set_option maxRecDepth 65536 in
set_option maxHeartbeats 40000000 in
theorem rm6 (l : Launch) (Z : State) (a0 : Array Value) (hw : ∀ d ∈ tables_1, d.before a0 Z = true) (ws : List Jvm.Cond) (r : Addr) (ra : Addr) (wa : Addr) (nn : Int32) (n : Nat) (q : List Int32) (h0 : Heap) (n0 : Nat) (R : own_Ring Z h0 r ra wa nn n q) :
    MetFree l (⟨"com/example/tablewise/tablewise/propagation/WaitingRing", "isEmpty", "()Z"⟩ : MethodName) (head1 (Jvm.Cond.code (⟨"com/example/tablewise/tablewise/propagation/WaitingRing", "isEmpty", "()Z"⟩ : MethodName) prog_25_method_2_code 1 (some .boolean) :: ws) ({ frames := 0, cells := 0, slots := 0, locals := 0 } : Room)) (fun aa UU => aa = #[(.ref r)] ∧ Z.Warmed39 UU.vm ∧ UU.heap = h0) (fun _ _ _ _ _ => True) (fun _ UU oo UV => ∃ vv LL, oo = .returned vv ∧ Q6 Z r ra wa nn n q h0 n0 vv UV.heap LL ∧ FrameEnd UU oo UV LL ({ frames := 0, cells := 0, slots := 0, locals := 0 } : Room).cells ({ frames := 0, cells := 0, slots := 0, locals := 0 } : Room).slots) := by
  refine MetFree.of_bodySF (plainFor_of_name pn_6) hisR ?_
  intro p e s m args below meth c s₁ Bd hml0 hP hK
  obtain ⟨rfl, hZ, hh⟩ := hP
  have hx := Bd.exec
  have hby := Bd.bytes
  have hml : c.maxLocals = 1 := hml0
  have hown : s.vm.findClass "com/example/tablewise/tablewise/propagation/WaitingRing" = some m.cls := findClass_of_methodNamed Bd.named
  have hnm := (name_of_methodNamed Bd.named Bd.method).1
  have X0 : Stand p l e ({ frames := 0, cells := 0, slots := 0, locals := 0 } : Room) s m #[(.ref r)] below meth c s₁ [] 0 0 := Stand.of_body Bd
  have e0 : s₁.heap = h0 := by rw [← hh, Bd.state]; rfl
  have N0 := Fr.nil n0
  have k0 : ∀ tg_, Steps p.tables e below (s₁.setTop (mkF m 0 #[.val (.ref r)] [])) tg_ → Steps p.tables e below (s₁.setTop (entryFrame m #[(.ref r)] 1)) tg_ := fun tg_ k => castTop (ef_6 m r) k
  obtain ⟨H, hd, cnt, fr, fw, E, F1, F2, F3, F4, V1, V2, ne1, ne2, ne3, hnn, hn4, hhd, hcnt, I⟩ := R
  obtain ⟨T155, X155, e155, st155⟩ := getF X0 hx hZ hown (host := "") (Or.inl (hw _ (List.mem_of_getElem? (i := 27) rfl))) Via.refl e0 F4 (g := (mkF m 1 #[.val (.ref r)] [(.ref r)])) rfl rfl (hb hby d6_1)
  have k156 : ∀ tg_, Steps p.tables e below (T155.setTop (mkF m 4 #[.val (.ref r)] [(.int cnt)])) tg_ → Steps p.tables e below (s₁.setTop (entryFrame m #[(.ref r)] 1)) tg_ := by
    intro tg_ kt
    refine k0 tg_ ?_
    refine XS.aloadN X0.here hx rfl (hb hby d6_0) rfl rfl ?_
    show Steps p.tables e below (s₁.setTop (mkF m 1 #[.val (.ref r)] [(.ref r)])) _
    refine st155 _ ?_
    show Steps p.tables e below (T155.setTop (mkF m 4 #[.val (.ref r)] [(.int cnt)])) _
    exact kt
  by_cases hc4_157 : cnt = (0 : Int32)
  · have k158 : ∀ tg_, Steps p.tables e below (T155.setTop (mkF m 12 #[.val (.ref r)] [(.int (1 : Int32))])) tg_ → Steps p.tables e below (s₁.setTop (entryFrame m #[(.ref r)] 1)) tg_ := by
      intro tg_ kt
      refine k156 tg_ ?_
      refine XS.ifNo X155.here hx rfl (hb hby d6_4) rfl ((if0 _ _).trans (teq hc4_157).2) ?_
      show Steps p.tables e below (T155.setTop (mkF m 7 #[.val (.ref r)] [])) _
      refine XS.iconst X155.here hx rfl (hb hby d6_7) ?_
      show Steps p.tables e below (T155.setTop (mkF m 8 #[.val (.ref r)] [(.int (1 : Int32))])) _
      refine XS.goto X155.here hx rfl (pc0 := 8) (pc' := 12) rfl (hb hby d6_8) (by decide) (by decide) ?_
      show Steps p.tables e below (T155.setTop (mkF m 12 #[.val (.ref r)] [(.int (1 : Int32))])) _
      exact kt
    obtain ⟨fs, hr, hrun, hended, hW, hsame⟩ := X155.leave (v := some (.int (1 : Int32))) (fun h => by rw [Bd.returns] at h; cases h)
    refine ⟨_, _, k158 _ (retN X155 hx (t := .boolean) Bd.returns (by simp) (hb hby d6_12) hr), hrun, hended, _, _, rfl, ?_, ⟨_, rfl⟩, hW, hsame.mono (by decide) (by decide)⟩
    show Q6 Z r ra wa nn n q h0 n0 _ T155.heap _
    rw [e155]
    exact ⟨(by rw [if_pos]; have e := congrArg Int32.toInt hc4_157; rw [hcnt] at e; exact Int.ofNat.inj e), N0, rfl⟩
  · have k159 : ∀ tg_, Steps p.tables e below (T155.setTop (mkF m 12 #[.val (.ref r)] [(.int (0 : Int32))])) tg_ → Steps p.tables e below (s₁.setTop (entryFrame m #[(.ref r)] 1)) tg_ := by
      intro tg_ kt
      refine k156 tg_ ?_
      refine XS.ifYes X155.here hx rfl (pc0 := 4) (pc' := 11) rfl (hb hby d6_4) rfl ((if0 _ _).trans (feq hc4_157).2) (by decide) (by decide) ?_
      show Steps p.tables e below (T155.setTop (mkF m 11 #[.val (.ref r)] [])) _
      refine XS.iconst X155.here hx rfl (hb hby d6_11) ?_
      show Steps p.tables e below (T155.setTop (mkF m 12 #[.val (.ref r)] [(.int (0 : Int32))])) _
      exact kt
    obtain ⟨fs, hr, hrun, hended, hW, hsame⟩ := X155.leave (v := some (.int (0 : Int32))) (fun h => by rw [Bd.returns] at h; cases h)
    refine ⟨_, _, k159 _ (retN X155 hx (t := .boolean) Bd.returns (by simp) (hb hby d6_12) hr), hrun, hended, _, _, rfl, ?_, ⟨_, rfl⟩, hW, hsame.mono (by decide) (by decide)⟩
    show Q6 Z r ra wa nn n q h0 n0 _ T155.heap _
    rw [e155]
    exact ⟨(by rw [if_neg]; exact fun e => hc4_157 (Int32.toInt_inj.mp (by rw [hcnt, e]; rfl))), N0, rfl⟩
theorem d3_0 : decode method_2_code 0 = .ok (.iload_n 0, 1) := by decide +kernel
theorem d3_1 : decode method_2_code 1 = .ok (.ldc 7, 2) := by decide +kernel
theorem d3_3 : decode method_2_code 3 = .ok (.iand, 1) := by decide +kernel
theorem d3_4 : decode method_2_code 4 = .ok (.iload_n 1, 1) := by decide +kernel
theorem d3_5 : decode method_2_code 5 = .ok (.irem, 1) := by decide +kernel
theorem d3_6 : decode method_2_code 6 = .ok (.ireturn, 1) := by decide +kernel
theorem pn_3 : plainName "com/example/tablewise/tablewise/propagation/WaitingRingAddPinLaw" = true := by first | (simp [plainName, overriddenIn]; done) | decide +kernel
theorem ef_3 (m : MethodId) (x0 : Int32) (x1 : Int32) : entryFrame m #[(.int x0), (.int x1)] 2 = mkF m 0 #[.val (.int x0), .val (.int x1)] [] := by first | (simp [entryFrame, mkF, argsToLocals, Value.category]; done) | rfl
def own_mod (p0 : Int32) (p1 : Int32) : Int32 := ((p0 &&& (2147483647 : Int32)) % p1)
theorem own_eq_own_mod (p0 : Int32) (p1 : Int32) : own_mod p0 p1 = ((p0 &&& (2147483647 : Int32)) % p1) := rfl
def Q3 (Z : State) (p0 : Int32) (p1 : Int32) (h0 : Heap) (n0 : Nat) (rv_ : Option Value) (h : Heap) (LL_ : List Loc) : Prop := rv_ = some (.int (own_mod p0 p1)) ∧ Fr n0 LL_ ∧ h = h0
set_option maxRecDepth 65536 in
set_option maxHeartbeats 40000000 in
theorem rm3 (l : Launch) (Z : State) (a0 : Array Value) (hw : ∀ d ∈ tables_1, d.before a0 Z = true) (ws : List Jvm.Cond) (p0 : Int32) (p1 : Int32) (h0 : Heap) (n0 : Nat) (hz : ¬ p1 = (0 : Int32)) :
    MetFree l (⟨"com/example/tablewise/tablewise/propagation/WaitingRingAddPinLaw", "mod", "(II)I"⟩ : MethodName) (head1 (Jvm.Cond.code (⟨"com/example/tablewise/tablewise/propagation/WaitingRingAddPinLaw", "mod", "(II)I"⟩ : MethodName) method_2_code 2 (some .int) :: ws) ({ frames := 0, cells := 0, slots := 0, locals := 0 } : Room)) (fun aa UU => aa = #[(.int p0), (.int p1)] ∧ Z.Warmed39 UU.vm ∧ UU.heap = h0) (fun _ _ _ _ _ => True) (fun _ UU oo UV => ∃ vv LL, oo = .returned vv ∧ Q3 Z p0 p1 h0 n0 vv UV.heap LL ∧ FrameEnd UU oo UV LL ({ frames := 0, cells := 0, slots := 0, locals := 0 } : Room).cells ({ frames := 0, cells := 0, slots := 0, locals := 0 } : Room).slots) := by
  refine MetFree.of_bodySF (plainFor_of_name pn_3) hisR ?_
  intro p e s m args below meth c s₁ Bd hml0 hP hK
  obtain ⟨rfl, hZ, hh⟩ := hP
  have hx := Bd.exec
  have hby := Bd.bytes
  have hml : c.maxLocals = 2 := hml0
  have hown : s.vm.findClass "com/example/tablewise/tablewise/propagation/WaitingRingAddPinLaw" = some m.cls := findClass_of_methodNamed Bd.named
  have hnm := (name_of_methodNamed Bd.named Bd.method).1
  have X0 : Stand p l e ({ frames := 0, cells := 0, slots := 0, locals := 0 } : Room) s m #[(.int p0), (.int p1)] below meth c s₁ [] 0 0 := Stand.of_body Bd
  have e0 : s₁.heap = h0 := by rw [← hh, Bd.state]; rfl
  have N0 := Fr.nil n0
  have k0 : ∀ tg_, Steps p.tables e below (s₁.setTop (mkF m 0 #[.val (.int p0), .val (.int p1)] [])) tg_ → Steps p.tables e below (s₁.setTop (entryFrame m #[(.int p0), (.int p1)] 2)) tg_ := fun tg_ k => castTop (ef_3 m p0 p1) k
  have k160 : ∀ tg_, Steps p.tables e below (s₁.setTop (mkF m 6 #[.val (.int p0), .val (.int p1)] [(.int ((p0 &&& (2147483647 : Int32)) % p1))])) tg_ → Steps p.tables e below (s₁.setTop (entryFrame m #[(.int p0), (.int p1)] 2)) tg_ := by
    intro tg_ kt
    refine k0 tg_ ?_
    refine XS.iloadN X0.here hx rfl (hb hby d3_0) rfl ?_
    show Steps p.tables e below (s₁.setTop (mkF m 1 #[.val (.int p0), .val (.int p1)] [(.int p0)])) _
    refine X0.ldcInt hx hown (mvT hZ (hw _ (List.mem_of_getElem? (i := 19) rfl))) (g := (mkF m 1 #[.val (.int p0), .val (.int p1)] [(.int p0)])) rfl (hb hby d3_1) _ ?_
    show Steps p.tables e below (s₁.setTop (mkF m 3 #[.val (.int p0), .val (.int p1)] [(.int (2147483647 : Int32)), (.int p0)])) _
    refine XS.iand X0.here hx rfl (hb hby d3_3) rfl ?_
    show Steps p.tables e below (s₁.setTop (mkF m 4 #[.val (.int p0), .val (.int p1)] [(.int (p0 &&& (2147483647 : Int32)))])) _
    refine XS.iloadN X0.here hx rfl (hb hby d3_4) rfl ?_
    show Steps p.tables e below (s₁.setTop (mkF m 5 #[.val (.int p0), .val (.int p1)] [(.int p1), (.int (p0 &&& (2147483647 : Int32)))])) _
    refine iremM X0 hx rfl (hb hby d3_5) rfl hz ?_
    show Steps p.tables e below (s₁.setTop (mkF m 6 #[.val (.int p0), .val (.int p1)] [(.int ((p0 &&& (2147483647 : Int32)) % p1))])) _
    exact kt
  obtain ⟨fs, hr, hrun, hended, hW, hsame⟩ := X0.leave (v := some (.int ((p0 &&& (2147483647 : Int32)) % p1))) (fun h => by rw [Bd.returns] at h; cases h)
  refine ⟨_, _, k160 _ (retI X0 hx Bd.returns (hb hby d3_6) hr), hrun, hended, _, _, rfl, ?_, ⟨_, rfl⟩, hW, hsame.mono (by decide) (by decide)⟩
  show Q3 Z p0 p1 h0 n0 _ s₁.heap _
  rw [e0]
  exact ⟨(by rw [own_eq_own_mod]), N0, rfl⟩

theorem own_modk {a nn : Int32} {n : Nat} (hnn : nn.toInt = (n : Int)) (hn1 : 0 < n) : ∃ k : Nat, (own_mod a nn).toInt = (k : Int) ∧ k < n := by
  rw [own_eq_own_mod]
  have e := c_mask a 2147483647 31 (by decide) (by decide)
  have e2 := (c_iremV (a &&& 2147483647) nn).1 (by rw [e]; exact Int.emod_nonneg _ (by decide)) (by omega)
  exact ⟨((a &&& 2147483647) % nn).toInt.toNat, by omega, by omega⟩
theorem own_size (a : Int32) : ∃ n : Nat, ((1 : Int32) + (a &&& (3 : Int32))).toInt = (n : Int) ∧ 0 < n ∧ n ≤ 4 := by
  have e := c_mask a 3 2 (by decide) (by decide)
  have e1 := c_iadd 1 (a &&& 3)
  have r := rng32 (1 + (a &&& 3))
  have o : (1 : Int32).toInt = 1 := by decide
  exact ⟨((1 : Int32) + (a &&& 3)).toInt.toNat, by omega, by omega, by omega⟩

theorem pd_0 : parseMethodDescriptor "(I)V" = some ⟨[.int], none⟩ := by decide +kernel
theorem pd_2 : parseMethodDescriptor "(II)I" = some ⟨[.int, .int], some .int⟩ := by decide +kernel
theorem pd_3 : parseMethodDescriptor "()I" = some ⟨[], some .int⟩ := by decide +kernel
theorem pd_4 : parseMethodDescriptor "()Z" = some ⟨[], some .boolean⟩ := by decide +kernel
theorem pn_0 : plainName "com/example/tablewise/tablewise/propagation/WaitingRingAddPinLaw" = true := by first | (simp [plainName, overriddenIn]; done) | decide +kernel
theorem ef_0 (m : MethodId) (x0 : Int32) (x1 : Int32) (x2 : Int32) (x3 : Int32) (x4 : Int32) (x5 : Int32) : entryFrame m #[(.int x0), (.int x1), (.int x2), (.int x3), (.int x4), (.int x5)] maxLocals = mkF m 0 #[.val (.int x0), .val (.int x1), .val (.int x2), .val (.int x3), .val (.int x4), .val (.int x5), .unset, .unset, .unset, .unset, .unset, .unset, .unset, .unset] [] := by first | (simp [entryFrame, mkF, argsToLocals, Value.category, maxLocals]; done) | rfl
def Q0 (Z : State) (p0 : Int32) (p1 : Int32) (p2 : Int32) (p3 : Int32) (p4 : Int32) (p5 : Int32) (h0 : Heap) (n0 : Nat) (rv_ : Option Value) (h : Heap) (LL_ : List Loc) : Prop := rv_ = some (.int 1) ∧ Fr n0 LL_
set_option maxRecDepth 65536 in
set_option maxHeartbeats 40000000 in
theorem rm0 (l : Launch) (Z : State) (a0 : Array Value) (hw : ∀ d ∈ tables_1, d.before a0 Z = true) (ws : List Jvm.Cond) (p0 : Int32) (p1 : Int32) (p2 : Int32) (p3 : Int32) (p4 : Int32) (p5 : Int32) (h0 : Heap) (n0 : Nat) (Z0 : n0 ≤ h0.size) :
    MetFree l x (head1 (Jvm.Cond.code x code maxLocals ret :: ws) room_1) (fun aa UU => aa = #[(.int p0), (.int p1), (.int p2), (.int p3), (.int p4), (.int p5)] ∧ Z.Warmed39 UU.vm ∧ UU.heap = h0) (fun _ _ _ _ _ => True) (fun _ UU oo UV => ∃ vv LL, oo = .returned vv ∧ Q0 Z p0 p1 p2 p3 p4 p5 h0 n0 vv UV.heap LL ∧ FrameEnd UU oo UV LL room_1.cells room_1.slots) := by
  refine MetFree.of_bodySF (plainFor_of_name pn_0) hisR ?_
  intro p e s m args below meth c s₁ Bd hml0 hP hK
  obtain ⟨rfl, hZ, hh⟩ := hP
  have hx := Bd.exec
  have hby := Bd.bytes
  have hml : c.maxLocals = 14 := hml0
  have hown : s.vm.findClass "com/example/tablewise/tablewise/propagation/WaitingRingAddPinLaw" = some m.cls := findClass_of_methodNamed Bd.named
  have hnm := (name_of_methodNamed Bd.named Bd.method).1
  have X0 : Stand p l e room_1 s m #[(.int p0), (.int p1), (.int p2), (.int p3), (.int p4), (.int p5)] below meth c s₁ [] 0 0 := Stand.of_body Bd
  have e0 : s₁.heap = h0 := by rw [← hh, Bd.state]; rfl
  have N0 := Fr.nil n0
  have k0 : ∀ tg_, Steps p.tables e below (s₁.setTop (mkF m 0 #[.val (.int p0), .val (.int p1), .val (.int p2), .val (.int p3), .val (.int p4), .val (.int p5), .unset, .unset, .unset, .unset, .unset, .unset, .unset, .unset] [])) tg_ → Steps p.tables e below (s₁.setTop (entryFrame m #[(.int p0), (.int p1), (.int p2), (.int p3), (.int p4), (.int p5)] maxLocals)) tg_ := fun tg_ k => castTop (ef_0 m p0 p1 p2 p3 p4 p5) k
  have k161 : ∀ tg_, Steps p.tables e below (s₁.setTop (mkF m 5 #[.val (.int p0), .val (.int p1), .val (.int p2), .val (.int p3), .val (.int p4), .val (.int p5), .unset, .unset, .unset, .unset, .unset, .unset, .unset, .unset] [(.int ((1 : Int32) + (p0 &&& (3 : Int32))))])) tg_ → Steps p.tables e below (s₁.setTop (entryFrame m #[(.int p0), (.int p1), (.int p2), (.int p3), (.int p4), (.int p5)] maxLocals)) tg_ := by
    intro tg_ kt
    refine k0 tg_ ?_
    refine XS.iconst X0.here hx rfl (hb hby at_0) ?_
    show Steps p.tables e below (s₁.setTop (mkF m 1 #[.val (.int p0), .val (.int p1), .val (.int p2), .val (.int p3), .val (.int p4), .val (.int p5), .unset, .unset, .unset, .unset, .unset, .unset, .unset, .unset] [(.int (1 : Int32))])) _
    refine XS.iloadN X0.here hx rfl (hb hby at_1) rfl ?_
    show Steps p.tables e below (s₁.setTop (mkF m 2 #[.val (.int p0), .val (.int p1), .val (.int p2), .val (.int p3), .val (.int p4), .val (.int p5), .unset, .unset, .unset, .unset, .unset, .unset, .unset, .unset] [(.int p0), (.int (1 : Int32))])) _
    refine XS.iconst X0.here hx rfl (hb hby at_2) ?_
    show Steps p.tables e below (s₁.setTop (mkF m 3 #[.val (.int p0), .val (.int p1), .val (.int p2), .val (.int p3), .val (.int p4), .val (.int p5), .unset, .unset, .unset, .unset, .unset, .unset, .unset, .unset] [(.int (3 : Int32)), (.int p0), (.int (1 : Int32))])) _
    refine XS.iand X0.here hx rfl (hb hby at_3) rfl ?_
    show Steps p.tables e below (s₁.setTop (mkF m 4 #[.val (.int p0), .val (.int p1), .val (.int p2), .val (.int p3), .val (.int p4), .val (.int p5), .unset, .unset, .unset, .unset, .unset, .unset, .unset, .unset] [(.int (p0 &&& (3 : Int32))), (.int (1 : Int32))])) _
    refine XS.iadd X0.here hx rfl (hb hby at_4) rfl ?_
    show Steps p.tables e below (s₁.setTop (mkF m 5 #[.val (.int p0), .val (.int p1), .val (.int p2), .val (.int p3), .val (.int p4), .val (.int p5), .unset, .unset, .unset, .unset, .unset, .unset, .unset, .unset] [(.int ((1 : Int32) + (p0 &&& (3 : Int32))))])) _
    exact kt
  obtain ⟨v162, hv162⟩ : ∃ z : Int32, z = ((1 : Int32) + (p0 &&& (3 : Int32))) := ⟨_, rfl⟩
  rw [← hv162] at k161
  have k163 : ∀ tg_, Steps p.tables e below (s₁.setTop (mkF m 7 #[.val (.int p0), .val (.int p1), .val (.int p2), .val (.int p3), .val (.int p4), .val (.int p5), .val (.int v162), .unset, .unset, .unset, .unset, .unset, .unset, .unset] [])) tg_ → Steps p.tables e below (s₁.setTop (entryFrame m #[(.int p0), (.int p1), (.int p2), (.int p3), (.int p4), (.int p5)] maxLocals)) tg_ := by
    intro tg_ kt
    refine k161 tg_ ?_
    refine XS.istore X0.here hx rfl (hb hby at_5) rfl (l' := #[.val (.int p0), .val (.int p1), .val (.int p2), .val (.int p3), .val (.int p4), .val (.int p5), .val (.int v162), .unset, .unset, .unset, .unset, .unset, .unset, .unset]) rfl ?_
    show Steps p.tables e below (s₁.setTop (mkF m 7 #[.val (.int p0), .val (.int p1), .val (.int p2), .val (.int p3), .val (.int p4), .val (.int p5), .val (.int v162), .unset, .unset, .unset, .unset, .unset, .unset, .unset] [])) _
    exact kt
  obtain ⟨n, hnn, hn1, hn4⟩ : ∃ n : Nat, v162.toInt = (n : Int) ∧ 0 < n ∧ n ≤ 4 := by rw [hv162]; exact own_size _
  have hnz : ¬ v162 = (0 : Int32) := by
    intro q
    rw [q] at hnn
    have e : (0 : Int32).toInt = 0 := by decide
    omega
  obtain ⟨T164, h164, X164, e164, E164, A164, D164, -, st164⟩ := newO X0 hx hZ hown (hw _ (List.mem_of_getElem? (i := 0) rfl)) (hw _ (List.mem_of_getElem? (i := 1) rfl)) (hw _ (List.mem_of_getElem? (i := 2) rfl)) e0 (g := (mkF m 7 #[.val (.int p0), .val (.int p1), .val (.int p2), .val (.int p3), .val (.int p4), .val (.int p5), .val (.int v162), .unset, .unset, .unset, .unset, .unset, .unset, .unset] [])) rfl (hb hby at_7) (by decide) (by decide)
  obtain ⟨b164, g164⟩ : ∃ z, z = h0.size := ⟨_, rfl⟩
  rw [← g164] at A164 D164 st164
  have ge_b164 : n0 ≤ b164 := Nat.le_trans Z0 (Nat.le_of_eq g164.symm)
  have F165 : Fld Z h164 b164 "com/example/tablewise/tablewise/propagation/WaitingRing" "ring" "[I" .null := D164 (Or.inr (hw _ (List.mem_of_getElem? (i := 11) rfl))) (ty := (.array .int)) (by decide)
  have F166 : Fld Z h164 b164 "com/example/tablewise/tablewise/propagation/WaitingRing" "waiting" "[Z" .null := D164 (Or.inr (hw _ (List.mem_of_getElem? (i := 14) rfl))) (ty := (.array .boolean)) (by decide)
  have F167 : Fld Z h164 b164 "com/example/tablewise/tablewise/propagation/WaitingRing" "head" "I" (.int (0 : Int32)) := D164 (Or.inl (hw _ (List.mem_of_getElem? (i := 26) rfl))) (ty := .int) (by decide)
  have F168 : Fld Z h164 b164 "com/example/tablewise/tablewise/propagation/WaitingRing" "count" "I" (.int (0 : Int32)) := D164 (Or.inl (hw _ (List.mem_of_getElem? (i := 28) rfl))) (ty := .int) (by decide)
  have f169 := (Nat.le_trans Z0 ((Keep.refl _ []).ext E164).1)
  obtain ⟨_, _, ⟨T170, L170, kc170, nc170⟩, -, X170, ⟨Lc170, hQ170, l170, y170, z170⟩, st170⟩ := X164.specialBack hx (y := (⟨"com/example/tablewise/tablewise/propagation/WaitingRing", "<init>", "(I)V"⟩ : MethodName)) rfl hown (mvT hZ (hw _ (List.mem_of_getElem? (i := 3) rfl))) (mvT hZ (hw _ (List.mem_of_getElem? (i := 4) rfl))) (mvT hZ (hw _ (List.mem_of_getElem? (i := 5) rfl))) (by decide) (backOf (W := 1) (rm1 l Z a0 hw [] b164 v162 n h164 n0 f169 A164 F165 F166 F167 F168 ge_b164 hnn hn1 hn4) hZ (hw _ (List.mem_of_getElem? (i := 5) rfl)) (hw _ (List.mem_of_getElem? (i := 2) rfl)) (by decide) (by decide)) (g := (mkF m 13 #[.val (.int p0), .val (.int p1), .val (.int p2), .val (.int p3), .val (.int p4), .val (.int p5), .val (.int v162), .unset, .unset, .unset, .unset, .unset, .unset, .unset] [(.int v162), (.ref b164), (.ref b164)])) rfl (by rw [hml]; rfl) (Steps.refl _) (a := b164) (argsL := [(.int v162)]) (rest := [(.ref b164)]) (lenOf pd_0 rfl) rfl (by show 2 * 0 + _ ≤ _; exact Nat.le_of_eq rfl) (hb hby at_13) (fun _ _ => ⟨rfl, e164, (by decide : 1 + 2 ≤ _), (by decide : 4 + 8 ≤ _)⟩)
  dsimp only [Pt.U, Pt.locs, Pt.cells, Pt.slots] at X170 l170 y170 z170 st170 hQ170
  subst l170 y170 z170
  obtain ⟨rfl, Nq170, oK170, m0_170⟩ := hQ170
  have N170 := Fr.app N0 Nq170
  obtain ⟨ra170, wa170, R170, gra170, gwa170⟩ := m0_170
  have k171 : ∀ tg_, Steps p.tables e below (T170.setTop (mkF m 21 #[.val (.int p0), .val (.int p1), .val (.int p2), .val (.int p3), .val (.int p4), .val (.int p5), .val (.int v162), .val (.ref b164), .unset, .unset, .unset, .unset, .unset, .unset] [(.int (p1 &&& (1 : Int32)))])) tg_ → Steps p.tables e below (s₁.setTop (entryFrame m #[(.int p0), (.int p1), (.int p2), (.int p3), (.int p4), (.int p5)] maxLocals)) tg_ := by
    intro tg_ kt
    refine k163 tg_ ?_
    refine st164 _ ?_
    show Steps p.tables e below (T164.setTop (mkF m 10 #[.val (.int p0), .val (.int p1), .val (.int p2), .val (.int p3), .val (.int p4), .val (.int p5), .val (.int v162), .unset, .unset, .unset, .unset, .unset, .unset, .unset] [(.ref b164)])) _
    refine XS.dup X164.here hx rfl (hb hby at_10) rfl rfl ?_
    show Steps p.tables e below (T164.setTop (mkF m 11 #[.val (.int p0), .val (.int p1), .val (.int p2), .val (.int p3), .val (.int p4), .val (.int p5), .val (.int v162), .unset, .unset, .unset, .unset, .unset, .unset, .unset] [(.ref b164), (.ref b164)])) _
    refine XS.iload X164.here hx rfl (hb hby at_11) rfl ?_
    show Steps p.tables e below (T164.setTop (mkF m 13 #[.val (.int p0), .val (.int p1), .val (.int p2), .val (.int p3), .val (.int p4), .val (.int p5), .val (.int v162), .unset, .unset, .unset, .unset, .unset, .unset, .unset] [(.int v162), (.ref b164), (.ref b164)])) _
    refine st170.trans ?_
    show Steps p.tables e below (T170.setTop (mkF m 16 #[.val (.int p0), .val (.int p1), .val (.int p2), .val (.int p3), .val (.int p4), .val (.int p5), .val (.int v162), .unset, .unset, .unset, .unset, .unset, .unset, .unset] [(.ref b164)])) _
    refine XS.astore X170.here hx rfl (hb hby at_16) rfl rfl (l' := #[.val (.int p0), .val (.int p1), .val (.int p2), .val (.int p3), .val (.int p4), .val (.int p5), .val (.int v162), .val (.ref b164), .unset, .unset, .unset, .unset, .unset, .unset]) rfl ?_
    show Steps p.tables e below (T170.setTop (mkF m 18 #[.val (.int p0), .val (.int p1), .val (.int p2), .val (.int p3), .val (.int p4), .val (.int p5), .val (.int v162), .val (.ref b164), .unset, .unset, .unset, .unset, .unset, .unset] [])) _
    refine XS.iloadN X170.here hx rfl (hb hby at_18) rfl ?_
    show Steps p.tables e below (T170.setTop (mkF m 19 #[.val (.int p0), .val (.int p1), .val (.int p2), .val (.int p3), .val (.int p4), .val (.int p5), .val (.int v162), .val (.ref b164), .unset, .unset, .unset, .unset, .unset, .unset] [(.int p1)])) _
    refine XS.iconst X170.here hx rfl (hb hby at_19) ?_
    show Steps p.tables e below (T170.setTop (mkF m 20 #[.val (.int p0), .val (.int p1), .val (.int p2), .val (.int p3), .val (.int p4), .val (.int p5), .val (.int v162), .val (.ref b164), .unset, .unset, .unset, .unset, .unset, .unset] [(.int (1 : Int32)), (.int p1)])) _
    refine XS.iand X170.here hx rfl (hb hby at_20) rfl ?_
    show Steps p.tables e below (T170.setTop (mkF m 21 #[.val (.int p0), .val (.int p1), .val (.int p2), .val (.int p3), .val (.int p4), .val (.int p5), .val (.int v162), .val (.ref b164), .unset, .unset, .unset, .unset, .unset, .unset] [(.int (p1 &&& (1 : Int32)))])) _
    exact kt
  by_cases hc21_172 : (p1 &&& (1 : Int32)) = (0 : Int32)
  · obtain ⟨_, _, ⟨T173, L173, kc173, nc173⟩, -, X173, ⟨Lc173, hQ173, l173, y173, z173⟩, st173⟩ := Jvm.LawKit.callS X170 hx (y := (⟨"com/example/tablewise/tablewise/propagation/WaitingRingAddPinLaw", "mod", "(II)I"⟩ : MethodName)) hown (mvT hZ (hw _ (List.mem_of_getElem? (i := 15) rfl))) (mvT hZ (hw _ (List.mem_of_getElem? (i := 16) rfl))) (mvT hZ (hw _ (List.mem_of_getElem? (i := 17) rfl))) (mvT hZ (hw _ (List.mem_of_getElem? (i := 18) rfl))) (by decide) (backOf (W := 0) (rm3 l Z a0 hw [] p3 v162 T170.heap n0 hnz) hZ (hw _ (List.mem_of_getElem? (i := 18) rfl)) (hw _ (List.mem_of_getElem? (i := 17) rfl)) (by decide) (by decide)) (g := (mkF m 54 #[.val (.int p0), .val (.int p1), .val (.int p2), .val (.int p3), .val (.int p4), .val (.int p5), .val (.int v162), .val (.ref b164), .unset, .unset, .unset, .unset, .unset, .unset] [(.int v162), (.int p3)])) rfl (by rw [hml]; rfl) (argsL := [(.int p3), (.int v162)]) (rest := []) (lenOf pd_2 rfl) rfl (by show 2 * 0 + _ ≤ _; exact Nat.le_of_eq rfl) (hb hby at_54) (fun _ _ => ⟨rfl, rfl, (by decide : 3 + 0 ≤ _), (by decide : 12 + 0 ≤ _)⟩)
    dsimp only [Pt.U, Pt.locs, Pt.cells, Pt.slots] at X173 l173 y173 z173 st173 hQ173
    subst l173 y173 z173
    obtain ⟨rfl, Nq173, eq173⟩ := hQ173
    have N173 := Fr.app N170 Nq173
    have k174 : ∀ tg_, Steps p.tables e below (T173.setTop (mkF m 57 #[.val (.int p0), .val (.int p1), .val (.int p2), .val (.int p3), .val (.int p4), .val (.int p5), .val (.int v162), .val (.ref b164), .unset, .unset, .unset, .unset, .unset, .unset] [(.int (own_mod p3 v162))])) tg_ → Steps p.tables e below (s₁.setTop (entryFrame m #[(.int p0), (.int p1), (.int p2), (.int p3), (.int p4), (.int p5)] maxLocals)) tg_ := by
      intro tg_ kt
      refine k171 tg_ ?_
      refine XS.ifYes X170.here hx rfl (pc0 := 21) (pc' := 51) rfl (hb hby at_21) rfl ((if0 _ _).trans (teq hc21_172).1) (by decide) (by decide) ?_
      show Steps p.tables e below (T170.setTop (mkF m 51 #[.val (.int p0), .val (.int p1), .val (.int p2), .val (.int p3), .val (.int p4), .val (.int p5), .val (.int v162), .val (.ref b164), .unset, .unset, .unset, .unset, .unset, .unset] [])) _
      refine XS.iloadN X170.here hx rfl (hb hby at_51) rfl ?_
      show Steps p.tables e below (T170.setTop (mkF m 52 #[.val (.int p0), .val (.int p1), .val (.int p2), .val (.int p3), .val (.int p4), .val (.int p5), .val (.int v162), .val (.ref b164), .unset, .unset, .unset, .unset, .unset, .unset] [(.int p3)])) _
      refine XS.iload X170.here hx rfl (hb hby at_52) rfl ?_
      show Steps p.tables e below (T170.setTop (mkF m 54 #[.val (.int p0), .val (.int p1), .val (.int p2), .val (.int p3), .val (.int p4), .val (.int p5), .val (.int v162), .val (.ref b164), .unset, .unset, .unset, .unset, .unset, .unset] [(.int v162), (.int p3)])) _
      refine st173 _ ?_
      show Steps p.tables e below (T173.setTop (mkF m 57 #[.val (.int p0), .val (.int p1), .val (.int p2), .val (.int p3), .val (.int p4), .val (.int p5), .val (.int v162), .val (.ref b164), .unset, .unset, .unset, .unset, .unset, .unset] [(.int (own_mod p3 v162))])) _
      exact kt
    obtain ⟨r175, hr175⟩ : ∃ z : Int32, z = (own_mod p3 v162) := ⟨_, rfl⟩
    rw [← hr175] at k174
    have k176 : ∀ tg_, Steps p.tables e below (T173.setTop (mkF m 57 #[.val (.int p0), .val (.int p1), .val (.int p2), .val (.int p3), .val (.int p4), .val (.int p5), .val (.int v162), .val (.ref b164), .unset, .unset, .unset, .unset, .unset, .unset] [(.int r175)])) tg_ → Steps p.tables e below (s₁.setTop (entryFrame m #[(.int p0), (.int p1), (.int p2), (.int p3), (.int p4), (.int p5)] maxLocals)) tg_ := by
      intro tg_ kt
      refine k174 tg_ ?_
      show Steps p.tables e below (T173.setTop (mkF m 57 #[.val (.int p0), .val (.int p1), .val (.int p2), .val (.int p3), .val (.int p4), .val (.int p5), .val (.int v162), .val (.ref b164), .unset, .unset, .unset, .unset, .unset, .unset] [(.int r175)])) _
      exact kt
    obtain ⟨k177, hk177, hl177⟩ : ∃ k : Nat, r175.toInt = (k : Int) ∧ k < n := by rw [hr175]; exact own_modk hnn hn1
    obtain ⟨_, _, ⟨T178, L178, kc178, nc178⟩, -, X178, ⟨Lc178, hQ178, l178, y178, z178⟩, st178⟩ := Jvm.LawKit.callS X173 hx (y := (⟨"com/example/tablewise/tablewise/propagation/WaitingRingAddPinLaw", "mod", "(II)I"⟩ : MethodName)) hown (mvT hZ (hw _ (List.mem_of_getElem? (i := 15) rfl))) (mvT hZ (hw _ (List.mem_of_getElem? (i := 16) rfl))) (mvT hZ (hw _ (List.mem_of_getElem? (i := 17) rfl))) (mvT hZ (hw _ (List.mem_of_getElem? (i := 18) rfl))) (by decide) (backOf (W := 0) (rm3 l Z a0 hw [] p4 v162 T170.heap n0 hnz) hZ (hw _ (List.mem_of_getElem? (i := 18) rfl)) (hw _ (List.mem_of_getElem? (i := 17) rfl)) (by decide) (by decide)) (g := (mkF m 63 #[.val (.int p0), .val (.int p1), .val (.int p2), .val (.int p3), .val (.int p4), .val (.int p5), .val (.int v162), .val (.ref b164), .val (.int r175), .unset, .unset, .unset, .unset, .unset] [(.int v162), (.int p4)])) rfl (by rw [hml]; rfl) (argsL := [(.int p4), (.int v162)]) (rest := []) (lenOf pd_2 rfl) rfl (by show 2 * 0 + _ ≤ _; exact Nat.le_of_eq rfl) (hb hby at_63) (fun _ _ => ⟨rfl, eq173, (by decide : 3 + 0 ≤ _), (by decide : 12 + 0 ≤ _)⟩)
    dsimp only [Pt.U, Pt.locs, Pt.cells, Pt.slots] at X178 l178 y178 z178 st178 hQ178
    subst l178 y178 z178
    obtain ⟨rfl, Nq178, eq178⟩ := hQ178
    have N178 := Fr.app N173 Nq178
    have k179 : ∀ tg_, Steps p.tables e below (T178.setTop (mkF m 66 #[.val (.int p0), .val (.int p1), .val (.int p2), .val (.int p3), .val (.int p4), .val (.int p5), .val (.int v162), .val (.ref b164), .val (.int r175), .unset, .unset, .unset, .unset, .unset] [(.int (own_mod p4 v162))])) tg_ → Steps p.tables e below (s₁.setTop (entryFrame m #[(.int p0), (.int p1), (.int p2), (.int p3), (.int p4), (.int p5)] maxLocals)) tg_ := by
      intro tg_ kt
      refine k176 tg_ ?_
      refine XS.istore X173.here hx rfl (hb hby at_57) rfl (l' := #[.val (.int p0), .val (.int p1), .val (.int p2), .val (.int p3), .val (.int p4), .val (.int p5), .val (.int v162), .val (.ref b164), .val (.int r175), .unset, .unset, .unset, .unset, .unset]) rfl ?_
      show Steps p.tables e below (T173.setTop (mkF m 59 #[.val (.int p0), .val (.int p1), .val (.int p2), .val (.int p3), .val (.int p4), .val (.int p5), .val (.int v162), .val (.ref b164), .val (.int r175), .unset, .unset, .unset, .unset, .unset] [])) _
      refine XS.iload X173.here hx rfl (hb hby at_59) rfl ?_
      show Steps p.tables e below (T173.setTop (mkF m 61 #[.val (.int p0), .val (.int p1), .val (.int p2), .val (.int p3), .val (.int p4), .val (.int p5), .val (.int v162), .val (.ref b164), .val (.int r175), .unset, .unset, .unset, .unset, .unset] [(.int p4)])) _
      refine XS.iload X173.here hx rfl (hb hby at_61) rfl ?_
      show Steps p.tables e below (T173.setTop (mkF m 63 #[.val (.int p0), .val (.int p1), .val (.int p2), .val (.int p3), .val (.int p4), .val (.int p5), .val (.int v162), .val (.ref b164), .val (.int r175), .unset, .unset, .unset, .unset, .unset] [(.int v162), (.int p4)])) _
      refine st178 _ ?_
      show Steps p.tables e below (T178.setTop (mkF m 66 #[.val (.int p0), .val (.int p1), .val (.int p2), .val (.int p3), .val (.int p4), .val (.int p5), .val (.int v162), .val (.ref b164), .val (.int r175), .unset, .unset, .unset, .unset, .unset] [(.int (own_mod p4 v162))])) _
      exact kt
    obtain ⟨r180, hr180⟩ : ∃ z : Int32, z = (own_mod p4 v162) := ⟨_, rfl⟩
    rw [← hr180] at k179
    have k181 : ∀ tg_, Steps p.tables e below (T178.setTop (mkF m 66 #[.val (.int p0), .val (.int p1), .val (.int p2), .val (.int p3), .val (.int p4), .val (.int p5), .val (.int v162), .val (.ref b164), .val (.int r175), .unset, .unset, .unset, .unset, .unset] [(.int r180)])) tg_ → Steps p.tables e below (s₁.setTop (entryFrame m #[(.int p0), (.int p1), (.int p2), (.int p3), (.int p4), (.int p5)] maxLocals)) tg_ := by
      intro tg_ kt
      refine k179 tg_ ?_
      show Steps p.tables e below (T178.setTop (mkF m 66 #[.val (.int p0), .val (.int p1), .val (.int p2), .val (.int p3), .val (.int p4), .val (.int p5), .val (.int v162), .val (.ref b164), .val (.int r175), .unset, .unset, .unset, .unset, .unset] [(.int r180)])) _
      exact kt
    obtain ⟨k182, hk182, hl182⟩ : ∃ k : Nat, r180.toInt = (k : Int) ∧ k < n := by rw [hr180]; exact own_modk hnn hn1
    obtain ⟨_, _, ⟨T183, L183, kc183, nc183⟩, -, X183, ⟨Lc183, hQ183, l183, y183, z183⟩, st183⟩ := Jvm.LawKit.callS X178 hx (y := (⟨"com/example/tablewise/tablewise/propagation/WaitingRingAddPinLaw", "mod", "(II)I"⟩ : MethodName)) hown (mvT hZ (hw _ (List.mem_of_getElem? (i := 15) rfl))) (mvT hZ (hw _ (List.mem_of_getElem? (i := 16) rfl))) (mvT hZ (hw _ (List.mem_of_getElem? (i := 17) rfl))) (mvT hZ (hw _ (List.mem_of_getElem? (i := 18) rfl))) (by decide) (backOf (W := 0) (rm3 l Z a0 hw [] p5 v162 T170.heap n0 hnz) hZ (hw _ (List.mem_of_getElem? (i := 18) rfl)) (hw _ (List.mem_of_getElem? (i := 17) rfl)) (by decide) (by decide)) (g := (mkF m 72 #[.val (.int p0), .val (.int p1), .val (.int p2), .val (.int p3), .val (.int p4), .val (.int p5), .val (.int v162), .val (.ref b164), .val (.int r175), .val (.int r180), .unset, .unset, .unset, .unset] [(.int v162), (.int p5)])) rfl (by rw [hml]; rfl) (argsL := [(.int p5), (.int v162)]) (rest := []) (lenOf pd_2 rfl) rfl (by show 2 * 0 + _ ≤ _; exact Nat.le_of_eq rfl) (hb hby at_72) (fun _ _ => ⟨rfl, eq178, (by decide : 3 + 0 ≤ _), (by decide : 12 + 0 ≤ _)⟩)
    dsimp only [Pt.U, Pt.locs, Pt.cells, Pt.slots] at X183 l183 y183 z183 st183 hQ183
    subst l183 y183 z183
    obtain ⟨rfl, Nq183, eq183⟩ := hQ183
    have N183 := Fr.app N178 Nq183
    have k184 : ∀ tg_, Steps p.tables e below (T183.setTop (mkF m 75 #[.val (.int p0), .val (.int p1), .val (.int p2), .val (.int p3), .val (.int p4), .val (.int p5), .val (.int v162), .val (.ref b164), .val (.int r175), .val (.int r180), .unset, .unset, .unset, .unset] [(.int (own_mod p5 v162))])) tg_ → Steps p.tables e below (s₁.setTop (entryFrame m #[(.int p0), (.int p1), (.int p2), (.int p3), (.int p4), (.int p5)] maxLocals)) tg_ := by
      intro tg_ kt
      refine k181 tg_ ?_
      refine XS.istore X178.here hx rfl (hb hby at_66) rfl (l' := #[.val (.int p0), .val (.int p1), .val (.int p2), .val (.int p3), .val (.int p4), .val (.int p5), .val (.int v162), .val (.ref b164), .val (.int r175), .val (.int r180), .unset, .unset, .unset, .unset]) rfl ?_
      show Steps p.tables e below (T178.setTop (mkF m 68 #[.val (.int p0), .val (.int p1), .val (.int p2), .val (.int p3), .val (.int p4), .val (.int p5), .val (.int v162), .val (.ref b164), .val (.int r175), .val (.int r180), .unset, .unset, .unset, .unset] [])) _
      refine XS.iload X178.here hx rfl (hb hby at_68) rfl ?_
      show Steps p.tables e below (T178.setTop (mkF m 70 #[.val (.int p0), .val (.int p1), .val (.int p2), .val (.int p3), .val (.int p4), .val (.int p5), .val (.int v162), .val (.ref b164), .val (.int r175), .val (.int r180), .unset, .unset, .unset, .unset] [(.int p5)])) _
      refine XS.iload X178.here hx rfl (hb hby at_70) rfl ?_
      show Steps p.tables e below (T178.setTop (mkF m 72 #[.val (.int p0), .val (.int p1), .val (.int p2), .val (.int p3), .val (.int p4), .val (.int p5), .val (.int v162), .val (.ref b164), .val (.int r175), .val (.int r180), .unset, .unset, .unset, .unset] [(.int v162), (.int p5)])) _
      refine st183 _ ?_
      show Steps p.tables e below (T183.setTop (mkF m 75 #[.val (.int p0), .val (.int p1), .val (.int p2), .val (.int p3), .val (.int p4), .val (.int p5), .val (.int v162), .val (.ref b164), .val (.int r175), .val (.int r180), .unset, .unset, .unset, .unset] [(.int (own_mod p5 v162))])) _
      exact kt
    obtain ⟨r185, hr185⟩ : ∃ z : Int32, z = (own_mod p5 v162) := ⟨_, rfl⟩
    rw [← hr185] at k184
    have k186 : ∀ tg_, Steps p.tables e below (T183.setTop (mkF m 75 #[.val (.int p0), .val (.int p1), .val (.int p2), .val (.int p3), .val (.int p4), .val (.int p5), .val (.int v162), .val (.ref b164), .val (.int r175), .val (.int r180), .unset, .unset, .unset, .unset] [(.int r185)])) tg_ → Steps p.tables e below (s₁.setTop (entryFrame m #[(.int p0), (.int p1), (.int p2), (.int p3), (.int p4), (.int p5)] maxLocals)) tg_ := by
      intro tg_ kt
      refine k184 tg_ ?_
      show Steps p.tables e below (T183.setTop (mkF m 75 #[.val (.int p0), .val (.int p1), .val (.int p2), .val (.int p3), .val (.int p4), .val (.int p5), .val (.int v162), .val (.ref b164), .val (.int r175), .val (.int r180), .unset, .unset, .unset, .unset] [(.int r185)])) _
      exact kt
    obtain ⟨k187, hk187, hl187⟩ : ∃ k : Nat, r185.toInt = (k : Int) ∧ k < n := by rw [hr185]; exact own_modk hnn hn1
    have f188 := (Nat.le_trans f169 oK170.1)
    obtain ⟨cq189, kq189, q189a, q189b, q189c⟩ := isOf hZ eq183 R170.exa
    obtain ⟨_, _, ⟨T189, L189, kc189, nc189⟩, -, X189, ⟨Lc189, hQ189, l189, y189, z189⟩, st189⟩ := X183.virtualBack hx (y := (⟨"com/example/tablewise/tablewise/propagation/WaitingRing", "add", "(I)V"⟩ : MethodName)) (z := (⟨"com/example/tablewise/tablewise/propagation/WaitingRing", "add", "(I)V"⟩ : MethodName)) hown (mvT hZ (hw _ (List.mem_of_getElem? (i := 20) rfl))) (mvT hZ (hw _ (List.mem_of_getElem? (i := 21) rfl))) (notFace_of_selects (args := #[]) (mvT hZ (hw _ (List.mem_of_getElem? (i := 23) rfl)))) (mvT hZ (hw _ (List.mem_of_getElem? (i := 23) rfl))) (mvT hZ (hw _ (List.mem_of_getElem? (i := 22) rfl))) (by decide) (backOf (W := 0) (rm4 l Z a0 hw [] b164 r175 ra170 wa170 v162 n ([] : List Int32) k177 T170.heap n0 f188 ge_b164 gra170 gwa170 R170 hk177 hl177) hZ (hw _ (List.mem_of_getElem? (i := 24) rfl)) (hw _ (List.mem_of_getElem? (i := 2) rfl)) (by decide) (by decide)) q189a q189c (g := (mkF m 81 #[.val (.int p0), .val (.int p1), .val (.int p2), .val (.int p3), .val (.int p4), .val (.int p5), .val (.int v162), .val (.ref b164), .val (.int r175), .val (.int r180), .val (.int r185), .unset, .unset, .unset] [(.int r175), (.ref b164)])) rfl (by rw [hml]; rfl) (Steps.refl _) (argsL := [(.int r175)]) (rest := []) (lenOf pd_0 rfl) rfl (by show 2 * 0 + _ ≤ _; exact Nat.le_of_eq rfl) (hb hby at_81) (fun _ _ => ⟨rfl, eq183, (by decide : 3 + 0 ≤ _), (by decide : 12 + 0 ≤ _)⟩)
    dsimp only [Pt.U, Pt.locs, Pt.cells, Pt.slots] at X189 l189 y189 z189 st189 hQ189
    subst l189 y189 z189
    obtain ⟨rfl, Nq189, oK189, m0_189⟩ := hQ189
    have N189 := Fr.app N183 Nq189
    have R189 := m0_189
    have f190 := (Nat.le_trans f188 oK189.1)
    obtain ⟨cq191, kq191, q191a, q191b, q191c⟩ := isOf hZ rfl R189.exa
    obtain ⟨_, _, ⟨T191, L191, kc191, nc191⟩, -, X191, ⟨Lc191, hQ191, l191, y191, z191⟩, st191⟩ := X189.virtualBack hx (y := (⟨"com/example/tablewise/tablewise/propagation/WaitingRing", "add", "(I)V"⟩ : MethodName)) (z := (⟨"com/example/tablewise/tablewise/propagation/WaitingRing", "add", "(I)V"⟩ : MethodName)) hown (mvT hZ (hw _ (List.mem_of_getElem? (i := 20) rfl))) (mvT hZ (hw _ (List.mem_of_getElem? (i := 21) rfl))) (notFace_of_selects (args := #[]) (mvT hZ (hw _ (List.mem_of_getElem? (i := 23) rfl)))) (mvT hZ (hw _ (List.mem_of_getElem? (i := 23) rfl))) (mvT hZ (hw _ (List.mem_of_getElem? (i := 22) rfl))) (by decide) (backOf (W := 0) (rm4 l Z a0 hw [] b164 r180 ra170 wa170 v162 n (own_add ([] : List Int32) r175) k182 T189.heap n0 f190 ge_b164 gra170 gwa170 R189 hk182 hl182) hZ (hw _ (List.mem_of_getElem? (i := 24) rfl)) (hw _ (List.mem_of_getElem? (i := 2) rfl)) (by decide) (by decide)) q191a q191c (g := (mkF m 88 #[.val (.int p0), .val (.int p1), .val (.int p2), .val (.int p3), .val (.int p4), .val (.int p5), .val (.int v162), .val (.ref b164), .val (.int r175), .val (.int r180), .val (.int r185), .unset, .unset, .unset] [(.int r180), (.ref b164)])) rfl (by rw [hml]; rfl) (Steps.refl _) (argsL := [(.int r180)]) (rest := []) (lenOf pd_0 rfl) rfl (by show 2 * 0 + _ ≤ _; exact Nat.le_of_eq rfl) (hb hby at_88) (fun _ _ => ⟨rfl, rfl, (by decide : 3 + 0 ≤ _), (by decide : 12 + 0 ≤ _)⟩)
    dsimp only [Pt.U, Pt.locs, Pt.cells, Pt.slots] at X191 l191 y191 z191 st191 hQ191
    subst l191 y191 z191
    obtain ⟨rfl, Nq191, oK191, m0_191⟩ := hQ191
    have N191 := Fr.app N189 Nq191
    have R191 := m0_191
    have f192 := (Nat.le_trans f190 oK191.1)
    obtain ⟨cq193, kq193, q193a, q193b, q193c⟩ := isOf hZ rfl R191.exa
    obtain ⟨_, _, ⟨T193, L193, kc193, nc193⟩, -, X193, ⟨Lc193, hQ193, l193, y193, z193⟩, st193⟩ := X191.virtualBack hx (y := (⟨"com/example/tablewise/tablewise/propagation/WaitingRing", "add", "(I)V"⟩ : MethodName)) (z := (⟨"com/example/tablewise/tablewise/propagation/WaitingRing", "add", "(I)V"⟩ : MethodName)) hown (mvT hZ (hw _ (List.mem_of_getElem? (i := 20) rfl))) (mvT hZ (hw _ (List.mem_of_getElem? (i := 21) rfl))) (notFace_of_selects (args := #[]) (mvT hZ (hw _ (List.mem_of_getElem? (i := 23) rfl)))) (mvT hZ (hw _ (List.mem_of_getElem? (i := 23) rfl))) (mvT hZ (hw _ (List.mem_of_getElem? (i := 22) rfl))) (by decide) (backOf (W := 0) (rm4 l Z a0 hw [] b164 r185 ra170 wa170 v162 n (own_add (own_add ([] : List Int32) r175) r180) k187 T191.heap n0 f192 ge_b164 gra170 gwa170 R191 hk187 hl187) hZ (hw _ (List.mem_of_getElem? (i := 24) rfl)) (hw _ (List.mem_of_getElem? (i := 2) rfl)) (by decide) (by decide)) q193a q193c (g := (mkF m 95 #[.val (.int p0), .val (.int p1), .val (.int p2), .val (.int p3), .val (.int p4), .val (.int p5), .val (.int v162), .val (.ref b164), .val (.int r175), .val (.int r180), .val (.int r185), .unset, .unset, .unset] [(.int r185), (.ref b164)])) rfl (by rw [hml]; rfl) (Steps.refl _) (argsL := [(.int r185)]) (rest := []) (lenOf pd_0 rfl) rfl (by show 2 * 0 + _ ≤ _; exact Nat.le_of_eq rfl) (hb hby at_95) (fun _ _ => ⟨rfl, rfl, (by decide : 3 + 0 ≤ _), (by decide : 12 + 0 ≤ _)⟩)
    dsimp only [Pt.U, Pt.locs, Pt.cells, Pt.slots] at X193 l193 y193 z193 st193 hQ193
    subst l193 y193 z193
    obtain ⟨rfl, Nq193, oK193, m0_193⟩ := hQ193
    have N193 := Fr.app N191 Nq193
    have R193 := m0_193
    have k194 : ∀ tg_, Steps p.tables e below (T193.setTop (mkF m 111 #[.val (.int p0), .val (.int p1), .val (.int p2), .val (.int p3), .val (.int p4), .val (.int p5), .val (.int v162), .val (.ref b164), .val (.int r175), .val (.int r180), .val (.int r185), .val (.int (1 : Int32)), .val (.int (0 : Int32)), .val (.int (0 : Int32))] [(.int r175), (.int r180)])) tg_ → Steps p.tables e below (s₁.setTop (entryFrame m #[(.int p0), (.int p1), (.int p2), (.int p3), (.int p4), (.int p5)] maxLocals)) tg_ := by
      intro tg_ kt
      refine k186 tg_ ?_
      refine XS.istore X183.here hx rfl (hb hby at_75) rfl (l' := #[.val (.int p0), .val (.int p1), .val (.int p2), .val (.int p3), .val (.int p4), .val (.int p5), .val (.int v162), .val (.ref b164), .val (.int r175), .val (.int r180), .val (.int r185), .unset, .unset, .unset]) rfl ?_
      show Steps p.tables e below (T183.setTop (mkF m 77 #[.val (.int p0), .val (.int p1), .val (.int p2), .val (.int p3), .val (.int p4), .val (.int p5), .val (.int v162), .val (.ref b164), .val (.int r175), .val (.int r180), .val (.int r185), .unset, .unset, .unset] [])) _
      refine XS.aload X183.here hx rfl (hb hby at_77) rfl rfl ?_
      show Steps p.tables e below (T183.setTop (mkF m 79 #[.val (.int p0), .val (.int p1), .val (.int p2), .val (.int p3), .val (.int p4), .val (.int p5), .val (.int v162), .val (.ref b164), .val (.int r175), .val (.int r180), .val (.int r185), .unset, .unset, .unset] [(.ref b164)])) _
      refine XS.iload X183.here hx rfl (hb hby at_79) rfl ?_
      show Steps p.tables e below (T183.setTop (mkF m 81 #[.val (.int p0), .val (.int p1), .val (.int p2), .val (.int p3), .val (.int p4), .val (.int p5), .val (.int v162), .val (.ref b164), .val (.int r175), .val (.int r180), .val (.int r185), .unset, .unset, .unset] [(.int r175), (.ref b164)])) _
      refine st189.trans ?_
      show Steps p.tables e below (T189.setTop (mkF m 84 #[.val (.int p0), .val (.int p1), .val (.int p2), .val (.int p3), .val (.int p4), .val (.int p5), .val (.int v162), .val (.ref b164), .val (.int r175), .val (.int r180), .val (.int r185), .unset, .unset, .unset] [])) _
      refine XS.aload X189.here hx rfl (hb hby at_84) rfl rfl ?_
      show Steps p.tables e below (T189.setTop (mkF m 86 #[.val (.int p0), .val (.int p1), .val (.int p2), .val (.int p3), .val (.int p4), .val (.int p5), .val (.int v162), .val (.ref b164), .val (.int r175), .val (.int r180), .val (.int r185), .unset, .unset, .unset] [(.ref b164)])) _
      refine XS.iload X189.here hx rfl (hb hby at_86) rfl ?_
      show Steps p.tables e below (T189.setTop (mkF m 88 #[.val (.int p0), .val (.int p1), .val (.int p2), .val (.int p3), .val (.int p4), .val (.int p5), .val (.int v162), .val (.ref b164), .val (.int r175), .val (.int r180), .val (.int r185), .unset, .unset, .unset] [(.int r180), (.ref b164)])) _
      refine st191.trans ?_
      show Steps p.tables e below (T191.setTop (mkF m 91 #[.val (.int p0), .val (.int p1), .val (.int p2), .val (.int p3), .val (.int p4), .val (.int p5), .val (.int v162), .val (.ref b164), .val (.int r175), .val (.int r180), .val (.int r185), .unset, .unset, .unset] [])) _
      refine XS.aload X191.here hx rfl (hb hby at_91) rfl rfl ?_
      show Steps p.tables e below (T191.setTop (mkF m 93 #[.val (.int p0), .val (.int p1), .val (.int p2), .val (.int p3), .val (.int p4), .val (.int p5), .val (.int v162), .val (.ref b164), .val (.int r175), .val (.int r180), .val (.int r185), .unset, .unset, .unset] [(.ref b164)])) _
      refine XS.iload X191.here hx rfl (hb hby at_93) rfl ?_
      show Steps p.tables e below (T191.setTop (mkF m 95 #[.val (.int p0), .val (.int p1), .val (.int p2), .val (.int p3), .val (.int p4), .val (.int p5), .val (.int v162), .val (.ref b164), .val (.int r175), .val (.int r180), .val (.int r185), .unset, .unset, .unset] [(.int r185), (.ref b164)])) _
      refine st193.trans ?_
      show Steps p.tables e below (T193.setTop (mkF m 98 #[.val (.int p0), .val (.int p1), .val (.int p2), .val (.int p3), .val (.int p4), .val (.int p5), .val (.int v162), .val (.ref b164), .val (.int r175), .val (.int r180), .val (.int r185), .unset, .unset, .unset] [])) _
      refine XS.iconst X193.here hx rfl (hb hby at_98) ?_
      show Steps p.tables e below (T193.setTop (mkF m 99 #[.val (.int p0), .val (.int p1), .val (.int p2), .val (.int p3), .val (.int p4), .val (.int p5), .val (.int v162), .val (.ref b164), .val (.int r175), .val (.int r180), .val (.int r185), .unset, .unset, .unset] [(.int (1 : Int32))])) _
      refine XS.istore X193.here hx rfl (hb hby at_99) rfl (l' := #[.val (.int p0), .val (.int p1), .val (.int p2), .val (.int p3), .val (.int p4), .val (.int p5), .val (.int v162), .val (.ref b164), .val (.int r175), .val (.int r180), .val (.int r185), .val (.int (1 : Int32)), .unset, .unset]) rfl ?_
      show Steps p.tables e below (T193.setTop (mkF m 101 #[.val (.int p0), .val (.int p1), .val (.int p2), .val (.int p3), .val (.int p4), .val (.int p5), .val (.int v162), .val (.ref b164), .val (.int r175), .val (.int r180), .val (.int r185), .val (.int (1 : Int32)), .unset, .unset] [])) _
      refine XS.iconst X193.here hx rfl (hb hby at_101) ?_
      show Steps p.tables e below (T193.setTop (mkF m 102 #[.val (.int p0), .val (.int p1), .val (.int p2), .val (.int p3), .val (.int p4), .val (.int p5), .val (.int v162), .val (.ref b164), .val (.int r175), .val (.int r180), .val (.int r185), .val (.int (1 : Int32)), .unset, .unset] [(.int (0 : Int32))])) _
      refine XS.istore X193.here hx rfl (hb hby at_102) rfl (l' := #[.val (.int p0), .val (.int p1), .val (.int p2), .val (.int p3), .val (.int p4), .val (.int p5), .val (.int v162), .val (.ref b164), .val (.int r175), .val (.int r180), .val (.int r185), .val (.int (1 : Int32)), .val (.int (0 : Int32)), .unset]) rfl ?_
      show Steps p.tables e below (T193.setTop (mkF m 104 #[.val (.int p0), .val (.int p1), .val (.int p2), .val (.int p3), .val (.int p4), .val (.int p5), .val (.int v162), .val (.ref b164), .val (.int r175), .val (.int r180), .val (.int r185), .val (.int (1 : Int32)), .val (.int (0 : Int32)), .unset] [])) _
      refine XS.iconst X193.here hx rfl (hb hby at_104) ?_
      show Steps p.tables e below (T193.setTop (mkF m 105 #[.val (.int p0), .val (.int p1), .val (.int p2), .val (.int p3), .val (.int p4), .val (.int p5), .val (.int v162), .val (.ref b164), .val (.int r175), .val (.int r180), .val (.int r185), .val (.int (1 : Int32)), .val (.int (0 : Int32)), .unset] [(.int (0 : Int32))])) _
      refine XS.istore X193.here hx rfl (hb hby at_105) rfl (l' := #[.val (.int p0), .val (.int p1), .val (.int p2), .val (.int p3), .val (.int p4), .val (.int p5), .val (.int v162), .val (.ref b164), .val (.int r175), .val (.int r180), .val (.int r185), .val (.int (1 : Int32)), .val (.int (0 : Int32)), .val (.int (0 : Int32))]) rfl ?_
      show Steps p.tables e below (T193.setTop (mkF m 107 #[.val (.int p0), .val (.int p1), .val (.int p2), .val (.int p3), .val (.int p4), .val (.int p5), .val (.int v162), .val (.ref b164), .val (.int r175), .val (.int r180), .val (.int r185), .val (.int (1 : Int32)), .val (.int (0 : Int32)), .val (.int (0 : Int32))] [])) _
      refine XS.iload X193.here hx rfl (hb hby at_107) rfl ?_
      show Steps p.tables e below (T193.setTop (mkF m 109 #[.val (.int p0), .val (.int p1), .val (.int p2), .val (.int p3), .val (.int p4), .val (.int p5), .val (.int v162), .val (.ref b164), .val (.int r175), .val (.int r180), .val (.int r185), .val (.int (1 : Int32)), .val (.int (0 : Int32)), .val (.int (0 : Int32))] [(.int r180)])) _
      refine XS.iload X193.here hx rfl (hb hby at_109) rfl ?_
      show Steps p.tables e below (T193.setTop (mkF m 111 #[.val (.int p0), .val (.int p1), .val (.int p2), .val (.int p3), .val (.int p4), .val (.int p5), .val (.int v162), .val (.ref b164), .val (.int r175), .val (.int r180), .val (.int r185), .val (.int (1 : Int32)), .val (.int (0 : Int32)), .val (.int (0 : Int32))] [(.int r175), (.int r180)])) _
      exact kt
    by_cases hc111_195 : r180 = r175
    · have k196 : ∀ tg_, Steps p.tables e below (T193.setTop (mkF m 125 #[.val (.int p0), .val (.int p1), .val (.int p2), .val (.int p3), .val (.int p4), .val (.int p5), .val (.int v162), .val (.ref b164), .val (.int r175), .val (.int r180), .val (.int r185), .val (.int (1 : Int32)), .val (.int (0 : Int32)), .val (.int (0 : Int32))] [(.int r175), (.int r185)])) tg_ → Steps p.tables e below (s₁.setTop (entryFrame m #[(.int p0), (.int p1), (.int p2), (.int p3), (.int p4), (.int p5)] maxLocals)) tg_ := by
        intro tg_ kt
        refine k194 tg_ ?_
        refine XS.icmpYes X193.here hx rfl (pc0 := 111) (pc' := 121) rfl (hb hby at_111) rfl (teq hc111_195).1 (by decide) (by decide) ?_
        show Steps p.tables e below (T193.setTop (mkF m 121 #[.val (.int p0), .val (.int p1), .val (.int p2), .val (.int p3), .val (.int p4), .val (.int p5), .val (.int v162), .val (.ref b164), .val (.int r175), .val (.int r180), .val (.int r185), .val (.int (1 : Int32)), .val (.int (0 : Int32)), .val (.int (0 : Int32))] [])) _
        refine XS.iload X193.here hx rfl (hb hby at_121) rfl ?_
        show Steps p.tables e below (T193.setTop (mkF m 123 #[.val (.int p0), .val (.int p1), .val (.int p2), .val (.int p3), .val (.int p4), .val (.int p5), .val (.int v162), .val (.ref b164), .val (.int r175), .val (.int r180), .val (.int r185), .val (.int (1 : Int32)), .val (.int (0 : Int32)), .val (.int (0 : Int32))] [(.int r185)])) _
        refine XS.iload X193.here hx rfl (hb hby at_123) rfl ?_
        show Steps p.tables e below (T193.setTop (mkF m 125 #[.val (.int p0), .val (.int p1), .val (.int p2), .val (.int p3), .val (.int p4), .val (.int p5), .val (.int v162), .val (.ref b164), .val (.int r175), .val (.int r180), .val (.int r185), .val (.int (1 : Int32)), .val (.int (0 : Int32)), .val (.int (0 : Int32))] [(.int r175), (.int r185)])) _
        exact kt
      by_cases hc125_197 : r185 = r175
      · have hq198 : (own_add (own_add (own_add ([] : List Int32) r175) r180) r185) = [r175] := by
          simp [own_add, hc111_195, hc125_197]
        have Rt199 : own_Ring Z T193.heap b164 ra170 wa170 v162 n (r175 :: ([] : List Int32)) := (by have q := R193; rw [hq198] at q; exact q)
        have f200 := (Nat.le_trans f192 oK193.1)
        obtain ⟨cq201, kq201, q201a, q201b, q201c⟩ := isOf hZ rfl R193.exa
        obtain ⟨_, _, ⟨T201, L201, kc201, nc201⟩, -, X201, ⟨Lc201, hQ201, l201, y201, z201⟩, st201⟩ := X193.virtualBack hx (y := (⟨"com/example/tablewise/tablewise/propagation/WaitingRing", "take", "()I"⟩ : MethodName)) (z := (⟨"com/example/tablewise/tablewise/propagation/WaitingRing", "take", "()I"⟩ : MethodName)) hown (mvT hZ (hw _ (List.mem_of_getElem? (i := 29) rfl))) (mvT hZ (hw _ (List.mem_of_getElem? (i := 30) rfl))) (notFace_of_selects (args := #[]) (mvT hZ (hw _ (List.mem_of_getElem? (i := 32) rfl)))) (mvT hZ (hw _ (List.mem_of_getElem? (i := 32) rfl))) (mvT hZ (hw _ (List.mem_of_getElem? (i := 31) rfl))) (by decide) (backOf (W := 0) (rm5 l Z a0 hw [] b164 ra170 wa170 v162 n r175 ([] : List Int32) T193.heap n0 f200 ge_b164 gra170 gwa170 Rt199) hZ (hw _ (List.mem_of_getElem? (i := 33) rfl)) (hw _ (List.mem_of_getElem? (i := 2) rfl)) (by decide) (by decide)) q201a q201c (g := (mkF m 160 #[.val (.int p0), .val (.int p1), .val (.int p2), .val (.int p3), .val (.int p4), .val (.int p5), .val (.int v162), .val (.ref b164), .val (.int r175), .val (.int r180), .val (.int r185), .val (.int (1 : Int32)), .val (.int (0 : Int32)), .val (.int (0 : Int32))] [(.ref b164)])) rfl (by rw [hml]; rfl) (Steps.refl _) (argsL := []) (rest := []) (lenOf pd_3 rfl) rfl (by show 2 * 0 + _ ≤ _; exact Nat.le_of_eq rfl) (hb hby at_160) (fun _ _ => ⟨rfl, rfl, (by decide : 3 + 0 ≤ _), (by decide : 12 + 0 ≤ _)⟩)
        dsimp only [Pt.U, Pt.locs, Pt.cells, Pt.slots] at X201 l201 y201 z201 st201 hQ201
        subst l201 y201 z201
        obtain ⟨rfl, Nq201, oK201, m0_201⟩ := hQ201
        have N201 := Fr.app N193 Nq201
        have R201 := m0_201
        have hc165_202 : r175 = r175 := rfl
        obtain ⟨cq203, kq203, q203a, q203b, q203c⟩ := isOf hZ rfl R201.exa
        obtain ⟨_, _, ⟨T203, L203, kc203, nc203⟩, -, X203, ⟨Lc203, hQ203, l203, y203, z203⟩, st203⟩ := X201.virtualBack hx (y := (⟨"com/example/tablewise/tablewise/propagation/WaitingRing", "isEmpty", "()Z"⟩ : MethodName)) (z := (⟨"com/example/tablewise/tablewise/propagation/WaitingRing", "isEmpty", "()Z"⟩ : MethodName)) hown (mvT hZ (hw _ (List.mem_of_getElem? (i := 34) rfl))) (mvT hZ (hw _ (List.mem_of_getElem? (i := 35) rfl))) (notFace_of_selects (args := #[]) (mvT hZ (hw _ (List.mem_of_getElem? (i := 37) rfl)))) (mvT hZ (hw _ (List.mem_of_getElem? (i := 37) rfl))) (mvT hZ (hw _ (List.mem_of_getElem? (i := 36) rfl))) (by decide) (backOf (W := 0) (rm6 l Z a0 hw [] b164 ra170 wa170 v162 n ([] : List Int32) T201.heap n0 R201) hZ (hw _ (List.mem_of_getElem? (i := 38) rfl)) (hw _ (List.mem_of_getElem? (i := 2) rfl)) (by decide) (by decide)) q203a q203c (g := (mkF m 208 #[.val (.int p0), .val (.int p1), .val (.int p2), .val (.int p3), .val (.int p4), .val (.int p5), .val (.int v162), .val (.ref b164), .val (.int r175), .val (.int r180), .val (.int r185), .val (.int (1 : Int32)), .val (.int (0 : Int32)), .val (.int (0 : Int32))] [(.ref b164)])) rfl (by rw [hml]; rfl) (Steps.refl _) (argsL := []) (rest := []) (lenOf pd_4 rfl) rfl (by show 2 * 0 + _ ≤ _; exact Nat.le_of_eq rfl) (hb hby at_208) (fun _ _ => ⟨rfl, rfl, (by decide : 3 + 0 ≤ _), (by decide : 12 + 0 ≤ _)⟩)
        dsimp only [Pt.U, Pt.locs, Pt.cells, Pt.slots] at X203 l203 y203 z203 st203 hQ203
        subst l203 y203 z203
        obtain ⟨rfl, Nq203, eq203⟩ := hQ203
        have N203 := Fr.app N201 Nq203
        have k204 : ∀ tg_, Steps p.tables e below (T203.setTop (mkF m 211 #[.val (.int p0), .val (.int p1), .val (.int p2), .val (.int p3), .val (.int p4), .val (.int p5), .val (.int v162), .val (.ref b164), .val (.int r175), .val (.int r180), .val (.int r185), .val (.int (1 : Int32)), .val (.int (0 : Int32)), .val (.int (0 : Int32))] [(.int (if ([] : List Int32).length = 0 then (1 : Int32) else (0 : Int32)))])) tg_ → Steps p.tables e below (s₁.setTop (entryFrame m #[(.int p0), (.int p1), (.int p2), (.int p3), (.int p4), (.int p5)] maxLocals)) tg_ := by
          intro tg_ kt
          refine k196 tg_ ?_
          refine XS.icmpYes X193.here hx rfl (pc0 := 125) (pc' := 158) rfl (hb hby at_125) rfl (teq hc125_197).1 (by decide) (by decide) ?_
          show Steps p.tables e below (T193.setTop (mkF m 158 #[.val (.int p0), .val (.int p1), .val (.int p2), .val (.int p3), .val (.int p4), .val (.int p5), .val (.int v162), .val (.ref b164), .val (.int r175), .val (.int r180), .val (.int r185), .val (.int (1 : Int32)), .val (.int (0 : Int32)), .val (.int (0 : Int32))] [])) _
          refine XS.aload X193.here hx rfl (hb hby at_158) rfl rfl ?_
          show Steps p.tables e below (T193.setTop (mkF m 160 #[.val (.int p0), .val (.int p1), .val (.int p2), .val (.int p3), .val (.int p4), .val (.int p5), .val (.int v162), .val (.ref b164), .val (.int r175), .val (.int r180), .val (.int r185), .val (.int (1 : Int32)), .val (.int (0 : Int32)), .val (.int (0 : Int32))] [(.ref b164)])) _
          refine st201.trans ?_
          show Steps p.tables e below (T201.setTop (mkF m 163 #[.val (.int p0), .val (.int p1), .val (.int p2), .val (.int p3), .val (.int p4), .val (.int p5), .val (.int v162), .val (.ref b164), .val (.int r175), .val (.int r180), .val (.int r185), .val (.int (1 : Int32)), .val (.int (0 : Int32)), .val (.int (0 : Int32))] [(.int r175)])) _
          refine XS.iload X201.here hx rfl (hb hby at_163) rfl ?_
          show Steps p.tables e below (T201.setTop (mkF m 165 #[.val (.int p0), .val (.int p1), .val (.int p2), .val (.int p3), .val (.int p4), .val (.int p5), .val (.int v162), .val (.ref b164), .val (.int r175), .val (.int r180), .val (.int r185), .val (.int (1 : Int32)), .val (.int (0 : Int32)), .val (.int (0 : Int32))] [(.int r175), (.int r175)])) _
          refine XS.icmpYes X201.here hx rfl (pc0 := 165) (pc' := 170) rfl (hb hby at_165) rfl (teq hc165_202).1 (by decide) (by decide) ?_
          show Steps p.tables e below (T201.setTop (mkF m 170 #[.val (.int p0), .val (.int p1), .val (.int p2), .val (.int p3), .val (.int p4), .val (.int p5), .val (.int v162), .val (.ref b164), .val (.int r175), .val (.int r180), .val (.int r185), .val (.int (1 : Int32)), .val (.int (0 : Int32)), .val (.int (0 : Int32))] [])) _
          refine XS.iload X201.here hx rfl (hb hby at_170) rfl ?_
          show Steps p.tables e below (T201.setTop (mkF m 172 #[.val (.int p0), .val (.int p1), .val (.int p2), .val (.int p3), .val (.int p4), .val (.int p5), .val (.int v162), .val (.ref b164), .val (.int r175), .val (.int r180), .val (.int r185), .val (.int (1 : Int32)), .val (.int (0 : Int32)), .val (.int (0 : Int32))] [(.int (1 : Int32))])) _
          refine XS.iconst X201.here hx rfl (hb hby at_172) ?_
          show Steps p.tables e below (T201.setTop (mkF m 173 #[.val (.int p0), .val (.int p1), .val (.int p2), .val (.int p3), .val (.int p4), .val (.int p5), .val (.int v162), .val (.ref b164), .val (.int r175), .val (.int r180), .val (.int r185), .val (.int (1 : Int32)), .val (.int (0 : Int32)), .val (.int (0 : Int32))] [(.int (2 : Int32)), (.int (1 : Int32))])) _
          refine XS.icmpYes X201.here hx rfl (pc0 := 173) (pc' := 188) rfl (hb hby at_173) rfl (tlt (by decide : (1 : Int32) < (2 : Int32))).1 (by decide) (by decide) ?_
          show Steps p.tables e below (T201.setTop (mkF m 188 #[.val (.int p0), .val (.int p1), .val (.int p2), .val (.int p3), .val (.int p4), .val (.int p5), .val (.int v162), .val (.ref b164), .val (.int r175), .val (.int r180), .val (.int r185), .val (.int (1 : Int32)), .val (.int (0 : Int32)), .val (.int (0 : Int32))] [])) _
          refine XS.iload X201.here hx rfl (hb hby at_188) rfl ?_
          show Steps p.tables e below (T201.setTop (mkF m 190 #[.val (.int p0), .val (.int p1), .val (.int p2), .val (.int p3), .val (.int p4), .val (.int p5), .val (.int v162), .val (.ref b164), .val (.int r175), .val (.int r180), .val (.int r185), .val (.int (1 : Int32)), .val (.int (0 : Int32)), .val (.int (0 : Int32))] [(.int (1 : Int32))])) _
          refine XS.iconst X201.here hx rfl (hb hby at_190) ?_
          show Steps p.tables e below (T201.setTop (mkF m 191 #[.val (.int p0), .val (.int p1), .val (.int p2), .val (.int p3), .val (.int p4), .val (.int p5), .val (.int v162), .val (.ref b164), .val (.int r175), .val (.int r180), .val (.int r185), .val (.int (1 : Int32)), .val (.int (0 : Int32)), .val (.int (0 : Int32))] [(.int (3 : Int32)), (.int (1 : Int32))])) _
          refine XS.icmpYes X201.here hx rfl (pc0 := 191) (pc' := 206) rfl (hb hby at_191) rfl (tlt (by decide : (1 : Int32) < (3 : Int32))).1 (by decide) (by decide) ?_
          show Steps p.tables e below (T201.setTop (mkF m 206 #[.val (.int p0), .val (.int p1), .val (.int p2), .val (.int p3), .val (.int p4), .val (.int p5), .val (.int v162), .val (.ref b164), .val (.int r175), .val (.int r180), .val (.int r185), .val (.int (1 : Int32)), .val (.int (0 : Int32)), .val (.int (0 : Int32))] [])) _
          refine XS.aload X201.here hx rfl (hb hby at_206) rfl rfl ?_
          show Steps p.tables e below (T201.setTop (mkF m 208 #[.val (.int p0), .val (.int p1), .val (.int p2), .val (.int p3), .val (.int p4), .val (.int p5), .val (.int v162), .val (.ref b164), .val (.int r175), .val (.int r180), .val (.int r185), .val (.int (1 : Int32)), .val (.int (0 : Int32)), .val (.int (0 : Int32))] [(.ref b164)])) _
          refine st203.trans ?_
          show Steps p.tables e below (T203.setTop (mkF m 211 #[.val (.int p0), .val (.int p1), .val (.int p2), .val (.int p3), .val (.int p4), .val (.int p5), .val (.int v162), .val (.ref b164), .val (.int r175), .val (.int r180), .val (.int r185), .val (.int (1 : Int32)), .val (.int (0 : Int32)), .val (.int (0 : Int32))] [(.int (if ([] : List Int32).length = 0 then (1 : Int32) else (0 : Int32)))])) _
          exact kt
        obtain ⟨fs, hr, hrun, hended, hW, hsame⟩ := X203.leave (v := some (.int (nar .boolean (if ([] : List Int32).length = 0 then (1 : Int32) else (0 : Int32))))) (fun h => by rw [Bd.returns] at h; cases h)
        refine ⟨_, _, k204 _ (retN X203 hx (t := .boolean) Bd.returns (by simp) (hb hby at_211) hr), hrun, hended, _, _, rfl, ?_, ⟨_, rfl⟩, hW, hsame.mono (by decide) (by decide)⟩
        show Q0 Z p0 p1 p2 p3 p4 p5 h0 n0 _ T203.heap _
        rw [eq203]
        exact ⟨rfl, N203⟩
      · have hc132_205 : ¬ (r185 = r180) := (fun q => hc125_197 (q.trans hc111_195))
        have hq206 : (own_add (own_add (own_add ([] : List Int32) r175) r180) r185) = [r175, r185] := by
          simp [own_add, hc111_195, hc125_197, hc132_205]
        have Rt207 : own_Ring Z T193.heap b164 ra170 wa170 v162 n (r175 :: [r185]) := (by have q := R193; rw [hq206] at q; exact q)
        have f208 := (Nat.le_trans f192 oK193.1)
        obtain ⟨cq209, kq209, q209a, q209b, q209c⟩ := isOf hZ rfl R193.exa
        obtain ⟨_, _, ⟨T209, L209, kc209, nc209⟩, -, X209, ⟨Lc209, hQ209, l209, y209, z209⟩, st209⟩ := X193.virtualBack hx (y := (⟨"com/example/tablewise/tablewise/propagation/WaitingRing", "take", "()I"⟩ : MethodName)) (z := (⟨"com/example/tablewise/tablewise/propagation/WaitingRing", "take", "()I"⟩ : MethodName)) hown (mvT hZ (hw _ (List.mem_of_getElem? (i := 29) rfl))) (mvT hZ (hw _ (List.mem_of_getElem? (i := 30) rfl))) (notFace_of_selects (args := #[]) (mvT hZ (hw _ (List.mem_of_getElem? (i := 32) rfl)))) (mvT hZ (hw _ (List.mem_of_getElem? (i := 32) rfl))) (mvT hZ (hw _ (List.mem_of_getElem? (i := 31) rfl))) (by decide) (backOf (W := 0) (rm5 l Z a0 hw [] b164 ra170 wa170 v162 n r175 ([r185]) T193.heap n0 f208 ge_b164 gra170 gwa170 Rt207) hZ (hw _ (List.mem_of_getElem? (i := 33) rfl)) (hw _ (List.mem_of_getElem? (i := 2) rfl)) (by decide) (by decide)) q209a q209c (g := (mkF m 160 #[.val (.int p0), .val (.int p1), .val (.int p2), .val (.int p3), .val (.int p4), .val (.int p5), .val (.int v162), .val (.ref b164), .val (.int r175), .val (.int r180), .val (.int r185), .val (.int (2 : Int32)), .val (.int r185), .val (.int (0 : Int32))] [(.ref b164)])) rfl (by rw [hml]; rfl) (Steps.refl _) (argsL := []) (rest := []) (lenOf pd_3 rfl) rfl (by show 2 * 0 + _ ≤ _; exact Nat.le_of_eq rfl) (hb hby at_160) (fun _ _ => ⟨rfl, rfl, (by decide : 3 + 0 ≤ _), (by decide : 12 + 0 ≤ _)⟩)
        dsimp only [Pt.U, Pt.locs, Pt.cells, Pt.slots] at X209 l209 y209 z209 st209 hQ209
        subst l209 y209 z209
        obtain ⟨rfl, Nq209, oK209, m0_209⟩ := hQ209
        have N209 := Fr.app N193 Nq209
        have R209 := m0_209
        have hc165_210 : r175 = r175 := rfl
        have Rt211 : own_Ring Z T209.heap b164 ra170 wa170 v162 n (r185 :: ([] : List Int32)) := (by have q := R209; rw [show [r185] = [r185] from rfl] at q; exact q)
        have f212 := (Nat.le_trans f208 oK209.1)
        obtain ⟨cq213, kq213, q213a, q213b, q213c⟩ := isOf hZ rfl R209.exa
        obtain ⟨_, _, ⟨T213, L213, kc213, nc213⟩, -, X213, ⟨Lc213, hQ213, l213, y213, z213⟩, st213⟩ := X209.virtualBack hx (y := (⟨"com/example/tablewise/tablewise/propagation/WaitingRing", "take", "()I"⟩ : MethodName)) (z := (⟨"com/example/tablewise/tablewise/propagation/WaitingRing", "take", "()I"⟩ : MethodName)) hown (mvT hZ (hw _ (List.mem_of_getElem? (i := 29) rfl))) (mvT hZ (hw _ (List.mem_of_getElem? (i := 30) rfl))) (notFace_of_selects (args := #[]) (mvT hZ (hw _ (List.mem_of_getElem? (i := 32) rfl)))) (mvT hZ (hw _ (List.mem_of_getElem? (i := 32) rfl))) (mvT hZ (hw _ (List.mem_of_getElem? (i := 31) rfl))) (by decide) (backOf (W := 0) (rm5 l Z a0 hw [] b164 ra170 wa170 v162 n r185 ([] : List Int32) T209.heap n0 f212 ge_b164 gra170 gwa170 Rt211) hZ (hw _ (List.mem_of_getElem? (i := 33) rfl)) (hw _ (List.mem_of_getElem? (i := 2) rfl)) (by decide) (by decide)) q213a q213c (g := (mkF m 178 #[.val (.int p0), .val (.int p1), .val (.int p2), .val (.int p3), .val (.int p4), .val (.int p5), .val (.int v162), .val (.ref b164), .val (.int r175), .val (.int r180), .val (.int r185), .val (.int (2 : Int32)), .val (.int r185), .val (.int (0 : Int32))] [(.ref b164)])) rfl (by rw [hml]; rfl) (Steps.refl _) (argsL := []) (rest := []) (lenOf pd_3 rfl) rfl (by show 2 * 0 + _ ≤ _; exact Nat.le_of_eq rfl) (hb hby at_178) (fun _ _ => ⟨rfl, rfl, (by decide : 3 + 0 ≤ _), (by decide : 12 + 0 ≤ _)⟩)
        dsimp only [Pt.U, Pt.locs, Pt.cells, Pt.slots] at X213 l213 y213 z213 st213 hQ213
        subst l213 y213 z213
        obtain ⟨rfl, Nq213, oK213, m0_213⟩ := hQ213
        have N213 := Fr.app N209 Nq213
        have R213 := m0_213
        have hc183_214 : r185 = r185 := rfl
        obtain ⟨cq215, kq215, q215a, q215b, q215c⟩ := isOf hZ rfl R213.exa
        obtain ⟨_, _, ⟨T215, L215, kc215, nc215⟩, -, X215, ⟨Lc215, hQ215, l215, y215, z215⟩, st215⟩ := X213.virtualBack hx (y := (⟨"com/example/tablewise/tablewise/propagation/WaitingRing", "isEmpty", "()Z"⟩ : MethodName)) (z := (⟨"com/example/tablewise/tablewise/propagation/WaitingRing", "isEmpty", "()Z"⟩ : MethodName)) hown (mvT hZ (hw _ (List.mem_of_getElem? (i := 34) rfl))) (mvT hZ (hw _ (List.mem_of_getElem? (i := 35) rfl))) (notFace_of_selects (args := #[]) (mvT hZ (hw _ (List.mem_of_getElem? (i := 37) rfl)))) (mvT hZ (hw _ (List.mem_of_getElem? (i := 37) rfl))) (mvT hZ (hw _ (List.mem_of_getElem? (i := 36) rfl))) (by decide) (backOf (W := 0) (rm6 l Z a0 hw [] b164 ra170 wa170 v162 n ([] : List Int32) T213.heap n0 R213) hZ (hw _ (List.mem_of_getElem? (i := 38) rfl)) (hw _ (List.mem_of_getElem? (i := 2) rfl)) (by decide) (by decide)) q215a q215c (g := (mkF m 208 #[.val (.int p0), .val (.int p1), .val (.int p2), .val (.int p3), .val (.int p4), .val (.int p5), .val (.int v162), .val (.ref b164), .val (.int r175), .val (.int r180), .val (.int r185), .val (.int (2 : Int32)), .val (.int r185), .val (.int (0 : Int32))] [(.ref b164)])) rfl (by rw [hml]; rfl) (Steps.refl _) (argsL := []) (rest := []) (lenOf pd_4 rfl) rfl (by show 2 * 0 + _ ≤ _; exact Nat.le_of_eq rfl) (hb hby at_208) (fun _ _ => ⟨rfl, rfl, (by decide : 3 + 0 ≤ _), (by decide : 12 + 0 ≤ _)⟩)
        dsimp only [Pt.U, Pt.locs, Pt.cells, Pt.slots] at X215 l215 y215 z215 st215 hQ215
        subst l215 y215 z215
        obtain ⟨rfl, Nq215, eq215⟩ := hQ215
        have N215 := Fr.app N213 Nq215
        have k216 : ∀ tg_, Steps p.tables e below (T215.setTop (mkF m 211 #[.val (.int p0), .val (.int p1), .val (.int p2), .val (.int p3), .val (.int p4), .val (.int p5), .val (.int v162), .val (.ref b164), .val (.int r175), .val (.int r180), .val (.int r185), .val (.int (2 : Int32)), .val (.int r185), .val (.int (0 : Int32))] [(.int (if ([] : List Int32).length = 0 then (1 : Int32) else (0 : Int32)))])) tg_ → Steps p.tables e below (s₁.setTop (entryFrame m #[(.int p0), (.int p1), (.int p2), (.int p3), (.int p4), (.int p5)] maxLocals)) tg_ := by
          intro tg_ kt
          refine k196 tg_ ?_
          refine XS.icmpNo X193.here hx rfl (hb hby at_125) rfl (feq hc125_197).1 ?_
          show Steps p.tables e below (T193.setTop (mkF m 128 #[.val (.int p0), .val (.int p1), .val (.int p2), .val (.int p3), .val (.int p4), .val (.int p5), .val (.int v162), .val (.ref b164), .val (.int r175), .val (.int r180), .val (.int r185), .val (.int (1 : Int32)), .val (.int (0 : Int32)), .val (.int (0 : Int32))] [])) _
          refine XS.iload X193.here hx rfl (hb hby at_128) rfl ?_
          show Steps p.tables e below (T193.setTop (mkF m 130 #[.val (.int p0), .val (.int p1), .val (.int p2), .val (.int p3), .val (.int p4), .val (.int p5), .val (.int v162), .val (.ref b164), .val (.int r175), .val (.int r180), .val (.int r185), .val (.int (1 : Int32)), .val (.int (0 : Int32)), .val (.int (0 : Int32))] [(.int r185)])) _
          refine XS.iload X193.here hx rfl (hb hby at_130) rfl ?_
          show Steps p.tables e below (T193.setTop (mkF m 132 #[.val (.int p0), .val (.int p1), .val (.int p2), .val (.int p3), .val (.int p4), .val (.int p5), .val (.int v162), .val (.ref b164), .val (.int r175), .val (.int r180), .val (.int r185), .val (.int (1 : Int32)), .val (.int (0 : Int32)), .val (.int (0 : Int32))] [(.int r180), (.int r185)])) _
          refine XS.icmpNo X193.here hx rfl (hb hby at_132) rfl (feq hc132_205).1 ?_
          show Steps p.tables e below (T193.setTop (mkF m 135 #[.val (.int p0), .val (.int p1), .val (.int p2), .val (.int p3), .val (.int p4), .val (.int p5), .val (.int v162), .val (.ref b164), .val (.int r175), .val (.int r180), .val (.int r185), .val (.int (1 : Int32)), .val (.int (0 : Int32)), .val (.int (0 : Int32))] [])) _
          refine XS.iload X193.here hx rfl (hb hby at_135) rfl ?_
          show Steps p.tables e below (T193.setTop (mkF m 137 #[.val (.int p0), .val (.int p1), .val (.int p2), .val (.int p3), .val (.int p4), .val (.int p5), .val (.int v162), .val (.ref b164), .val (.int r175), .val (.int r180), .val (.int r185), .val (.int (1 : Int32)), .val (.int (0 : Int32)), .val (.int (0 : Int32))] [(.int (1 : Int32))])) _
          refine XS.iconst X193.here hx rfl (hb hby at_137) ?_
          show Steps p.tables e below (T193.setTop (mkF m 138 #[.val (.int p0), .val (.int p1), .val (.int p2), .val (.int p3), .val (.int p4), .val (.int p5), .val (.int v162), .val (.ref b164), .val (.int r175), .val (.int r180), .val (.int r185), .val (.int (1 : Int32)), .val (.int (0 : Int32)), .val (.int (0 : Int32))] [(.int (1 : Int32)), (.int (1 : Int32))])) _
          refine XS.icmpNo X193.here hx rfl (hb hby at_138) rfl (teq (by decide : (1 : Int32) = (1 : Int32))).2 ?_
          show Steps p.tables e below (T193.setTop (mkF m 141 #[.val (.int p0), .val (.int p1), .val (.int p2), .val (.int p3), .val (.int p4), .val (.int p5), .val (.int v162), .val (.ref b164), .val (.int r175), .val (.int r180), .val (.int r185), .val (.int (1 : Int32)), .val (.int (0 : Int32)), .val (.int (0 : Int32))] [])) _
          refine XS.iload X193.here hx rfl (hb hby at_141) rfl ?_
          show Steps p.tables e below (T193.setTop (mkF m 143 #[.val (.int p0), .val (.int p1), .val (.int p2), .val (.int p3), .val (.int p4), .val (.int p5), .val (.int v162), .val (.ref b164), .val (.int r175), .val (.int r180), .val (.int r185), .val (.int (1 : Int32)), .val (.int (0 : Int32)), .val (.int (0 : Int32))] [(.int r185)])) _
          refine XS.istore X193.here hx rfl (hb hby at_143) rfl (l' := #[.val (.int p0), .val (.int p1), .val (.int p2), .val (.int p3), .val (.int p4), .val (.int p5), .val (.int v162), .val (.ref b164), .val (.int r175), .val (.int r180), .val (.int r185), .val (.int (1 : Int32)), .val (.int r185), .val (.int (0 : Int32))]) rfl ?_
          show Steps p.tables e below (T193.setTop (mkF m 145 #[.val (.int p0), .val (.int p1), .val (.int p2), .val (.int p3), .val (.int p4), .val (.int p5), .val (.int v162), .val (.ref b164), .val (.int r175), .val (.int r180), .val (.int r185), .val (.int (1 : Int32)), .val (.int r185), .val (.int (0 : Int32))] [])) _
          refine XS.goto X193.here hx rfl (pc0 := 145) (pc' := 152) rfl (hb hby at_145) (by decide) (by decide) ?_
          show Steps p.tables e below (T193.setTop (mkF m 152 #[.val (.int p0), .val (.int p1), .val (.int p2), .val (.int p3), .val (.int p4), .val (.int p5), .val (.int v162), .val (.ref b164), .val (.int r175), .val (.int r180), .val (.int r185), .val (.int (1 : Int32)), .val (.int r185), .val (.int (0 : Int32))] [])) _
          refine XS.iload X193.here hx rfl (hb hby at_152) rfl ?_
          show Steps p.tables e below (T193.setTop (mkF m 154 #[.val (.int p0), .val (.int p1), .val (.int p2), .val (.int p3), .val (.int p4), .val (.int p5), .val (.int v162), .val (.ref b164), .val (.int r175), .val (.int r180), .val (.int r185), .val (.int (1 : Int32)), .val (.int r185), .val (.int (0 : Int32))] [(.int (1 : Int32))])) _
          refine XS.iconst X193.here hx rfl (hb hby at_154) ?_
          show Steps p.tables e below (T193.setTop (mkF m 155 #[.val (.int p0), .val (.int p1), .val (.int p2), .val (.int p3), .val (.int p4), .val (.int p5), .val (.int v162), .val (.ref b164), .val (.int r175), .val (.int r180), .val (.int r185), .val (.int (1 : Int32)), .val (.int r185), .val (.int (0 : Int32))] [(.int (1 : Int32)), (.int (1 : Int32))])) _
          refine XS.iadd X193.here hx rfl (hb hby at_155) rfl ?_
          show Steps p.tables e below (T193.setTop (mkF m 156 #[.val (.int p0), .val (.int p1), .val (.int p2), .val (.int p3), .val (.int p4), .val (.int p5), .val (.int v162), .val (.ref b164), .val (.int r175), .val (.int r180), .val (.int r185), .val (.int (1 : Int32)), .val (.int r185), .val (.int (0 : Int32))] [(.int (2 : Int32))])) _
          refine XS.istore X193.here hx rfl (hb hby at_156) rfl (l' := #[.val (.int p0), .val (.int p1), .val (.int p2), .val (.int p3), .val (.int p4), .val (.int p5), .val (.int v162), .val (.ref b164), .val (.int r175), .val (.int r180), .val (.int r185), .val (.int (2 : Int32)), .val (.int r185), .val (.int (0 : Int32))]) rfl ?_
          show Steps p.tables e below (T193.setTop (mkF m 158 #[.val (.int p0), .val (.int p1), .val (.int p2), .val (.int p3), .val (.int p4), .val (.int p5), .val (.int v162), .val (.ref b164), .val (.int r175), .val (.int r180), .val (.int r185), .val (.int (2 : Int32)), .val (.int r185), .val (.int (0 : Int32))] [])) _
          refine XS.aload X193.here hx rfl (hb hby at_158) rfl rfl ?_
          show Steps p.tables e below (T193.setTop (mkF m 160 #[.val (.int p0), .val (.int p1), .val (.int p2), .val (.int p3), .val (.int p4), .val (.int p5), .val (.int v162), .val (.ref b164), .val (.int r175), .val (.int r180), .val (.int r185), .val (.int (2 : Int32)), .val (.int r185), .val (.int (0 : Int32))] [(.ref b164)])) _
          refine st209.trans ?_
          show Steps p.tables e below (T209.setTop (mkF m 163 #[.val (.int p0), .val (.int p1), .val (.int p2), .val (.int p3), .val (.int p4), .val (.int p5), .val (.int v162), .val (.ref b164), .val (.int r175), .val (.int r180), .val (.int r185), .val (.int (2 : Int32)), .val (.int r185), .val (.int (0 : Int32))] [(.int r175)])) _
          refine XS.iload X209.here hx rfl (hb hby at_163) rfl ?_
          show Steps p.tables e below (T209.setTop (mkF m 165 #[.val (.int p0), .val (.int p1), .val (.int p2), .val (.int p3), .val (.int p4), .val (.int p5), .val (.int v162), .val (.ref b164), .val (.int r175), .val (.int r180), .val (.int r185), .val (.int (2 : Int32)), .val (.int r185), .val (.int (0 : Int32))] [(.int r175), (.int r175)])) _
          refine XS.icmpYes X209.here hx rfl (pc0 := 165) (pc' := 170) rfl (hb hby at_165) rfl (teq hc165_210).1 (by decide) (by decide) ?_
          show Steps p.tables e below (T209.setTop (mkF m 170 #[.val (.int p0), .val (.int p1), .val (.int p2), .val (.int p3), .val (.int p4), .val (.int p5), .val (.int v162), .val (.ref b164), .val (.int r175), .val (.int r180), .val (.int r185), .val (.int (2 : Int32)), .val (.int r185), .val (.int (0 : Int32))] [])) _
          refine XS.iload X209.here hx rfl (hb hby at_170) rfl ?_
          show Steps p.tables e below (T209.setTop (mkF m 172 #[.val (.int p0), .val (.int p1), .val (.int p2), .val (.int p3), .val (.int p4), .val (.int p5), .val (.int v162), .val (.ref b164), .val (.int r175), .val (.int r180), .val (.int r185), .val (.int (2 : Int32)), .val (.int r185), .val (.int (0 : Int32))] [(.int (2 : Int32))])) _
          refine XS.iconst X209.here hx rfl (hb hby at_172) ?_
          show Steps p.tables e below (T209.setTop (mkF m 173 #[.val (.int p0), .val (.int p1), .val (.int p2), .val (.int p3), .val (.int p4), .val (.int p5), .val (.int v162), .val (.ref b164), .val (.int r175), .val (.int r180), .val (.int r185), .val (.int (2 : Int32)), .val (.int r185), .val (.int (0 : Int32))] [(.int (2 : Int32)), (.int (2 : Int32))])) _
          refine XS.icmpNo X209.here hx rfl (hb hby at_173) rfl (flt (by decide : ¬ ((2 : Int32) < (2 : Int32)))).1 ?_
          show Steps p.tables e below (T209.setTop (mkF m 176 #[.val (.int p0), .val (.int p1), .val (.int p2), .val (.int p3), .val (.int p4), .val (.int p5), .val (.int v162), .val (.ref b164), .val (.int r175), .val (.int r180), .val (.int r185), .val (.int (2 : Int32)), .val (.int r185), .val (.int (0 : Int32))] [])) _
          refine XS.aload X209.here hx rfl (hb hby at_176) rfl rfl ?_
          show Steps p.tables e below (T209.setTop (mkF m 178 #[.val (.int p0), .val (.int p1), .val (.int p2), .val (.int p3), .val (.int p4), .val (.int p5), .val (.int v162), .val (.ref b164), .val (.int r175), .val (.int r180), .val (.int r185), .val (.int (2 : Int32)), .val (.int r185), .val (.int (0 : Int32))] [(.ref b164)])) _
          refine st213.trans ?_
          show Steps p.tables e below (T213.setTop (mkF m 181 #[.val (.int p0), .val (.int p1), .val (.int p2), .val (.int p3), .val (.int p4), .val (.int p5), .val (.int v162), .val (.ref b164), .val (.int r175), .val (.int r180), .val (.int r185), .val (.int (2 : Int32)), .val (.int r185), .val (.int (0 : Int32))] [(.int r185)])) _
          refine XS.iload X213.here hx rfl (hb hby at_181) rfl ?_
          show Steps p.tables e below (T213.setTop (mkF m 183 #[.val (.int p0), .val (.int p1), .val (.int p2), .val (.int p3), .val (.int p4), .val (.int p5), .val (.int v162), .val (.ref b164), .val (.int r175), .val (.int r180), .val (.int r185), .val (.int (2 : Int32)), .val (.int r185), .val (.int (0 : Int32))] [(.int r185), (.int r185)])) _
          refine XS.icmpYes X213.here hx rfl (pc0 := 183) (pc' := 188) rfl (hb hby at_183) rfl (teq hc183_214).1 (by decide) (by decide) ?_
          show Steps p.tables e below (T213.setTop (mkF m 188 #[.val (.int p0), .val (.int p1), .val (.int p2), .val (.int p3), .val (.int p4), .val (.int p5), .val (.int v162), .val (.ref b164), .val (.int r175), .val (.int r180), .val (.int r185), .val (.int (2 : Int32)), .val (.int r185), .val (.int (0 : Int32))] [])) _
          refine XS.iload X213.here hx rfl (hb hby at_188) rfl ?_
          show Steps p.tables e below (T213.setTop (mkF m 190 #[.val (.int p0), .val (.int p1), .val (.int p2), .val (.int p3), .val (.int p4), .val (.int p5), .val (.int v162), .val (.ref b164), .val (.int r175), .val (.int r180), .val (.int r185), .val (.int (2 : Int32)), .val (.int r185), .val (.int (0 : Int32))] [(.int (2 : Int32))])) _
          refine XS.iconst X213.here hx rfl (hb hby at_190) ?_
          show Steps p.tables e below (T213.setTop (mkF m 191 #[.val (.int p0), .val (.int p1), .val (.int p2), .val (.int p3), .val (.int p4), .val (.int p5), .val (.int v162), .val (.ref b164), .val (.int r175), .val (.int r180), .val (.int r185), .val (.int (2 : Int32)), .val (.int r185), .val (.int (0 : Int32))] [(.int (3 : Int32)), (.int (2 : Int32))])) _
          refine XS.icmpYes X213.here hx rfl (pc0 := 191) (pc' := 206) rfl (hb hby at_191) rfl (tlt (by decide : (2 : Int32) < (3 : Int32))).1 (by decide) (by decide) ?_
          show Steps p.tables e below (T213.setTop (mkF m 206 #[.val (.int p0), .val (.int p1), .val (.int p2), .val (.int p3), .val (.int p4), .val (.int p5), .val (.int v162), .val (.ref b164), .val (.int r175), .val (.int r180), .val (.int r185), .val (.int (2 : Int32)), .val (.int r185), .val (.int (0 : Int32))] [])) _
          refine XS.aload X213.here hx rfl (hb hby at_206) rfl rfl ?_
          show Steps p.tables e below (T213.setTop (mkF m 208 #[.val (.int p0), .val (.int p1), .val (.int p2), .val (.int p3), .val (.int p4), .val (.int p5), .val (.int v162), .val (.ref b164), .val (.int r175), .val (.int r180), .val (.int r185), .val (.int (2 : Int32)), .val (.int r185), .val (.int (0 : Int32))] [(.ref b164)])) _
          refine st215.trans ?_
          show Steps p.tables e below (T215.setTop (mkF m 211 #[.val (.int p0), .val (.int p1), .val (.int p2), .val (.int p3), .val (.int p4), .val (.int p5), .val (.int v162), .val (.ref b164), .val (.int r175), .val (.int r180), .val (.int r185), .val (.int (2 : Int32)), .val (.int r185), .val (.int (0 : Int32))] [(.int (if ([] : List Int32).length = 0 then (1 : Int32) else (0 : Int32)))])) _
          exact kt
        obtain ⟨fs, hr, hrun, hended, hW, hsame⟩ := X215.leave (v := some (.int (nar .boolean (if ([] : List Int32).length = 0 then (1 : Int32) else (0 : Int32))))) (fun h => by rw [Bd.returns] at h; cases h)
        refine ⟨_, _, k216 _ (retN X215 hx (t := .boolean) Bd.returns (by simp) (hb hby at_211) hr), hrun, hended, _, _, rfl, ?_, ⟨_, rfl⟩, hW, hsame.mono (by decide) (by decide)⟩
        show Q0 Z p0 p1 p2 p3 p4 p5 h0 n0 _ T215.heap _
        rw [eq215]
        exact ⟨rfl, N215⟩
    · have k217 : ∀ tg_, Steps p.tables e below (T193.setTop (mkF m 125 #[.val (.int p0), .val (.int p1), .val (.int p2), .val (.int p3), .val (.int p4), .val (.int p5), .val (.int v162), .val (.ref b164), .val (.int r175), .val (.int r180), .val (.int r185), .val (.int (2 : Int32)), .val (.int r180), .val (.int (0 : Int32))] [(.int r175), (.int r185)])) tg_ → Steps p.tables e below (s₁.setTop (entryFrame m #[(.int p0), (.int p1), (.int p2), (.int p3), (.int p4), (.int p5)] maxLocals)) tg_ := by
        intro tg_ kt
        refine k194 tg_ ?_
        refine XS.icmpNo X193.here hx rfl (hb hby at_111) rfl (feq hc111_195).1 ?_
        show Steps p.tables e below (T193.setTop (mkF m 114 #[.val (.int p0), .val (.int p1), .val (.int p2), .val (.int p3), .val (.int p4), .val (.int p5), .val (.int v162), .val (.ref b164), .val (.int r175), .val (.int r180), .val (.int r185), .val (.int (1 : Int32)), .val (.int (0 : Int32)), .val (.int (0 : Int32))] [])) _
        refine XS.iload X193.here hx rfl (hb hby at_114) rfl ?_
        show Steps p.tables e below (T193.setTop (mkF m 116 #[.val (.int p0), .val (.int p1), .val (.int p2), .val (.int p3), .val (.int p4), .val (.int p5), .val (.int v162), .val (.ref b164), .val (.int r175), .val (.int r180), .val (.int r185), .val (.int (1 : Int32)), .val (.int (0 : Int32)), .val (.int (0 : Int32))] [(.int r180)])) _
        refine XS.istore X193.here hx rfl (hb hby at_116) rfl (l' := #[.val (.int p0), .val (.int p1), .val (.int p2), .val (.int p3), .val (.int p4), .val (.int p5), .val (.int v162), .val (.ref b164), .val (.int r175), .val (.int r180), .val (.int r185), .val (.int (1 : Int32)), .val (.int r180), .val (.int (0 : Int32))]) rfl ?_
        show Steps p.tables e below (T193.setTop (mkF m 118 #[.val (.int p0), .val (.int p1), .val (.int p2), .val (.int p3), .val (.int p4), .val (.int p5), .val (.int v162), .val (.ref b164), .val (.int r175), .val (.int r180), .val (.int r185), .val (.int (1 : Int32)), .val (.int r180), .val (.int (0 : Int32))] [])) _
        refine XS.iconst X193.here hx rfl (hb hby at_118) ?_
        show Steps p.tables e below (T193.setTop (mkF m 119 #[.val (.int p0), .val (.int p1), .val (.int p2), .val (.int p3), .val (.int p4), .val (.int p5), .val (.int v162), .val (.ref b164), .val (.int r175), .val (.int r180), .val (.int r185), .val (.int (1 : Int32)), .val (.int r180), .val (.int (0 : Int32))] [(.int (2 : Int32))])) _
        refine XS.istore X193.here hx rfl (hb hby at_119) rfl (l' := #[.val (.int p0), .val (.int p1), .val (.int p2), .val (.int p3), .val (.int p4), .val (.int p5), .val (.int v162), .val (.ref b164), .val (.int r175), .val (.int r180), .val (.int r185), .val (.int (2 : Int32)), .val (.int r180), .val (.int (0 : Int32))]) rfl ?_
        show Steps p.tables e below (T193.setTop (mkF m 121 #[.val (.int p0), .val (.int p1), .val (.int p2), .val (.int p3), .val (.int p4), .val (.int p5), .val (.int v162), .val (.ref b164), .val (.int r175), .val (.int r180), .val (.int r185), .val (.int (2 : Int32)), .val (.int r180), .val (.int (0 : Int32))] [])) _
        refine XS.iload X193.here hx rfl (hb hby at_121) rfl ?_
        show Steps p.tables e below (T193.setTop (mkF m 123 #[.val (.int p0), .val (.int p1), .val (.int p2), .val (.int p3), .val (.int p4), .val (.int p5), .val (.int v162), .val (.ref b164), .val (.int r175), .val (.int r180), .val (.int r185), .val (.int (2 : Int32)), .val (.int r180), .val (.int (0 : Int32))] [(.int r185)])) _
        refine XS.iload X193.here hx rfl (hb hby at_123) rfl ?_
        show Steps p.tables e below (T193.setTop (mkF m 125 #[.val (.int p0), .val (.int p1), .val (.int p2), .val (.int p3), .val (.int p4), .val (.int p5), .val (.int v162), .val (.ref b164), .val (.int r175), .val (.int r180), .val (.int r185), .val (.int (2 : Int32)), .val (.int r180), .val (.int (0 : Int32))] [(.int r175), (.int r185)])) _
        exact kt
      by_cases hc125_218 : r185 = r175
      · have hq219 : (own_add (own_add (own_add ([] : List Int32) r175) r180) r185) = [r175, r180] := by
          simp [own_add, hc111_195, hc125_218]
        have Rt220 : own_Ring Z T193.heap b164 ra170 wa170 v162 n (r175 :: [r180]) := (by have q := R193; rw [hq219] at q; exact q)
        have f221 := (Nat.le_trans f192 oK193.1)
        obtain ⟨cq222, kq222, q222a, q222b, q222c⟩ := isOf hZ rfl R193.exa
        obtain ⟨_, _, ⟨T222, L222, kc222, nc222⟩, -, X222, ⟨Lc222, hQ222, l222, y222, z222⟩, st222⟩ := X193.virtualBack hx (y := (⟨"com/example/tablewise/tablewise/propagation/WaitingRing", "take", "()I"⟩ : MethodName)) (z := (⟨"com/example/tablewise/tablewise/propagation/WaitingRing", "take", "()I"⟩ : MethodName)) hown (mvT hZ (hw _ (List.mem_of_getElem? (i := 29) rfl))) (mvT hZ (hw _ (List.mem_of_getElem? (i := 30) rfl))) (notFace_of_selects (args := #[]) (mvT hZ (hw _ (List.mem_of_getElem? (i := 32) rfl)))) (mvT hZ (hw _ (List.mem_of_getElem? (i := 32) rfl))) (mvT hZ (hw _ (List.mem_of_getElem? (i := 31) rfl))) (by decide) (backOf (W := 0) (rm5 l Z a0 hw [] b164 ra170 wa170 v162 n r175 ([r180]) T193.heap n0 f221 ge_b164 gra170 gwa170 Rt220) hZ (hw _ (List.mem_of_getElem? (i := 33) rfl)) (hw _ (List.mem_of_getElem? (i := 2) rfl)) (by decide) (by decide)) q222a q222c (g := (mkF m 160 #[.val (.int p0), .val (.int p1), .val (.int p2), .val (.int p3), .val (.int p4), .val (.int p5), .val (.int v162), .val (.ref b164), .val (.int r175), .val (.int r180), .val (.int r185), .val (.int (2 : Int32)), .val (.int r180), .val (.int (0 : Int32))] [(.ref b164)])) rfl (by rw [hml]; rfl) (Steps.refl _) (argsL := []) (rest := []) (lenOf pd_3 rfl) rfl (by show 2 * 0 + _ ≤ _; exact Nat.le_of_eq rfl) (hb hby at_160) (fun _ _ => ⟨rfl, rfl, (by decide : 3 + 0 ≤ _), (by decide : 12 + 0 ≤ _)⟩)
        dsimp only [Pt.U, Pt.locs, Pt.cells, Pt.slots] at X222 l222 y222 z222 st222 hQ222
        subst l222 y222 z222
        obtain ⟨rfl, Nq222, oK222, m0_222⟩ := hQ222
        have N222 := Fr.app N193 Nq222
        have R222 := m0_222
        have hc165_223 : r175 = r175 := rfl
        have Rt224 : own_Ring Z T222.heap b164 ra170 wa170 v162 n (r180 :: ([] : List Int32)) := (by have q := R222; rw [show [r180] = [r180] from rfl] at q; exact q)
        have f225 := (Nat.le_trans f221 oK222.1)
        obtain ⟨cq226, kq226, q226a, q226b, q226c⟩ := isOf hZ rfl R222.exa
        obtain ⟨_, _, ⟨T226, L226, kc226, nc226⟩, -, X226, ⟨Lc226, hQ226, l226, y226, z226⟩, st226⟩ := X222.virtualBack hx (y := (⟨"com/example/tablewise/tablewise/propagation/WaitingRing", "take", "()I"⟩ : MethodName)) (z := (⟨"com/example/tablewise/tablewise/propagation/WaitingRing", "take", "()I"⟩ : MethodName)) hown (mvT hZ (hw _ (List.mem_of_getElem? (i := 29) rfl))) (mvT hZ (hw _ (List.mem_of_getElem? (i := 30) rfl))) (notFace_of_selects (args := #[]) (mvT hZ (hw _ (List.mem_of_getElem? (i := 32) rfl)))) (mvT hZ (hw _ (List.mem_of_getElem? (i := 32) rfl))) (mvT hZ (hw _ (List.mem_of_getElem? (i := 31) rfl))) (by decide) (backOf (W := 0) (rm5 l Z a0 hw [] b164 ra170 wa170 v162 n r180 ([] : List Int32) T222.heap n0 f225 ge_b164 gra170 gwa170 Rt224) hZ (hw _ (List.mem_of_getElem? (i := 33) rfl)) (hw _ (List.mem_of_getElem? (i := 2) rfl)) (by decide) (by decide)) q226a q226c (g := (mkF m 178 #[.val (.int p0), .val (.int p1), .val (.int p2), .val (.int p3), .val (.int p4), .val (.int p5), .val (.int v162), .val (.ref b164), .val (.int r175), .val (.int r180), .val (.int r185), .val (.int (2 : Int32)), .val (.int r180), .val (.int (0 : Int32))] [(.ref b164)])) rfl (by rw [hml]; rfl) (Steps.refl _) (argsL := []) (rest := []) (lenOf pd_3 rfl) rfl (by show 2 * 0 + _ ≤ _; exact Nat.le_of_eq rfl) (hb hby at_178) (fun _ _ => ⟨rfl, rfl, (by decide : 3 + 0 ≤ _), (by decide : 12 + 0 ≤ _)⟩)
        dsimp only [Pt.U, Pt.locs, Pt.cells, Pt.slots] at X226 l226 y226 z226 st226 hQ226
        subst l226 y226 z226
        obtain ⟨rfl, Nq226, oK226, m0_226⟩ := hQ226
        have N226 := Fr.app N222 Nq226
        have R226 := m0_226
        have hc183_227 : r180 = r180 := rfl
        obtain ⟨cq228, kq228, q228a, q228b, q228c⟩ := isOf hZ rfl R226.exa
        obtain ⟨_, _, ⟨T228, L228, kc228, nc228⟩, -, X228, ⟨Lc228, hQ228, l228, y228, z228⟩, st228⟩ := X226.virtualBack hx (y := (⟨"com/example/tablewise/tablewise/propagation/WaitingRing", "isEmpty", "()Z"⟩ : MethodName)) (z := (⟨"com/example/tablewise/tablewise/propagation/WaitingRing", "isEmpty", "()Z"⟩ : MethodName)) hown (mvT hZ (hw _ (List.mem_of_getElem? (i := 34) rfl))) (mvT hZ (hw _ (List.mem_of_getElem? (i := 35) rfl))) (notFace_of_selects (args := #[]) (mvT hZ (hw _ (List.mem_of_getElem? (i := 37) rfl)))) (mvT hZ (hw _ (List.mem_of_getElem? (i := 37) rfl))) (mvT hZ (hw _ (List.mem_of_getElem? (i := 36) rfl))) (by decide) (backOf (W := 0) (rm6 l Z a0 hw [] b164 ra170 wa170 v162 n ([] : List Int32) T226.heap n0 R226) hZ (hw _ (List.mem_of_getElem? (i := 38) rfl)) (hw _ (List.mem_of_getElem? (i := 2) rfl)) (by decide) (by decide)) q228a q228c (g := (mkF m 208 #[.val (.int p0), .val (.int p1), .val (.int p2), .val (.int p3), .val (.int p4), .val (.int p5), .val (.int v162), .val (.ref b164), .val (.int r175), .val (.int r180), .val (.int r185), .val (.int (2 : Int32)), .val (.int r180), .val (.int (0 : Int32))] [(.ref b164)])) rfl (by rw [hml]; rfl) (Steps.refl _) (argsL := []) (rest := []) (lenOf pd_4 rfl) rfl (by show 2 * 0 + _ ≤ _; exact Nat.le_of_eq rfl) (hb hby at_208) (fun _ _ => ⟨rfl, rfl, (by decide : 3 + 0 ≤ _), (by decide : 12 + 0 ≤ _)⟩)
        dsimp only [Pt.U, Pt.locs, Pt.cells, Pt.slots] at X228 l228 y228 z228 st228 hQ228
        subst l228 y228 z228
        obtain ⟨rfl, Nq228, eq228⟩ := hQ228
        have N228 := Fr.app N226 Nq228
        have k229 : ∀ tg_, Steps p.tables e below (T228.setTop (mkF m 211 #[.val (.int p0), .val (.int p1), .val (.int p2), .val (.int p3), .val (.int p4), .val (.int p5), .val (.int v162), .val (.ref b164), .val (.int r175), .val (.int r180), .val (.int r185), .val (.int (2 : Int32)), .val (.int r180), .val (.int (0 : Int32))] [(.int (if ([] : List Int32).length = 0 then (1 : Int32) else (0 : Int32)))])) tg_ → Steps p.tables e below (s₁.setTop (entryFrame m #[(.int p0), (.int p1), (.int p2), (.int p3), (.int p4), (.int p5)] maxLocals)) tg_ := by
          intro tg_ kt
          refine k217 tg_ ?_
          refine XS.icmpYes X193.here hx rfl (pc0 := 125) (pc' := 158) rfl (hb hby at_125) rfl (teq hc125_218).1 (by decide) (by decide) ?_
          show Steps p.tables e below (T193.setTop (mkF m 158 #[.val (.int p0), .val (.int p1), .val (.int p2), .val (.int p3), .val (.int p4), .val (.int p5), .val (.int v162), .val (.ref b164), .val (.int r175), .val (.int r180), .val (.int r185), .val (.int (2 : Int32)), .val (.int r180), .val (.int (0 : Int32))] [])) _
          refine XS.aload X193.here hx rfl (hb hby at_158) rfl rfl ?_
          show Steps p.tables e below (T193.setTop (mkF m 160 #[.val (.int p0), .val (.int p1), .val (.int p2), .val (.int p3), .val (.int p4), .val (.int p5), .val (.int v162), .val (.ref b164), .val (.int r175), .val (.int r180), .val (.int r185), .val (.int (2 : Int32)), .val (.int r180), .val (.int (0 : Int32))] [(.ref b164)])) _
          refine st222.trans ?_
          show Steps p.tables e below (T222.setTop (mkF m 163 #[.val (.int p0), .val (.int p1), .val (.int p2), .val (.int p3), .val (.int p4), .val (.int p5), .val (.int v162), .val (.ref b164), .val (.int r175), .val (.int r180), .val (.int r185), .val (.int (2 : Int32)), .val (.int r180), .val (.int (0 : Int32))] [(.int r175)])) _
          refine XS.iload X222.here hx rfl (hb hby at_163) rfl ?_
          show Steps p.tables e below (T222.setTop (mkF m 165 #[.val (.int p0), .val (.int p1), .val (.int p2), .val (.int p3), .val (.int p4), .val (.int p5), .val (.int v162), .val (.ref b164), .val (.int r175), .val (.int r180), .val (.int r185), .val (.int (2 : Int32)), .val (.int r180), .val (.int (0 : Int32))] [(.int r175), (.int r175)])) _
          refine XS.icmpYes X222.here hx rfl (pc0 := 165) (pc' := 170) rfl (hb hby at_165) rfl (teq hc165_223).1 (by decide) (by decide) ?_
          show Steps p.tables e below (T222.setTop (mkF m 170 #[.val (.int p0), .val (.int p1), .val (.int p2), .val (.int p3), .val (.int p4), .val (.int p5), .val (.int v162), .val (.ref b164), .val (.int r175), .val (.int r180), .val (.int r185), .val (.int (2 : Int32)), .val (.int r180), .val (.int (0 : Int32))] [])) _
          refine XS.iload X222.here hx rfl (hb hby at_170) rfl ?_
          show Steps p.tables e below (T222.setTop (mkF m 172 #[.val (.int p0), .val (.int p1), .val (.int p2), .val (.int p3), .val (.int p4), .val (.int p5), .val (.int v162), .val (.ref b164), .val (.int r175), .val (.int r180), .val (.int r185), .val (.int (2 : Int32)), .val (.int r180), .val (.int (0 : Int32))] [(.int (2 : Int32))])) _
          refine XS.iconst X222.here hx rfl (hb hby at_172) ?_
          show Steps p.tables e below (T222.setTop (mkF m 173 #[.val (.int p0), .val (.int p1), .val (.int p2), .val (.int p3), .val (.int p4), .val (.int p5), .val (.int v162), .val (.ref b164), .val (.int r175), .val (.int r180), .val (.int r185), .val (.int (2 : Int32)), .val (.int r180), .val (.int (0 : Int32))] [(.int (2 : Int32)), (.int (2 : Int32))])) _
          refine XS.icmpNo X222.here hx rfl (hb hby at_173) rfl (flt (by decide : ¬ ((2 : Int32) < (2 : Int32)))).1 ?_
          show Steps p.tables e below (T222.setTop (mkF m 176 #[.val (.int p0), .val (.int p1), .val (.int p2), .val (.int p3), .val (.int p4), .val (.int p5), .val (.int v162), .val (.ref b164), .val (.int r175), .val (.int r180), .val (.int r185), .val (.int (2 : Int32)), .val (.int r180), .val (.int (0 : Int32))] [])) _
          refine XS.aload X222.here hx rfl (hb hby at_176) rfl rfl ?_
          show Steps p.tables e below (T222.setTop (mkF m 178 #[.val (.int p0), .val (.int p1), .val (.int p2), .val (.int p3), .val (.int p4), .val (.int p5), .val (.int v162), .val (.ref b164), .val (.int r175), .val (.int r180), .val (.int r185), .val (.int (2 : Int32)), .val (.int r180), .val (.int (0 : Int32))] [(.ref b164)])) _
          refine st226.trans ?_
          show Steps p.tables e below (T226.setTop (mkF m 181 #[.val (.int p0), .val (.int p1), .val (.int p2), .val (.int p3), .val (.int p4), .val (.int p5), .val (.int v162), .val (.ref b164), .val (.int r175), .val (.int r180), .val (.int r185), .val (.int (2 : Int32)), .val (.int r180), .val (.int (0 : Int32))] [(.int r180)])) _
          refine XS.iload X226.here hx rfl (hb hby at_181) rfl ?_
          show Steps p.tables e below (T226.setTop (mkF m 183 #[.val (.int p0), .val (.int p1), .val (.int p2), .val (.int p3), .val (.int p4), .val (.int p5), .val (.int v162), .val (.ref b164), .val (.int r175), .val (.int r180), .val (.int r185), .val (.int (2 : Int32)), .val (.int r180), .val (.int (0 : Int32))] [(.int r180), (.int r180)])) _
          refine XS.icmpYes X226.here hx rfl (pc0 := 183) (pc' := 188) rfl (hb hby at_183) rfl (teq hc183_227).1 (by decide) (by decide) ?_
          show Steps p.tables e below (T226.setTop (mkF m 188 #[.val (.int p0), .val (.int p1), .val (.int p2), .val (.int p3), .val (.int p4), .val (.int p5), .val (.int v162), .val (.ref b164), .val (.int r175), .val (.int r180), .val (.int r185), .val (.int (2 : Int32)), .val (.int r180), .val (.int (0 : Int32))] [])) _
          refine XS.iload X226.here hx rfl (hb hby at_188) rfl ?_
          show Steps p.tables e below (T226.setTop (mkF m 190 #[.val (.int p0), .val (.int p1), .val (.int p2), .val (.int p3), .val (.int p4), .val (.int p5), .val (.int v162), .val (.ref b164), .val (.int r175), .val (.int r180), .val (.int r185), .val (.int (2 : Int32)), .val (.int r180), .val (.int (0 : Int32))] [(.int (2 : Int32))])) _
          refine XS.iconst X226.here hx rfl (hb hby at_190) ?_
          show Steps p.tables e below (T226.setTop (mkF m 191 #[.val (.int p0), .val (.int p1), .val (.int p2), .val (.int p3), .val (.int p4), .val (.int p5), .val (.int v162), .val (.ref b164), .val (.int r175), .val (.int r180), .val (.int r185), .val (.int (2 : Int32)), .val (.int r180), .val (.int (0 : Int32))] [(.int (3 : Int32)), (.int (2 : Int32))])) _
          refine XS.icmpYes X226.here hx rfl (pc0 := 191) (pc' := 206) rfl (hb hby at_191) rfl (tlt (by decide : (2 : Int32) < (3 : Int32))).1 (by decide) (by decide) ?_
          show Steps p.tables e below (T226.setTop (mkF m 206 #[.val (.int p0), .val (.int p1), .val (.int p2), .val (.int p3), .val (.int p4), .val (.int p5), .val (.int v162), .val (.ref b164), .val (.int r175), .val (.int r180), .val (.int r185), .val (.int (2 : Int32)), .val (.int r180), .val (.int (0 : Int32))] [])) _
          refine XS.aload X226.here hx rfl (hb hby at_206) rfl rfl ?_
          show Steps p.tables e below (T226.setTop (mkF m 208 #[.val (.int p0), .val (.int p1), .val (.int p2), .val (.int p3), .val (.int p4), .val (.int p5), .val (.int v162), .val (.ref b164), .val (.int r175), .val (.int r180), .val (.int r185), .val (.int (2 : Int32)), .val (.int r180), .val (.int (0 : Int32))] [(.ref b164)])) _
          refine st228.trans ?_
          show Steps p.tables e below (T228.setTop (mkF m 211 #[.val (.int p0), .val (.int p1), .val (.int p2), .val (.int p3), .val (.int p4), .val (.int p5), .val (.int v162), .val (.ref b164), .val (.int r175), .val (.int r180), .val (.int r185), .val (.int (2 : Int32)), .val (.int r180), .val (.int (0 : Int32))] [(.int (if ([] : List Int32).length = 0 then (1 : Int32) else (0 : Int32)))])) _
          exact kt
        obtain ⟨fs, hr, hrun, hended, hW, hsame⟩ := X228.leave (v := some (.int (nar .boolean (if ([] : List Int32).length = 0 then (1 : Int32) else (0 : Int32))))) (fun h => by rw [Bd.returns] at h; cases h)
        refine ⟨_, _, k229 _ (retN X228 hx (t := .boolean) Bd.returns (by simp) (hb hby at_211) hr), hrun, hended, _, _, rfl, ?_, ⟨_, rfl⟩, hW, hsame.mono (by decide) (by decide)⟩
        show Q0 Z p0 p1 p2 p3 p4 p5 h0 n0 _ T228.heap _
        rw [eq228]
        exact ⟨rfl, N228⟩
      · have k230 : ∀ tg_, Steps p.tables e below (T193.setTop (mkF m 132 #[.val (.int p0), .val (.int p1), .val (.int p2), .val (.int p3), .val (.int p4), .val (.int p5), .val (.int v162), .val (.ref b164), .val (.int r175), .val (.int r180), .val (.int r185), .val (.int (2 : Int32)), .val (.int r180), .val (.int (0 : Int32))] [(.int r180), (.int r185)])) tg_ → Steps p.tables e below (s₁.setTop (entryFrame m #[(.int p0), (.int p1), (.int p2), (.int p3), (.int p4), (.int p5)] maxLocals)) tg_ := by
          intro tg_ kt
          refine k217 tg_ ?_
          refine XS.icmpNo X193.here hx rfl (hb hby at_125) rfl (feq hc125_218).1 ?_
          show Steps p.tables e below (T193.setTop (mkF m 128 #[.val (.int p0), .val (.int p1), .val (.int p2), .val (.int p3), .val (.int p4), .val (.int p5), .val (.int v162), .val (.ref b164), .val (.int r175), .val (.int r180), .val (.int r185), .val (.int (2 : Int32)), .val (.int r180), .val (.int (0 : Int32))] [])) _
          refine XS.iload X193.here hx rfl (hb hby at_128) rfl ?_
          show Steps p.tables e below (T193.setTop (mkF m 130 #[.val (.int p0), .val (.int p1), .val (.int p2), .val (.int p3), .val (.int p4), .val (.int p5), .val (.int v162), .val (.ref b164), .val (.int r175), .val (.int r180), .val (.int r185), .val (.int (2 : Int32)), .val (.int r180), .val (.int (0 : Int32))] [(.int r185)])) _
          refine XS.iload X193.here hx rfl (hb hby at_130) rfl ?_
          show Steps p.tables e below (T193.setTop (mkF m 132 #[.val (.int p0), .val (.int p1), .val (.int p2), .val (.int p3), .val (.int p4), .val (.int p5), .val (.int v162), .val (.ref b164), .val (.int r175), .val (.int r180), .val (.int r185), .val (.int (2 : Int32)), .val (.int r180), .val (.int (0 : Int32))] [(.int r180), (.int r185)])) _
          exact kt
        by_cases hc132_231 : r185 = r180
        · have hq232 : (own_add (own_add (own_add ([] : List Int32) r175) r180) r185) = [r175, r180] := by
            simp [own_add, hc111_195, hc125_218, hc132_231]
          have Rt233 : own_Ring Z T193.heap b164 ra170 wa170 v162 n (r175 :: [r180]) := (by have q := R193; rw [hq232] at q; exact q)
          have f234 := (Nat.le_trans f192 oK193.1)
          obtain ⟨cq235, kq235, q235a, q235b, q235c⟩ := isOf hZ rfl R193.exa
          obtain ⟨_, _, ⟨T235, L235, kc235, nc235⟩, -, X235, ⟨Lc235, hQ235, l235, y235, z235⟩, st235⟩ := X193.virtualBack hx (y := (⟨"com/example/tablewise/tablewise/propagation/WaitingRing", "take", "()I"⟩ : MethodName)) (z := (⟨"com/example/tablewise/tablewise/propagation/WaitingRing", "take", "()I"⟩ : MethodName)) hown (mvT hZ (hw _ (List.mem_of_getElem? (i := 29) rfl))) (mvT hZ (hw _ (List.mem_of_getElem? (i := 30) rfl))) (notFace_of_selects (args := #[]) (mvT hZ (hw _ (List.mem_of_getElem? (i := 32) rfl)))) (mvT hZ (hw _ (List.mem_of_getElem? (i := 32) rfl))) (mvT hZ (hw _ (List.mem_of_getElem? (i := 31) rfl))) (by decide) (backOf (W := 0) (rm5 l Z a0 hw [] b164 ra170 wa170 v162 n r175 ([r180]) T193.heap n0 f234 ge_b164 gra170 gwa170 Rt233) hZ (hw _ (List.mem_of_getElem? (i := 33) rfl)) (hw _ (List.mem_of_getElem? (i := 2) rfl)) (by decide) (by decide)) q235a q235c (g := (mkF m 160 #[.val (.int p0), .val (.int p1), .val (.int p2), .val (.int p3), .val (.int p4), .val (.int p5), .val (.int v162), .val (.ref b164), .val (.int r175), .val (.int r180), .val (.int r185), .val (.int (2 : Int32)), .val (.int r180), .val (.int (0 : Int32))] [(.ref b164)])) rfl (by rw [hml]; rfl) (Steps.refl _) (argsL := []) (rest := []) (lenOf pd_3 rfl) rfl (by show 2 * 0 + _ ≤ _; exact Nat.le_of_eq rfl) (hb hby at_160) (fun _ _ => ⟨rfl, rfl, (by decide : 3 + 0 ≤ _), (by decide : 12 + 0 ≤ _)⟩)
          dsimp only [Pt.U, Pt.locs, Pt.cells, Pt.slots] at X235 l235 y235 z235 st235 hQ235
          subst l235 y235 z235
          obtain ⟨rfl, Nq235, oK235, m0_235⟩ := hQ235
          have N235 := Fr.app N193 Nq235
          have R235 := m0_235
          have hc165_236 : r175 = r175 := rfl
          have Rt237 : own_Ring Z T235.heap b164 ra170 wa170 v162 n (r180 :: ([] : List Int32)) := (by have q := R235; rw [show [r180] = [r180] from rfl] at q; exact q)
          have f238 := (Nat.le_trans f234 oK235.1)
          obtain ⟨cq239, kq239, q239a, q239b, q239c⟩ := isOf hZ rfl R235.exa
          obtain ⟨_, _, ⟨T239, L239, kc239, nc239⟩, -, X239, ⟨Lc239, hQ239, l239, y239, z239⟩, st239⟩ := X235.virtualBack hx (y := (⟨"com/example/tablewise/tablewise/propagation/WaitingRing", "take", "()I"⟩ : MethodName)) (z := (⟨"com/example/tablewise/tablewise/propagation/WaitingRing", "take", "()I"⟩ : MethodName)) hown (mvT hZ (hw _ (List.mem_of_getElem? (i := 29) rfl))) (mvT hZ (hw _ (List.mem_of_getElem? (i := 30) rfl))) (notFace_of_selects (args := #[]) (mvT hZ (hw _ (List.mem_of_getElem? (i := 32) rfl)))) (mvT hZ (hw _ (List.mem_of_getElem? (i := 32) rfl))) (mvT hZ (hw _ (List.mem_of_getElem? (i := 31) rfl))) (by decide) (backOf (W := 0) (rm5 l Z a0 hw [] b164 ra170 wa170 v162 n r180 ([] : List Int32) T235.heap n0 f238 ge_b164 gra170 gwa170 Rt237) hZ (hw _ (List.mem_of_getElem? (i := 33) rfl)) (hw _ (List.mem_of_getElem? (i := 2) rfl)) (by decide) (by decide)) q239a q239c (g := (mkF m 178 #[.val (.int p0), .val (.int p1), .val (.int p2), .val (.int p3), .val (.int p4), .val (.int p5), .val (.int v162), .val (.ref b164), .val (.int r175), .val (.int r180), .val (.int r185), .val (.int (2 : Int32)), .val (.int r180), .val (.int (0 : Int32))] [(.ref b164)])) rfl (by rw [hml]; rfl) (Steps.refl _) (argsL := []) (rest := []) (lenOf pd_3 rfl) rfl (by show 2 * 0 + _ ≤ _; exact Nat.le_of_eq rfl) (hb hby at_178) (fun _ _ => ⟨rfl, rfl, (by decide : 3 + 0 ≤ _), (by decide : 12 + 0 ≤ _)⟩)
          dsimp only [Pt.U, Pt.locs, Pt.cells, Pt.slots] at X239 l239 y239 z239 st239 hQ239
          subst l239 y239 z239
          obtain ⟨rfl, Nq239, oK239, m0_239⟩ := hQ239
          have N239 := Fr.app N235 Nq239
          have R239 := m0_239
          have hc183_240 : r180 = r180 := rfl
          obtain ⟨cq241, kq241, q241a, q241b, q241c⟩ := isOf hZ rfl R239.exa
          obtain ⟨_, _, ⟨T241, L241, kc241, nc241⟩, -, X241, ⟨Lc241, hQ241, l241, y241, z241⟩, st241⟩ := X239.virtualBack hx (y := (⟨"com/example/tablewise/tablewise/propagation/WaitingRing", "isEmpty", "()Z"⟩ : MethodName)) (z := (⟨"com/example/tablewise/tablewise/propagation/WaitingRing", "isEmpty", "()Z"⟩ : MethodName)) hown (mvT hZ (hw _ (List.mem_of_getElem? (i := 34) rfl))) (mvT hZ (hw _ (List.mem_of_getElem? (i := 35) rfl))) (notFace_of_selects (args := #[]) (mvT hZ (hw _ (List.mem_of_getElem? (i := 37) rfl)))) (mvT hZ (hw _ (List.mem_of_getElem? (i := 37) rfl))) (mvT hZ (hw _ (List.mem_of_getElem? (i := 36) rfl))) (by decide) (backOf (W := 0) (rm6 l Z a0 hw [] b164 ra170 wa170 v162 n ([] : List Int32) T239.heap n0 R239) hZ (hw _ (List.mem_of_getElem? (i := 38) rfl)) (hw _ (List.mem_of_getElem? (i := 2) rfl)) (by decide) (by decide)) q241a q241c (g := (mkF m 208 #[.val (.int p0), .val (.int p1), .val (.int p2), .val (.int p3), .val (.int p4), .val (.int p5), .val (.int v162), .val (.ref b164), .val (.int r175), .val (.int r180), .val (.int r185), .val (.int (2 : Int32)), .val (.int r180), .val (.int (0 : Int32))] [(.ref b164)])) rfl (by rw [hml]; rfl) (Steps.refl _) (argsL := []) (rest := []) (lenOf pd_4 rfl) rfl (by show 2 * 0 + _ ≤ _; exact Nat.le_of_eq rfl) (hb hby at_208) (fun _ _ => ⟨rfl, rfl, (by decide : 3 + 0 ≤ _), (by decide : 12 + 0 ≤ _)⟩)
          dsimp only [Pt.U, Pt.locs, Pt.cells, Pt.slots] at X241 l241 y241 z241 st241 hQ241
          subst l241 y241 z241
          obtain ⟨rfl, Nq241, eq241⟩ := hQ241
          have N241 := Fr.app N239 Nq241
          have k242 : ∀ tg_, Steps p.tables e below (T241.setTop (mkF m 211 #[.val (.int p0), .val (.int p1), .val (.int p2), .val (.int p3), .val (.int p4), .val (.int p5), .val (.int v162), .val (.ref b164), .val (.int r175), .val (.int r180), .val (.int r185), .val (.int (2 : Int32)), .val (.int r180), .val (.int (0 : Int32))] [(.int (if ([] : List Int32).length = 0 then (1 : Int32) else (0 : Int32)))])) tg_ → Steps p.tables e below (s₁.setTop (entryFrame m #[(.int p0), (.int p1), (.int p2), (.int p3), (.int p4), (.int p5)] maxLocals)) tg_ := by
            intro tg_ kt
            refine k230 tg_ ?_
            refine XS.icmpYes X193.here hx rfl (pc0 := 132) (pc' := 158) rfl (hb hby at_132) rfl (teq hc132_231).1 (by decide) (by decide) ?_
            show Steps p.tables e below (T193.setTop (mkF m 158 #[.val (.int p0), .val (.int p1), .val (.int p2), .val (.int p3), .val (.int p4), .val (.int p5), .val (.int v162), .val (.ref b164), .val (.int r175), .val (.int r180), .val (.int r185), .val (.int (2 : Int32)), .val (.int r180), .val (.int (0 : Int32))] [])) _
            refine XS.aload X193.here hx rfl (hb hby at_158) rfl rfl ?_
            show Steps p.tables e below (T193.setTop (mkF m 160 #[.val (.int p0), .val (.int p1), .val (.int p2), .val (.int p3), .val (.int p4), .val (.int p5), .val (.int v162), .val (.ref b164), .val (.int r175), .val (.int r180), .val (.int r185), .val (.int (2 : Int32)), .val (.int r180), .val (.int (0 : Int32))] [(.ref b164)])) _
            refine st235.trans ?_
            show Steps p.tables e below (T235.setTop (mkF m 163 #[.val (.int p0), .val (.int p1), .val (.int p2), .val (.int p3), .val (.int p4), .val (.int p5), .val (.int v162), .val (.ref b164), .val (.int r175), .val (.int r180), .val (.int r185), .val (.int (2 : Int32)), .val (.int r180), .val (.int (0 : Int32))] [(.int r175)])) _
            refine XS.iload X235.here hx rfl (hb hby at_163) rfl ?_
            show Steps p.tables e below (T235.setTop (mkF m 165 #[.val (.int p0), .val (.int p1), .val (.int p2), .val (.int p3), .val (.int p4), .val (.int p5), .val (.int v162), .val (.ref b164), .val (.int r175), .val (.int r180), .val (.int r185), .val (.int (2 : Int32)), .val (.int r180), .val (.int (0 : Int32))] [(.int r175), (.int r175)])) _
            refine XS.icmpYes X235.here hx rfl (pc0 := 165) (pc' := 170) rfl (hb hby at_165) rfl (teq hc165_236).1 (by decide) (by decide) ?_
            show Steps p.tables e below (T235.setTop (mkF m 170 #[.val (.int p0), .val (.int p1), .val (.int p2), .val (.int p3), .val (.int p4), .val (.int p5), .val (.int v162), .val (.ref b164), .val (.int r175), .val (.int r180), .val (.int r185), .val (.int (2 : Int32)), .val (.int r180), .val (.int (0 : Int32))] [])) _
            refine XS.iload X235.here hx rfl (hb hby at_170) rfl ?_
            show Steps p.tables e below (T235.setTop (mkF m 172 #[.val (.int p0), .val (.int p1), .val (.int p2), .val (.int p3), .val (.int p4), .val (.int p5), .val (.int v162), .val (.ref b164), .val (.int r175), .val (.int r180), .val (.int r185), .val (.int (2 : Int32)), .val (.int r180), .val (.int (0 : Int32))] [(.int (2 : Int32))])) _
            refine XS.iconst X235.here hx rfl (hb hby at_172) ?_
            show Steps p.tables e below (T235.setTop (mkF m 173 #[.val (.int p0), .val (.int p1), .val (.int p2), .val (.int p3), .val (.int p4), .val (.int p5), .val (.int v162), .val (.ref b164), .val (.int r175), .val (.int r180), .val (.int r185), .val (.int (2 : Int32)), .val (.int r180), .val (.int (0 : Int32))] [(.int (2 : Int32)), (.int (2 : Int32))])) _
            refine XS.icmpNo X235.here hx rfl (hb hby at_173) rfl (flt (by decide : ¬ ((2 : Int32) < (2 : Int32)))).1 ?_
            show Steps p.tables e below (T235.setTop (mkF m 176 #[.val (.int p0), .val (.int p1), .val (.int p2), .val (.int p3), .val (.int p4), .val (.int p5), .val (.int v162), .val (.ref b164), .val (.int r175), .val (.int r180), .val (.int r185), .val (.int (2 : Int32)), .val (.int r180), .val (.int (0 : Int32))] [])) _
            refine XS.aload X235.here hx rfl (hb hby at_176) rfl rfl ?_
            show Steps p.tables e below (T235.setTop (mkF m 178 #[.val (.int p0), .val (.int p1), .val (.int p2), .val (.int p3), .val (.int p4), .val (.int p5), .val (.int v162), .val (.ref b164), .val (.int r175), .val (.int r180), .val (.int r185), .val (.int (2 : Int32)), .val (.int r180), .val (.int (0 : Int32))] [(.ref b164)])) _
            refine st239.trans ?_
            show Steps p.tables e below (T239.setTop (mkF m 181 #[.val (.int p0), .val (.int p1), .val (.int p2), .val (.int p3), .val (.int p4), .val (.int p5), .val (.int v162), .val (.ref b164), .val (.int r175), .val (.int r180), .val (.int r185), .val (.int (2 : Int32)), .val (.int r180), .val (.int (0 : Int32))] [(.int r180)])) _
            refine XS.iload X239.here hx rfl (hb hby at_181) rfl ?_
            show Steps p.tables e below (T239.setTop (mkF m 183 #[.val (.int p0), .val (.int p1), .val (.int p2), .val (.int p3), .val (.int p4), .val (.int p5), .val (.int v162), .val (.ref b164), .val (.int r175), .val (.int r180), .val (.int r185), .val (.int (2 : Int32)), .val (.int r180), .val (.int (0 : Int32))] [(.int r180), (.int r180)])) _
            refine XS.icmpYes X239.here hx rfl (pc0 := 183) (pc' := 188) rfl (hb hby at_183) rfl (teq hc183_240).1 (by decide) (by decide) ?_
            show Steps p.tables e below (T239.setTop (mkF m 188 #[.val (.int p0), .val (.int p1), .val (.int p2), .val (.int p3), .val (.int p4), .val (.int p5), .val (.int v162), .val (.ref b164), .val (.int r175), .val (.int r180), .val (.int r185), .val (.int (2 : Int32)), .val (.int r180), .val (.int (0 : Int32))] [])) _
            refine XS.iload X239.here hx rfl (hb hby at_188) rfl ?_
            show Steps p.tables e below (T239.setTop (mkF m 190 #[.val (.int p0), .val (.int p1), .val (.int p2), .val (.int p3), .val (.int p4), .val (.int p5), .val (.int v162), .val (.ref b164), .val (.int r175), .val (.int r180), .val (.int r185), .val (.int (2 : Int32)), .val (.int r180), .val (.int (0 : Int32))] [(.int (2 : Int32))])) _
            refine XS.iconst X239.here hx rfl (hb hby at_190) ?_
            show Steps p.tables e below (T239.setTop (mkF m 191 #[.val (.int p0), .val (.int p1), .val (.int p2), .val (.int p3), .val (.int p4), .val (.int p5), .val (.int v162), .val (.ref b164), .val (.int r175), .val (.int r180), .val (.int r185), .val (.int (2 : Int32)), .val (.int r180), .val (.int (0 : Int32))] [(.int (3 : Int32)), (.int (2 : Int32))])) _
            refine XS.icmpYes X239.here hx rfl (pc0 := 191) (pc' := 206) rfl (hb hby at_191) rfl (tlt (by decide : (2 : Int32) < (3 : Int32))).1 (by decide) (by decide) ?_
            show Steps p.tables e below (T239.setTop (mkF m 206 #[.val (.int p0), .val (.int p1), .val (.int p2), .val (.int p3), .val (.int p4), .val (.int p5), .val (.int v162), .val (.ref b164), .val (.int r175), .val (.int r180), .val (.int r185), .val (.int (2 : Int32)), .val (.int r180), .val (.int (0 : Int32))] [])) _
            refine XS.aload X239.here hx rfl (hb hby at_206) rfl rfl ?_
            show Steps p.tables e below (T239.setTop (mkF m 208 #[.val (.int p0), .val (.int p1), .val (.int p2), .val (.int p3), .val (.int p4), .val (.int p5), .val (.int v162), .val (.ref b164), .val (.int r175), .val (.int r180), .val (.int r185), .val (.int (2 : Int32)), .val (.int r180), .val (.int (0 : Int32))] [(.ref b164)])) _
            refine st241.trans ?_
            show Steps p.tables e below (T241.setTop (mkF m 211 #[.val (.int p0), .val (.int p1), .val (.int p2), .val (.int p3), .val (.int p4), .val (.int p5), .val (.int v162), .val (.ref b164), .val (.int r175), .val (.int r180), .val (.int r185), .val (.int (2 : Int32)), .val (.int r180), .val (.int (0 : Int32))] [(.int (if ([] : List Int32).length = 0 then (1 : Int32) else (0 : Int32)))])) _
            exact kt
          obtain ⟨fs, hr, hrun, hended, hW, hsame⟩ := X241.leave (v := some (.int (nar .boolean (if ([] : List Int32).length = 0 then (1 : Int32) else (0 : Int32))))) (fun h => by rw [Bd.returns] at h; cases h)
          refine ⟨_, _, k242 _ (retN X241 hx (t := .boolean) Bd.returns (by simp) (hb hby at_211) hr), hrun, hended, _, _, rfl, ?_, ⟨_, rfl⟩, hW, hsame.mono (by decide) (by decide)⟩
          show Q0 Z p0 p1 p2 p3 p4 p5 h0 n0 _ T241.heap _
          rw [eq241]
          exact ⟨rfl, N241⟩
        · have hq243 : (own_add (own_add (own_add ([] : List Int32) r175) r180) r185) = [r175, r180, r185] := by
            simp [own_add, hc111_195, hc125_218, hc132_231]
          have Rt244 : own_Ring Z T193.heap b164 ra170 wa170 v162 n (r175 :: [r180, r185]) := (by have q := R193; rw [hq243] at q; exact q)
          have f245 := (Nat.le_trans f192 oK193.1)
          obtain ⟨cq246, kq246, q246a, q246b, q246c⟩ := isOf hZ rfl R193.exa
          obtain ⟨_, _, ⟨T246, L246, kc246, nc246⟩, -, X246, ⟨Lc246, hQ246, l246, y246, z246⟩, st246⟩ := X193.virtualBack hx (y := (⟨"com/example/tablewise/tablewise/propagation/WaitingRing", "take", "()I"⟩ : MethodName)) (z := (⟨"com/example/tablewise/tablewise/propagation/WaitingRing", "take", "()I"⟩ : MethodName)) hown (mvT hZ (hw _ (List.mem_of_getElem? (i := 29) rfl))) (mvT hZ (hw _ (List.mem_of_getElem? (i := 30) rfl))) (notFace_of_selects (args := #[]) (mvT hZ (hw _ (List.mem_of_getElem? (i := 32) rfl)))) (mvT hZ (hw _ (List.mem_of_getElem? (i := 32) rfl))) (mvT hZ (hw _ (List.mem_of_getElem? (i := 31) rfl))) (by decide) (backOf (W := 0) (rm5 l Z a0 hw [] b164 ra170 wa170 v162 n r175 ([r180, r185]) T193.heap n0 f245 ge_b164 gra170 gwa170 Rt244) hZ (hw _ (List.mem_of_getElem? (i := 33) rfl)) (hw _ (List.mem_of_getElem? (i := 2) rfl)) (by decide) (by decide)) q246a q246c (g := (mkF m 160 #[.val (.int p0), .val (.int p1), .val (.int p2), .val (.int p3), .val (.int p4), .val (.int p5), .val (.int v162), .val (.ref b164), .val (.int r175), .val (.int r180), .val (.int r185), .val (.int (3 : Int32)), .val (.int r180), .val (.int r185)] [(.ref b164)])) rfl (by rw [hml]; rfl) (Steps.refl _) (argsL := []) (rest := []) (lenOf pd_3 rfl) rfl (by show 2 * 0 + _ ≤ _; exact Nat.le_of_eq rfl) (hb hby at_160) (fun _ _ => ⟨rfl, rfl, (by decide : 3 + 0 ≤ _), (by decide : 12 + 0 ≤ _)⟩)
          dsimp only [Pt.U, Pt.locs, Pt.cells, Pt.slots] at X246 l246 y246 z246 st246 hQ246
          subst l246 y246 z246
          obtain ⟨rfl, Nq246, oK246, m0_246⟩ := hQ246
          have N246 := Fr.app N193 Nq246
          have R246 := m0_246
          have hc165_247 : r175 = r175 := rfl
          have Rt248 : own_Ring Z T246.heap b164 ra170 wa170 v162 n (r180 :: [r185]) := (by have q := R246; rw [show [r180, r185] = [r180, r185] from rfl] at q; exact q)
          have f249 := (Nat.le_trans f245 oK246.1)
          obtain ⟨cq250, kq250, q250a, q250b, q250c⟩ := isOf hZ rfl R246.exa
          obtain ⟨_, _, ⟨T250, L250, kc250, nc250⟩, -, X250, ⟨Lc250, hQ250, l250, y250, z250⟩, st250⟩ := X246.virtualBack hx (y := (⟨"com/example/tablewise/tablewise/propagation/WaitingRing", "take", "()I"⟩ : MethodName)) (z := (⟨"com/example/tablewise/tablewise/propagation/WaitingRing", "take", "()I"⟩ : MethodName)) hown (mvT hZ (hw _ (List.mem_of_getElem? (i := 29) rfl))) (mvT hZ (hw _ (List.mem_of_getElem? (i := 30) rfl))) (notFace_of_selects (args := #[]) (mvT hZ (hw _ (List.mem_of_getElem? (i := 32) rfl)))) (mvT hZ (hw _ (List.mem_of_getElem? (i := 32) rfl))) (mvT hZ (hw _ (List.mem_of_getElem? (i := 31) rfl))) (by decide) (backOf (W := 0) (rm5 l Z a0 hw [] b164 ra170 wa170 v162 n r180 ([r185]) T246.heap n0 f249 ge_b164 gra170 gwa170 Rt248) hZ (hw _ (List.mem_of_getElem? (i := 33) rfl)) (hw _ (List.mem_of_getElem? (i := 2) rfl)) (by decide) (by decide)) q250a q250c (g := (mkF m 178 #[.val (.int p0), .val (.int p1), .val (.int p2), .val (.int p3), .val (.int p4), .val (.int p5), .val (.int v162), .val (.ref b164), .val (.int r175), .val (.int r180), .val (.int r185), .val (.int (3 : Int32)), .val (.int r180), .val (.int r185)] [(.ref b164)])) rfl (by rw [hml]; rfl) (Steps.refl _) (argsL := []) (rest := []) (lenOf pd_3 rfl) rfl (by show 2 * 0 + _ ≤ _; exact Nat.le_of_eq rfl) (hb hby at_178) (fun _ _ => ⟨rfl, rfl, (by decide : 3 + 0 ≤ _), (by decide : 12 + 0 ≤ _)⟩)
          dsimp only [Pt.U, Pt.locs, Pt.cells, Pt.slots] at X250 l250 y250 z250 st250 hQ250
          subst l250 y250 z250
          obtain ⟨rfl, Nq250, oK250, m0_250⟩ := hQ250
          have N250 := Fr.app N246 Nq250
          have R250 := m0_250
          have hc183_251 : r180 = r180 := rfl
          have Rt252 : own_Ring Z T250.heap b164 ra170 wa170 v162 n (r185 :: ([] : List Int32)) := (by have q := R250; rw [show [r185] = [r185] from rfl] at q; exact q)
          have f253 := (Nat.le_trans f249 oK250.1)
          obtain ⟨cq254, kq254, q254a, q254b, q254c⟩ := isOf hZ rfl R250.exa
          obtain ⟨_, _, ⟨T254, L254, kc254, nc254⟩, -, X254, ⟨Lc254, hQ254, l254, y254, z254⟩, st254⟩ := X250.virtualBack hx (y := (⟨"com/example/tablewise/tablewise/propagation/WaitingRing", "take", "()I"⟩ : MethodName)) (z := (⟨"com/example/tablewise/tablewise/propagation/WaitingRing", "take", "()I"⟩ : MethodName)) hown (mvT hZ (hw _ (List.mem_of_getElem? (i := 29) rfl))) (mvT hZ (hw _ (List.mem_of_getElem? (i := 30) rfl))) (notFace_of_selects (args := #[]) (mvT hZ (hw _ (List.mem_of_getElem? (i := 32) rfl)))) (mvT hZ (hw _ (List.mem_of_getElem? (i := 32) rfl))) (mvT hZ (hw _ (List.mem_of_getElem? (i := 31) rfl))) (by decide) (backOf (W := 0) (rm5 l Z a0 hw [] b164 ra170 wa170 v162 n r185 ([] : List Int32) T250.heap n0 f253 ge_b164 gra170 gwa170 Rt252) hZ (hw _ (List.mem_of_getElem? (i := 33) rfl)) (hw _ (List.mem_of_getElem? (i := 2) rfl)) (by decide) (by decide)) q254a q254c (g := (mkF m 196 #[.val (.int p0), .val (.int p1), .val (.int p2), .val (.int p3), .val (.int p4), .val (.int p5), .val (.int v162), .val (.ref b164), .val (.int r175), .val (.int r180), .val (.int r185), .val (.int (3 : Int32)), .val (.int r180), .val (.int r185)] [(.ref b164)])) rfl (by rw [hml]; rfl) (Steps.refl _) (argsL := []) (rest := []) (lenOf pd_3 rfl) rfl (by show 2 * 0 + _ ≤ _; exact Nat.le_of_eq rfl) (hb hby at_196) (fun _ _ => ⟨rfl, rfl, (by decide : 3 + 0 ≤ _), (by decide : 12 + 0 ≤ _)⟩)
          dsimp only [Pt.U, Pt.locs, Pt.cells, Pt.slots] at X254 l254 y254 z254 st254 hQ254
          subst l254 y254 z254
          obtain ⟨rfl, Nq254, oK254, m0_254⟩ := hQ254
          have N254 := Fr.app N250 Nq254
          have R254 := m0_254
          have hc201_255 : r185 = r185 := rfl
          obtain ⟨cq256, kq256, q256a, q256b, q256c⟩ := isOf hZ rfl R254.exa
          obtain ⟨_, _, ⟨T256, L256, kc256, nc256⟩, -, X256, ⟨Lc256, hQ256, l256, y256, z256⟩, st256⟩ := X254.virtualBack hx (y := (⟨"com/example/tablewise/tablewise/propagation/WaitingRing", "isEmpty", "()Z"⟩ : MethodName)) (z := (⟨"com/example/tablewise/tablewise/propagation/WaitingRing", "isEmpty", "()Z"⟩ : MethodName)) hown (mvT hZ (hw _ (List.mem_of_getElem? (i := 34) rfl))) (mvT hZ (hw _ (List.mem_of_getElem? (i := 35) rfl))) (notFace_of_selects (args := #[]) (mvT hZ (hw _ (List.mem_of_getElem? (i := 37) rfl)))) (mvT hZ (hw _ (List.mem_of_getElem? (i := 37) rfl))) (mvT hZ (hw _ (List.mem_of_getElem? (i := 36) rfl))) (by decide) (backOf (W := 0) (rm6 l Z a0 hw [] b164 ra170 wa170 v162 n ([] : List Int32) T254.heap n0 R254) hZ (hw _ (List.mem_of_getElem? (i := 38) rfl)) (hw _ (List.mem_of_getElem? (i := 2) rfl)) (by decide) (by decide)) q256a q256c (g := (mkF m 208 #[.val (.int p0), .val (.int p1), .val (.int p2), .val (.int p3), .val (.int p4), .val (.int p5), .val (.int v162), .val (.ref b164), .val (.int r175), .val (.int r180), .val (.int r185), .val (.int (3 : Int32)), .val (.int r180), .val (.int r185)] [(.ref b164)])) rfl (by rw [hml]; rfl) (Steps.refl _) (argsL := []) (rest := []) (lenOf pd_4 rfl) rfl (by show 2 * 0 + _ ≤ _; exact Nat.le_of_eq rfl) (hb hby at_208) (fun _ _ => ⟨rfl, rfl, (by decide : 3 + 0 ≤ _), (by decide : 12 + 0 ≤ _)⟩)
          dsimp only [Pt.U, Pt.locs, Pt.cells, Pt.slots] at X256 l256 y256 z256 st256 hQ256
          subst l256 y256 z256
          obtain ⟨rfl, Nq256, eq256⟩ := hQ256
          have N256 := Fr.app N254 Nq256
          have k257 : ∀ tg_, Steps p.tables e below (T256.setTop (mkF m 211 #[.val (.int p0), .val (.int p1), .val (.int p2), .val (.int p3), .val (.int p4), .val (.int p5), .val (.int v162), .val (.ref b164), .val (.int r175), .val (.int r180), .val (.int r185), .val (.int (3 : Int32)), .val (.int r180), .val (.int r185)] [(.int (if ([] : List Int32).length = 0 then (1 : Int32) else (0 : Int32)))])) tg_ → Steps p.tables e below (s₁.setTop (entryFrame m #[(.int p0), (.int p1), (.int p2), (.int p3), (.int p4), (.int p5)] maxLocals)) tg_ := by
            intro tg_ kt
            refine k230 tg_ ?_
            refine XS.icmpNo X193.here hx rfl (hb hby at_132) rfl (feq hc132_231).1 ?_
            show Steps p.tables e below (T193.setTop (mkF m 135 #[.val (.int p0), .val (.int p1), .val (.int p2), .val (.int p3), .val (.int p4), .val (.int p5), .val (.int v162), .val (.ref b164), .val (.int r175), .val (.int r180), .val (.int r185), .val (.int (2 : Int32)), .val (.int r180), .val (.int (0 : Int32))] [])) _
            refine XS.iload X193.here hx rfl (hb hby at_135) rfl ?_
            show Steps p.tables e below (T193.setTop (mkF m 137 #[.val (.int p0), .val (.int p1), .val (.int p2), .val (.int p3), .val (.int p4), .val (.int p5), .val (.int v162), .val (.ref b164), .val (.int r175), .val (.int r180), .val (.int r185), .val (.int (2 : Int32)), .val (.int r180), .val (.int (0 : Int32))] [(.int (2 : Int32))])) _
            refine XS.iconst X193.here hx rfl (hb hby at_137) ?_
            show Steps p.tables e below (T193.setTop (mkF m 138 #[.val (.int p0), .val (.int p1), .val (.int p2), .val (.int p3), .val (.int p4), .val (.int p5), .val (.int v162), .val (.ref b164), .val (.int r175), .val (.int r180), .val (.int r185), .val (.int (2 : Int32)), .val (.int r180), .val (.int (0 : Int32))] [(.int (1 : Int32)), (.int (2 : Int32))])) _
            refine XS.icmpYes X193.here hx rfl (pc0 := 138) (pc' := 148) rfl (hb hby at_138) rfl (feq (by decide : ¬ ((2 : Int32) = (1 : Int32)))).2 (by decide) (by decide) ?_
            show Steps p.tables e below (T193.setTop (mkF m 148 #[.val (.int p0), .val (.int p1), .val (.int p2), .val (.int p3), .val (.int p4), .val (.int p5), .val (.int v162), .val (.ref b164), .val (.int r175), .val (.int r180), .val (.int r185), .val (.int (2 : Int32)), .val (.int r180), .val (.int (0 : Int32))] [])) _
            refine XS.iload X193.here hx rfl (hb hby at_148) rfl ?_
            show Steps p.tables e below (T193.setTop (mkF m 150 #[.val (.int p0), .val (.int p1), .val (.int p2), .val (.int p3), .val (.int p4), .val (.int p5), .val (.int v162), .val (.ref b164), .val (.int r175), .val (.int r180), .val (.int r185), .val (.int (2 : Int32)), .val (.int r180), .val (.int (0 : Int32))] [(.int r185)])) _
            refine XS.istore X193.here hx rfl (hb hby at_150) rfl (l' := #[.val (.int p0), .val (.int p1), .val (.int p2), .val (.int p3), .val (.int p4), .val (.int p5), .val (.int v162), .val (.ref b164), .val (.int r175), .val (.int r180), .val (.int r185), .val (.int (2 : Int32)), .val (.int r180), .val (.int r185)]) rfl ?_
            show Steps p.tables e below (T193.setTop (mkF m 152 #[.val (.int p0), .val (.int p1), .val (.int p2), .val (.int p3), .val (.int p4), .val (.int p5), .val (.int v162), .val (.ref b164), .val (.int r175), .val (.int r180), .val (.int r185), .val (.int (2 : Int32)), .val (.int r180), .val (.int r185)] [])) _
            refine XS.iload X193.here hx rfl (hb hby at_152) rfl ?_
            show Steps p.tables e below (T193.setTop (mkF m 154 #[.val (.int p0), .val (.int p1), .val (.int p2), .val (.int p3), .val (.int p4), .val (.int p5), .val (.int v162), .val (.ref b164), .val (.int r175), .val (.int r180), .val (.int r185), .val (.int (2 : Int32)), .val (.int r180), .val (.int r185)] [(.int (2 : Int32))])) _
            refine XS.iconst X193.here hx rfl (hb hby at_154) ?_
            show Steps p.tables e below (T193.setTop (mkF m 155 #[.val (.int p0), .val (.int p1), .val (.int p2), .val (.int p3), .val (.int p4), .val (.int p5), .val (.int v162), .val (.ref b164), .val (.int r175), .val (.int r180), .val (.int r185), .val (.int (2 : Int32)), .val (.int r180), .val (.int r185)] [(.int (1 : Int32)), (.int (2 : Int32))])) _
            refine XS.iadd X193.here hx rfl (hb hby at_155) rfl ?_
            show Steps p.tables e below (T193.setTop (mkF m 156 #[.val (.int p0), .val (.int p1), .val (.int p2), .val (.int p3), .val (.int p4), .val (.int p5), .val (.int v162), .val (.ref b164), .val (.int r175), .val (.int r180), .val (.int r185), .val (.int (2 : Int32)), .val (.int r180), .val (.int r185)] [(.int (3 : Int32))])) _
            refine XS.istore X193.here hx rfl (hb hby at_156) rfl (l' := #[.val (.int p0), .val (.int p1), .val (.int p2), .val (.int p3), .val (.int p4), .val (.int p5), .val (.int v162), .val (.ref b164), .val (.int r175), .val (.int r180), .val (.int r185), .val (.int (3 : Int32)), .val (.int r180), .val (.int r185)]) rfl ?_
            show Steps p.tables e below (T193.setTop (mkF m 158 #[.val (.int p0), .val (.int p1), .val (.int p2), .val (.int p3), .val (.int p4), .val (.int p5), .val (.int v162), .val (.ref b164), .val (.int r175), .val (.int r180), .val (.int r185), .val (.int (3 : Int32)), .val (.int r180), .val (.int r185)] [])) _
            refine XS.aload X193.here hx rfl (hb hby at_158) rfl rfl ?_
            show Steps p.tables e below (T193.setTop (mkF m 160 #[.val (.int p0), .val (.int p1), .val (.int p2), .val (.int p3), .val (.int p4), .val (.int p5), .val (.int v162), .val (.ref b164), .val (.int r175), .val (.int r180), .val (.int r185), .val (.int (3 : Int32)), .val (.int r180), .val (.int r185)] [(.ref b164)])) _
            refine st246.trans ?_
            show Steps p.tables e below (T246.setTop (mkF m 163 #[.val (.int p0), .val (.int p1), .val (.int p2), .val (.int p3), .val (.int p4), .val (.int p5), .val (.int v162), .val (.ref b164), .val (.int r175), .val (.int r180), .val (.int r185), .val (.int (3 : Int32)), .val (.int r180), .val (.int r185)] [(.int r175)])) _
            refine XS.iload X246.here hx rfl (hb hby at_163) rfl ?_
            show Steps p.tables e below (T246.setTop (mkF m 165 #[.val (.int p0), .val (.int p1), .val (.int p2), .val (.int p3), .val (.int p4), .val (.int p5), .val (.int v162), .val (.ref b164), .val (.int r175), .val (.int r180), .val (.int r185), .val (.int (3 : Int32)), .val (.int r180), .val (.int r185)] [(.int r175), (.int r175)])) _
            refine XS.icmpYes X246.here hx rfl (pc0 := 165) (pc' := 170) rfl (hb hby at_165) rfl (teq hc165_247).1 (by decide) (by decide) ?_
            show Steps p.tables e below (T246.setTop (mkF m 170 #[.val (.int p0), .val (.int p1), .val (.int p2), .val (.int p3), .val (.int p4), .val (.int p5), .val (.int v162), .val (.ref b164), .val (.int r175), .val (.int r180), .val (.int r185), .val (.int (3 : Int32)), .val (.int r180), .val (.int r185)] [])) _
            refine XS.iload X246.here hx rfl (hb hby at_170) rfl ?_
            show Steps p.tables e below (T246.setTop (mkF m 172 #[.val (.int p0), .val (.int p1), .val (.int p2), .val (.int p3), .val (.int p4), .val (.int p5), .val (.int v162), .val (.ref b164), .val (.int r175), .val (.int r180), .val (.int r185), .val (.int (3 : Int32)), .val (.int r180), .val (.int r185)] [(.int (3 : Int32))])) _
            refine XS.iconst X246.here hx rfl (hb hby at_172) ?_
            show Steps p.tables e below (T246.setTop (mkF m 173 #[.val (.int p0), .val (.int p1), .val (.int p2), .val (.int p3), .val (.int p4), .val (.int p5), .val (.int v162), .val (.ref b164), .val (.int r175), .val (.int r180), .val (.int r185), .val (.int (3 : Int32)), .val (.int r180), .val (.int r185)] [(.int (2 : Int32)), (.int (3 : Int32))])) _
            refine XS.icmpNo X246.here hx rfl (hb hby at_173) rfl (flt (by decide : ¬ ((3 : Int32) < (2 : Int32)))).1 ?_
            show Steps p.tables e below (T246.setTop (mkF m 176 #[.val (.int p0), .val (.int p1), .val (.int p2), .val (.int p3), .val (.int p4), .val (.int p5), .val (.int v162), .val (.ref b164), .val (.int r175), .val (.int r180), .val (.int r185), .val (.int (3 : Int32)), .val (.int r180), .val (.int r185)] [])) _
            refine XS.aload X246.here hx rfl (hb hby at_176) rfl rfl ?_
            show Steps p.tables e below (T246.setTop (mkF m 178 #[.val (.int p0), .val (.int p1), .val (.int p2), .val (.int p3), .val (.int p4), .val (.int p5), .val (.int v162), .val (.ref b164), .val (.int r175), .val (.int r180), .val (.int r185), .val (.int (3 : Int32)), .val (.int r180), .val (.int r185)] [(.ref b164)])) _
            refine st250.trans ?_
            show Steps p.tables e below (T250.setTop (mkF m 181 #[.val (.int p0), .val (.int p1), .val (.int p2), .val (.int p3), .val (.int p4), .val (.int p5), .val (.int v162), .val (.ref b164), .val (.int r175), .val (.int r180), .val (.int r185), .val (.int (3 : Int32)), .val (.int r180), .val (.int r185)] [(.int r180)])) _
            refine XS.iload X250.here hx rfl (hb hby at_181) rfl ?_
            show Steps p.tables e below (T250.setTop (mkF m 183 #[.val (.int p0), .val (.int p1), .val (.int p2), .val (.int p3), .val (.int p4), .val (.int p5), .val (.int v162), .val (.ref b164), .val (.int r175), .val (.int r180), .val (.int r185), .val (.int (3 : Int32)), .val (.int r180), .val (.int r185)] [(.int r180), (.int r180)])) _
            refine XS.icmpYes X250.here hx rfl (pc0 := 183) (pc' := 188) rfl (hb hby at_183) rfl (teq hc183_251).1 (by decide) (by decide) ?_
            show Steps p.tables e below (T250.setTop (mkF m 188 #[.val (.int p0), .val (.int p1), .val (.int p2), .val (.int p3), .val (.int p4), .val (.int p5), .val (.int v162), .val (.ref b164), .val (.int r175), .val (.int r180), .val (.int r185), .val (.int (3 : Int32)), .val (.int r180), .val (.int r185)] [])) _
            refine XS.iload X250.here hx rfl (hb hby at_188) rfl ?_
            show Steps p.tables e below (T250.setTop (mkF m 190 #[.val (.int p0), .val (.int p1), .val (.int p2), .val (.int p3), .val (.int p4), .val (.int p5), .val (.int v162), .val (.ref b164), .val (.int r175), .val (.int r180), .val (.int r185), .val (.int (3 : Int32)), .val (.int r180), .val (.int r185)] [(.int (3 : Int32))])) _
            refine XS.iconst X250.here hx rfl (hb hby at_190) ?_
            show Steps p.tables e below (T250.setTop (mkF m 191 #[.val (.int p0), .val (.int p1), .val (.int p2), .val (.int p3), .val (.int p4), .val (.int p5), .val (.int v162), .val (.ref b164), .val (.int r175), .val (.int r180), .val (.int r185), .val (.int (3 : Int32)), .val (.int r180), .val (.int r185)] [(.int (3 : Int32)), (.int (3 : Int32))])) _
            refine XS.icmpNo X250.here hx rfl (hb hby at_191) rfl (flt (by decide : ¬ ((3 : Int32) < (3 : Int32)))).1 ?_
            show Steps p.tables e below (T250.setTop (mkF m 194 #[.val (.int p0), .val (.int p1), .val (.int p2), .val (.int p3), .val (.int p4), .val (.int p5), .val (.int v162), .val (.ref b164), .val (.int r175), .val (.int r180), .val (.int r185), .val (.int (3 : Int32)), .val (.int r180), .val (.int r185)] [])) _
            refine XS.aload X250.here hx rfl (hb hby at_194) rfl rfl ?_
            show Steps p.tables e below (T250.setTop (mkF m 196 #[.val (.int p0), .val (.int p1), .val (.int p2), .val (.int p3), .val (.int p4), .val (.int p5), .val (.int v162), .val (.ref b164), .val (.int r175), .val (.int r180), .val (.int r185), .val (.int (3 : Int32)), .val (.int r180), .val (.int r185)] [(.ref b164)])) _
            refine st254.trans ?_
            show Steps p.tables e below (T254.setTop (mkF m 199 #[.val (.int p0), .val (.int p1), .val (.int p2), .val (.int p3), .val (.int p4), .val (.int p5), .val (.int v162), .val (.ref b164), .val (.int r175), .val (.int r180), .val (.int r185), .val (.int (3 : Int32)), .val (.int r180), .val (.int r185)] [(.int r185)])) _
            refine XS.iload X254.here hx rfl (hb hby at_199) rfl ?_
            show Steps p.tables e below (T254.setTop (mkF m 201 #[.val (.int p0), .val (.int p1), .val (.int p2), .val (.int p3), .val (.int p4), .val (.int p5), .val (.int v162), .val (.ref b164), .val (.int r175), .val (.int r180), .val (.int r185), .val (.int (3 : Int32)), .val (.int r180), .val (.int r185)] [(.int r185), (.int r185)])) _
            refine XS.icmpYes X254.here hx rfl (pc0 := 201) (pc' := 206) rfl (hb hby at_201) rfl (teq hc201_255).1 (by decide) (by decide) ?_
            show Steps p.tables e below (T254.setTop (mkF m 206 #[.val (.int p0), .val (.int p1), .val (.int p2), .val (.int p3), .val (.int p4), .val (.int p5), .val (.int v162), .val (.ref b164), .val (.int r175), .val (.int r180), .val (.int r185), .val (.int (3 : Int32)), .val (.int r180), .val (.int r185)] [])) _
            refine XS.aload X254.here hx rfl (hb hby at_206) rfl rfl ?_
            show Steps p.tables e below (T254.setTop (mkF m 208 #[.val (.int p0), .val (.int p1), .val (.int p2), .val (.int p3), .val (.int p4), .val (.int p5), .val (.int v162), .val (.ref b164), .val (.int r175), .val (.int r180), .val (.int r185), .val (.int (3 : Int32)), .val (.int r180), .val (.int r185)] [(.ref b164)])) _
            refine st256.trans ?_
            show Steps p.tables e below (T256.setTop (mkF m 211 #[.val (.int p0), .val (.int p1), .val (.int p2), .val (.int p3), .val (.int p4), .val (.int p5), .val (.int v162), .val (.ref b164), .val (.int r175), .val (.int r180), .val (.int r185), .val (.int (3 : Int32)), .val (.int r180), .val (.int r185)] [(.int (if ([] : List Int32).length = 0 then (1 : Int32) else (0 : Int32)))])) _
            exact kt
          obtain ⟨fs, hr, hrun, hended, hW, hsame⟩ := X256.leave (v := some (.int (nar .boolean (if ([] : List Int32).length = 0 then (1 : Int32) else (0 : Int32))))) (fun h => by rw [Bd.returns] at h; cases h)
          refine ⟨_, _, k257 _ (retN X256 hx (t := .boolean) Bd.returns (by simp) (hb hby at_211) hr), hrun, hended, _, _, rfl, ?_, ⟨_, rfl⟩, hW, hsame.mono (by decide) (by decide)⟩
          show Q0 Z p0 p1 p2 p3 p4 p5 h0 n0 _ T256.heap _
          rw [eq256]
          exact ⟨rfl, N256⟩
  · obtain ⟨_, _, ⟨T258, L258, kc258, nc258⟩, -, X258, ⟨Lc258, hQ258, l258, y258, z258⟩, st258⟩ := Jvm.LawKit.callS X170 hx (y := (⟨"com/example/tablewise/tablewise/propagation/WaitingRingAddPinLaw", "mod", "(II)I"⟩ : MethodName)) hown (mvT hZ (hw _ (List.mem_of_getElem? (i := 15) rfl))) (mvT hZ (hw _ (List.mem_of_getElem? (i := 16) rfl))) (mvT hZ (hw _ (List.mem_of_getElem? (i := 17) rfl))) (mvT hZ (hw _ (List.mem_of_getElem? (i := 18) rfl))) (by decide) (backOf (W := 0) (rm3 l Z a0 hw [] p2 v162 T170.heap n0 hnz) hZ (hw _ (List.mem_of_getElem? (i := 18) rfl)) (hw _ (List.mem_of_getElem? (i := 17) rfl)) (by decide) (by decide)) (g := (mkF m 27 #[.val (.int p0), .val (.int p1), .val (.int p2), .val (.int p3), .val (.int p4), .val (.int p5), .val (.int v162), .val (.ref b164), .unset, .unset, .unset, .unset, .unset, .unset] [(.int v162), (.int p2)])) rfl (by rw [hml]; rfl) (argsL := [(.int p2), (.int v162)]) (rest := []) (lenOf pd_2 rfl) rfl (by show 2 * 0 + _ ≤ _; exact Nat.le_of_eq rfl) (hb hby at_27) (fun _ _ => ⟨rfl, rfl, (by decide : 3 + 0 ≤ _), (by decide : 12 + 0 ≤ _)⟩)
    dsimp only [Pt.U, Pt.locs, Pt.cells, Pt.slots] at X258 l258 y258 z258 st258 hQ258
    subst l258 y258 z258
    obtain ⟨rfl, Nq258, eq258⟩ := hQ258
    have N258 := Fr.app N170 Nq258
    have k259 : ∀ tg_, Steps p.tables e below (T258.setTop (mkF m 30 #[.val (.int p0), .val (.int p1), .val (.int p2), .val (.int p3), .val (.int p4), .val (.int p5), .val (.int v162), .val (.ref b164), .unset, .unset, .unset, .unset, .unset, .unset] [(.int (own_mod p2 v162))])) tg_ → Steps p.tables e below (s₁.setTop (entryFrame m #[(.int p0), (.int p1), (.int p2), (.int p3), (.int p4), (.int p5)] maxLocals)) tg_ := by
      intro tg_ kt
      refine k171 tg_ ?_
      refine XS.ifNo X170.here hx rfl (hb hby at_21) rfl ((if0 _ _).trans (feq hc21_172).1) ?_
      show Steps p.tables e below (T170.setTop (mkF m 24 #[.val (.int p0), .val (.int p1), .val (.int p2), .val (.int p3), .val (.int p4), .val (.int p5), .val (.int v162), .val (.ref b164), .unset, .unset, .unset, .unset, .unset, .unset] [])) _
      refine XS.iloadN X170.here hx rfl (hb hby at_24) rfl ?_
      show Steps p.tables e below (T170.setTop (mkF m 25 #[.val (.int p0), .val (.int p1), .val (.int p2), .val (.int p3), .val (.int p4), .val (.int p5), .val (.int v162), .val (.ref b164), .unset, .unset, .unset, .unset, .unset, .unset] [(.int p2)])) _
      refine XS.iload X170.here hx rfl (hb hby at_25) rfl ?_
      show Steps p.tables e below (T170.setTop (mkF m 27 #[.val (.int p0), .val (.int p1), .val (.int p2), .val (.int p3), .val (.int p4), .val (.int p5), .val (.int v162), .val (.ref b164), .unset, .unset, .unset, .unset, .unset, .unset] [(.int v162), (.int p2)])) _
      refine st258 _ ?_
      show Steps p.tables e below (T258.setTop (mkF m 30 #[.val (.int p0), .val (.int p1), .val (.int p2), .val (.int p3), .val (.int p4), .val (.int p5), .val (.int v162), .val (.ref b164), .unset, .unset, .unset, .unset, .unset, .unset] [(.int (own_mod p2 v162))])) _
      exact kt
    obtain ⟨r260, hr260⟩ : ∃ z : Int32, z = (own_mod p2 v162) := ⟨_, rfl⟩
    rw [← hr260] at k259
    have k261 : ∀ tg_, Steps p.tables e below (T258.setTop (mkF m 30 #[.val (.int p0), .val (.int p1), .val (.int p2), .val (.int p3), .val (.int p4), .val (.int p5), .val (.int v162), .val (.ref b164), .unset, .unset, .unset, .unset, .unset, .unset] [(.int r260)])) tg_ → Steps p.tables e below (s₁.setTop (entryFrame m #[(.int p0), (.int p1), (.int p2), (.int p3), (.int p4), (.int p5)] maxLocals)) tg_ := by
      intro tg_ kt
      refine k259 tg_ ?_
      show Steps p.tables e below (T258.setTop (mkF m 30 #[.val (.int p0), .val (.int p1), .val (.int p2), .val (.int p3), .val (.int p4), .val (.int p5), .val (.int v162), .val (.ref b164), .unset, .unset, .unset, .unset, .unset, .unset] [(.int r260)])) _
      exact kt
    obtain ⟨k262, hk262, hl262⟩ : ∃ k : Nat, r260.toInt = (k : Int) ∧ k < n := by rw [hr260]; exact own_modk hnn hn1
    have f263 := (Nat.le_trans f169 oK170.1)
    obtain ⟨cq264, kq264, q264a, q264b, q264c⟩ := isOf hZ eq258 R170.exa
    obtain ⟨_, _, ⟨T264, L264, kc264, nc264⟩, -, X264, ⟨Lc264, hQ264, l264, y264, z264⟩, st264⟩ := X258.virtualBack hx (y := (⟨"com/example/tablewise/tablewise/propagation/WaitingRing", "add", "(I)V"⟩ : MethodName)) (z := (⟨"com/example/tablewise/tablewise/propagation/WaitingRing", "add", "(I)V"⟩ : MethodName)) hown (mvT hZ (hw _ (List.mem_of_getElem? (i := 20) rfl))) (mvT hZ (hw _ (List.mem_of_getElem? (i := 21) rfl))) (notFace_of_selects (args := #[]) (mvT hZ (hw _ (List.mem_of_getElem? (i := 23) rfl)))) (mvT hZ (hw _ (List.mem_of_getElem? (i := 23) rfl))) (mvT hZ (hw _ (List.mem_of_getElem? (i := 22) rfl))) (by decide) (backOf (W := 0) (rm4 l Z a0 hw [] b164 r260 ra170 wa170 v162 n ([] : List Int32) k262 T170.heap n0 f263 ge_b164 gra170 gwa170 R170 hk262 hl262) hZ (hw _ (List.mem_of_getElem? (i := 24) rfl)) (hw _ (List.mem_of_getElem? (i := 2) rfl)) (by decide) (by decide)) q264a q264c (g := (mkF m 36 #[.val (.int p0), .val (.int p1), .val (.int p2), .val (.int p3), .val (.int p4), .val (.int p5), .val (.int v162), .val (.ref b164), .val (.int r260), .unset, .unset, .unset, .unset, .unset] [(.int r260), (.ref b164)])) rfl (by rw [hml]; rfl) (Steps.refl _) (argsL := [(.int r260)]) (rest := []) (lenOf pd_0 rfl) rfl (by show 2 * 0 + _ ≤ _; exact Nat.le_of_eq rfl) (hb hby at_36) (fun _ _ => ⟨rfl, eq258, (by decide : 3 + 0 ≤ _), (by decide : 12 + 0 ≤ _)⟩)
    dsimp only [Pt.U, Pt.locs, Pt.cells, Pt.slots] at X264 l264 y264 z264 st264 hQ264
    subst l264 y264 z264
    obtain ⟨rfl, Nq264, oK264, m0_264⟩ := hQ264
    have N264 := Fr.app N258 Nq264
    have R264 := m0_264
    have Rt265 : own_Ring Z T264.heap b164 ra170 wa170 v162 n (r260 :: ([] : List Int32)) := (by have q := R264; rw [show (own_add ([] : List Int32) r260) = [r260] from rfl] at q; exact q)
    have f266 := (Nat.le_trans f263 oK264.1)
    obtain ⟨cq267, kq267, q267a, q267b, q267c⟩ := isOf hZ rfl R264.exa
    obtain ⟨_, _, ⟨T267, L267, kc267, nc267⟩, -, X267, ⟨Lc267, hQ267, l267, y267, z267⟩, st267⟩ := X264.virtualBack hx (y := (⟨"com/example/tablewise/tablewise/propagation/WaitingRing", "take", "()I"⟩ : MethodName)) (z := (⟨"com/example/tablewise/tablewise/propagation/WaitingRing", "take", "()I"⟩ : MethodName)) hown (mvT hZ (hw _ (List.mem_of_getElem? (i := 29) rfl))) (mvT hZ (hw _ (List.mem_of_getElem? (i := 30) rfl))) (notFace_of_selects (args := #[]) (mvT hZ (hw _ (List.mem_of_getElem? (i := 32) rfl)))) (mvT hZ (hw _ (List.mem_of_getElem? (i := 32) rfl))) (mvT hZ (hw _ (List.mem_of_getElem? (i := 31) rfl))) (by decide) (backOf (W := 0) (rm5 l Z a0 hw [] b164 ra170 wa170 v162 n r260 ([] : List Int32) T264.heap n0 f266 ge_b164 gra170 gwa170 Rt265) hZ (hw _ (List.mem_of_getElem? (i := 33) rfl)) (hw _ (List.mem_of_getElem? (i := 2) rfl)) (by decide) (by decide)) q267a q267c (g := (mkF m 41 #[.val (.int p0), .val (.int p1), .val (.int p2), .val (.int p3), .val (.int p4), .val (.int p5), .val (.int v162), .val (.ref b164), .val (.int r260), .unset, .unset, .unset, .unset, .unset] [(.ref b164)])) rfl (by rw [hml]; rfl) (Steps.refl _) (argsL := []) (rest := []) (lenOf pd_3 rfl) rfl (by show 2 * 0 + _ ≤ _; exact Nat.le_of_eq rfl) (hb hby at_41) (fun _ _ => ⟨rfl, rfl, (by decide : 3 + 0 ≤ _), (by decide : 12 + 0 ≤ _)⟩)
    dsimp only [Pt.U, Pt.locs, Pt.cells, Pt.slots] at X267 l267 y267 z267 st267 hQ267
    subst l267 y267 z267
    obtain ⟨rfl, Nq267, oK267, m0_267⟩ := hQ267
    have N267 := Fr.app N264 Nq267
    have R267 := m0_267
    have hc46_268 : r260 = r260 := rfl
    obtain ⟨_, _, ⟨T269, L269, kc269, nc269⟩, -, X269, ⟨Lc269, hQ269, l269, y269, z269⟩, st269⟩ := Jvm.LawKit.callS X267 hx (y := (⟨"com/example/tablewise/tablewise/propagation/WaitingRingAddPinLaw", "mod", "(II)I"⟩ : MethodName)) hown (mvT hZ (hw _ (List.mem_of_getElem? (i := 15) rfl))) (mvT hZ (hw _ (List.mem_of_getElem? (i := 16) rfl))) (mvT hZ (hw _ (List.mem_of_getElem? (i := 17) rfl))) (mvT hZ (hw _ (List.mem_of_getElem? (i := 18) rfl))) (by decide) (backOf (W := 0) (rm3 l Z a0 hw [] p3 v162 T267.heap n0 hnz) hZ (hw _ (List.mem_of_getElem? (i := 18) rfl)) (hw _ (List.mem_of_getElem? (i := 17) rfl)) (by decide) (by decide)) (g := (mkF m 54 #[.val (.int p0), .val (.int p1), .val (.int p2), .val (.int p3), .val (.int p4), .val (.int p5), .val (.int v162), .val (.ref b164), .val (.int r260), .unset, .unset, .unset, .unset, .unset] [(.int v162), (.int p3)])) rfl (by rw [hml]; rfl) (argsL := [(.int p3), (.int v162)]) (rest := []) (lenOf pd_2 rfl) rfl (by show 2 * 0 + _ ≤ _; exact Nat.le_of_eq rfl) (hb hby at_54) (fun _ _ => ⟨rfl, rfl, (by decide : 3 + 0 ≤ _), (by decide : 12 + 0 ≤ _)⟩)
    dsimp only [Pt.U, Pt.locs, Pt.cells, Pt.slots] at X269 l269 y269 z269 st269 hQ269
    subst l269 y269 z269
    obtain ⟨rfl, Nq269, eq269⟩ := hQ269
    have N269 := Fr.app N267 Nq269
    have k270 : ∀ tg_, Steps p.tables e below (T269.setTop (mkF m 57 #[.val (.int p0), .val (.int p1), .val (.int p2), .val (.int p3), .val (.int p4), .val (.int p5), .val (.int v162), .val (.ref b164), .val (.int r260), .unset, .unset, .unset, .unset, .unset] [(.int (own_mod p3 v162))])) tg_ → Steps p.tables e below (s₁.setTop (entryFrame m #[(.int p0), (.int p1), (.int p2), (.int p3), (.int p4), (.int p5)] maxLocals)) tg_ := by
      intro tg_ kt
      refine k261 tg_ ?_
      refine XS.istore X258.here hx rfl (hb hby at_30) rfl (l' := #[.val (.int p0), .val (.int p1), .val (.int p2), .val (.int p3), .val (.int p4), .val (.int p5), .val (.int v162), .val (.ref b164), .val (.int r260), .unset, .unset, .unset, .unset, .unset]) rfl ?_
      show Steps p.tables e below (T258.setTop (mkF m 32 #[.val (.int p0), .val (.int p1), .val (.int p2), .val (.int p3), .val (.int p4), .val (.int p5), .val (.int v162), .val (.ref b164), .val (.int r260), .unset, .unset, .unset, .unset, .unset] [])) _
      refine XS.aload X258.here hx rfl (hb hby at_32) rfl rfl ?_
      show Steps p.tables e below (T258.setTop (mkF m 34 #[.val (.int p0), .val (.int p1), .val (.int p2), .val (.int p3), .val (.int p4), .val (.int p5), .val (.int v162), .val (.ref b164), .val (.int r260), .unset, .unset, .unset, .unset, .unset] [(.ref b164)])) _
      refine XS.iload X258.here hx rfl (hb hby at_34) rfl ?_
      show Steps p.tables e below (T258.setTop (mkF m 36 #[.val (.int p0), .val (.int p1), .val (.int p2), .val (.int p3), .val (.int p4), .val (.int p5), .val (.int v162), .val (.ref b164), .val (.int r260), .unset, .unset, .unset, .unset, .unset] [(.int r260), (.ref b164)])) _
      refine st264.trans ?_
      show Steps p.tables e below (T264.setTop (mkF m 39 #[.val (.int p0), .val (.int p1), .val (.int p2), .val (.int p3), .val (.int p4), .val (.int p5), .val (.int v162), .val (.ref b164), .val (.int r260), .unset, .unset, .unset, .unset, .unset] [])) _
      refine XS.aload X264.here hx rfl (hb hby at_39) rfl rfl ?_
      show Steps p.tables e below (T264.setTop (mkF m 41 #[.val (.int p0), .val (.int p1), .val (.int p2), .val (.int p3), .val (.int p4), .val (.int p5), .val (.int v162), .val (.ref b164), .val (.int r260), .unset, .unset, .unset, .unset, .unset] [(.ref b164)])) _
      refine st267.trans ?_
      show Steps p.tables e below (T267.setTop (mkF m 44 #[.val (.int p0), .val (.int p1), .val (.int p2), .val (.int p3), .val (.int p4), .val (.int p5), .val (.int v162), .val (.ref b164), .val (.int r260), .unset, .unset, .unset, .unset, .unset] [(.int r260)])) _
      refine XS.iload X267.here hx rfl (hb hby at_44) rfl ?_
      show Steps p.tables e below (T267.setTop (mkF m 46 #[.val (.int p0), .val (.int p1), .val (.int p2), .val (.int p3), .val (.int p4), .val (.int p5), .val (.int v162), .val (.ref b164), .val (.int r260), .unset, .unset, .unset, .unset, .unset] [(.int r260), (.int r260)])) _
      refine XS.icmpYes X267.here hx rfl (pc0 := 46) (pc' := 51) rfl (hb hby at_46) rfl (teq hc46_268).1 (by decide) (by decide) ?_
      show Steps p.tables e below (T267.setTop (mkF m 51 #[.val (.int p0), .val (.int p1), .val (.int p2), .val (.int p3), .val (.int p4), .val (.int p5), .val (.int v162), .val (.ref b164), .val (.int r260), .unset, .unset, .unset, .unset, .unset] [])) _
      refine XS.iloadN X267.here hx rfl (hb hby at_51) rfl ?_
      show Steps p.tables e below (T267.setTop (mkF m 52 #[.val (.int p0), .val (.int p1), .val (.int p2), .val (.int p3), .val (.int p4), .val (.int p5), .val (.int v162), .val (.ref b164), .val (.int r260), .unset, .unset, .unset, .unset, .unset] [(.int p3)])) _
      refine XS.iload X267.here hx rfl (hb hby at_52) rfl ?_
      show Steps p.tables e below (T267.setTop (mkF m 54 #[.val (.int p0), .val (.int p1), .val (.int p2), .val (.int p3), .val (.int p4), .val (.int p5), .val (.int v162), .val (.ref b164), .val (.int r260), .unset, .unset, .unset, .unset, .unset] [(.int v162), (.int p3)])) _
      refine st269 _ ?_
      show Steps p.tables e below (T269.setTop (mkF m 57 #[.val (.int p0), .val (.int p1), .val (.int p2), .val (.int p3), .val (.int p4), .val (.int p5), .val (.int v162), .val (.ref b164), .val (.int r260), .unset, .unset, .unset, .unset, .unset] [(.int (own_mod p3 v162))])) _
      exact kt
    obtain ⟨r271, hr271⟩ : ∃ z : Int32, z = (own_mod p3 v162) := ⟨_, rfl⟩
    rw [← hr271] at k270
    have k272 : ∀ tg_, Steps p.tables e below (T269.setTop (mkF m 57 #[.val (.int p0), .val (.int p1), .val (.int p2), .val (.int p3), .val (.int p4), .val (.int p5), .val (.int v162), .val (.ref b164), .val (.int r260), .unset, .unset, .unset, .unset, .unset] [(.int r271)])) tg_ → Steps p.tables e below (s₁.setTop (entryFrame m #[(.int p0), (.int p1), (.int p2), (.int p3), (.int p4), (.int p5)] maxLocals)) tg_ := by
      intro tg_ kt
      refine k270 tg_ ?_
      show Steps p.tables e below (T269.setTop (mkF m 57 #[.val (.int p0), .val (.int p1), .val (.int p2), .val (.int p3), .val (.int p4), .val (.int p5), .val (.int v162), .val (.ref b164), .val (.int r260), .unset, .unset, .unset, .unset, .unset] [(.int r271)])) _
      exact kt
    obtain ⟨k273, hk273, hl273⟩ : ∃ k : Nat, r271.toInt = (k : Int) ∧ k < n := by rw [hr271]; exact own_modk hnn hn1
    obtain ⟨_, _, ⟨T274, L274, kc274, nc274⟩, -, X274, ⟨Lc274, hQ274, l274, y274, z274⟩, st274⟩ := Jvm.LawKit.callS X269 hx (y := (⟨"com/example/tablewise/tablewise/propagation/WaitingRingAddPinLaw", "mod", "(II)I"⟩ : MethodName)) hown (mvT hZ (hw _ (List.mem_of_getElem? (i := 15) rfl))) (mvT hZ (hw _ (List.mem_of_getElem? (i := 16) rfl))) (mvT hZ (hw _ (List.mem_of_getElem? (i := 17) rfl))) (mvT hZ (hw _ (List.mem_of_getElem? (i := 18) rfl))) (by decide) (backOf (W := 0) (rm3 l Z a0 hw [] p4 v162 T267.heap n0 hnz) hZ (hw _ (List.mem_of_getElem? (i := 18) rfl)) (hw _ (List.mem_of_getElem? (i := 17) rfl)) (by decide) (by decide)) (g := (mkF m 63 #[.val (.int p0), .val (.int p1), .val (.int p2), .val (.int p3), .val (.int p4), .val (.int p5), .val (.int v162), .val (.ref b164), .val (.int r271), .unset, .unset, .unset, .unset, .unset] [(.int v162), (.int p4)])) rfl (by rw [hml]; rfl) (argsL := [(.int p4), (.int v162)]) (rest := []) (lenOf pd_2 rfl) rfl (by show 2 * 0 + _ ≤ _; exact Nat.le_of_eq rfl) (hb hby at_63) (fun _ _ => ⟨rfl, eq269, (by decide : 3 + 0 ≤ _), (by decide : 12 + 0 ≤ _)⟩)
    dsimp only [Pt.U, Pt.locs, Pt.cells, Pt.slots] at X274 l274 y274 z274 st274 hQ274
    subst l274 y274 z274
    obtain ⟨rfl, Nq274, eq274⟩ := hQ274
    have N274 := Fr.app N269 Nq274
    have k275 : ∀ tg_, Steps p.tables e below (T274.setTop (mkF m 66 #[.val (.int p0), .val (.int p1), .val (.int p2), .val (.int p3), .val (.int p4), .val (.int p5), .val (.int v162), .val (.ref b164), .val (.int r271), .unset, .unset, .unset, .unset, .unset] [(.int (own_mod p4 v162))])) tg_ → Steps p.tables e below (s₁.setTop (entryFrame m #[(.int p0), (.int p1), (.int p2), (.int p3), (.int p4), (.int p5)] maxLocals)) tg_ := by
      intro tg_ kt
      refine k272 tg_ ?_
      refine XS.istore X269.here hx rfl (hb hby at_57) rfl (l' := #[.val (.int p0), .val (.int p1), .val (.int p2), .val (.int p3), .val (.int p4), .val (.int p5), .val (.int v162), .val (.ref b164), .val (.int r271), .unset, .unset, .unset, .unset, .unset]) rfl ?_
      show Steps p.tables e below (T269.setTop (mkF m 59 #[.val (.int p0), .val (.int p1), .val (.int p2), .val (.int p3), .val (.int p4), .val (.int p5), .val (.int v162), .val (.ref b164), .val (.int r271), .unset, .unset, .unset, .unset, .unset] [])) _
      refine XS.iload X269.here hx rfl (hb hby at_59) rfl ?_
      show Steps p.tables e below (T269.setTop (mkF m 61 #[.val (.int p0), .val (.int p1), .val (.int p2), .val (.int p3), .val (.int p4), .val (.int p5), .val (.int v162), .val (.ref b164), .val (.int r271), .unset, .unset, .unset, .unset, .unset] [(.int p4)])) _
      refine XS.iload X269.here hx rfl (hb hby at_61) rfl ?_
      show Steps p.tables e below (T269.setTop (mkF m 63 #[.val (.int p0), .val (.int p1), .val (.int p2), .val (.int p3), .val (.int p4), .val (.int p5), .val (.int v162), .val (.ref b164), .val (.int r271), .unset, .unset, .unset, .unset, .unset] [(.int v162), (.int p4)])) _
      refine st274 _ ?_
      show Steps p.tables e below (T274.setTop (mkF m 66 #[.val (.int p0), .val (.int p1), .val (.int p2), .val (.int p3), .val (.int p4), .val (.int p5), .val (.int v162), .val (.ref b164), .val (.int r271), .unset, .unset, .unset, .unset, .unset] [(.int (own_mod p4 v162))])) _
      exact kt
    obtain ⟨r276, hr276⟩ : ∃ z : Int32, z = (own_mod p4 v162) := ⟨_, rfl⟩
    rw [← hr276] at k275
    have k277 : ∀ tg_, Steps p.tables e below (T274.setTop (mkF m 66 #[.val (.int p0), .val (.int p1), .val (.int p2), .val (.int p3), .val (.int p4), .val (.int p5), .val (.int v162), .val (.ref b164), .val (.int r271), .unset, .unset, .unset, .unset, .unset] [(.int r276)])) tg_ → Steps p.tables e below (s₁.setTop (entryFrame m #[(.int p0), (.int p1), (.int p2), (.int p3), (.int p4), (.int p5)] maxLocals)) tg_ := by
      intro tg_ kt
      refine k275 tg_ ?_
      show Steps p.tables e below (T274.setTop (mkF m 66 #[.val (.int p0), .val (.int p1), .val (.int p2), .val (.int p3), .val (.int p4), .val (.int p5), .val (.int v162), .val (.ref b164), .val (.int r271), .unset, .unset, .unset, .unset, .unset] [(.int r276)])) _
      exact kt
    obtain ⟨k278, hk278, hl278⟩ : ∃ k : Nat, r276.toInt = (k : Int) ∧ k < n := by rw [hr276]; exact own_modk hnn hn1
    obtain ⟨_, _, ⟨T279, L279, kc279, nc279⟩, -, X279, ⟨Lc279, hQ279, l279, y279, z279⟩, st279⟩ := Jvm.LawKit.callS X274 hx (y := (⟨"com/example/tablewise/tablewise/propagation/WaitingRingAddPinLaw", "mod", "(II)I"⟩ : MethodName)) hown (mvT hZ (hw _ (List.mem_of_getElem? (i := 15) rfl))) (mvT hZ (hw _ (List.mem_of_getElem? (i := 16) rfl))) (mvT hZ (hw _ (List.mem_of_getElem? (i := 17) rfl))) (mvT hZ (hw _ (List.mem_of_getElem? (i := 18) rfl))) (by decide) (backOf (W := 0) (rm3 l Z a0 hw [] p5 v162 T267.heap n0 hnz) hZ (hw _ (List.mem_of_getElem? (i := 18) rfl)) (hw _ (List.mem_of_getElem? (i := 17) rfl)) (by decide) (by decide)) (g := (mkF m 72 #[.val (.int p0), .val (.int p1), .val (.int p2), .val (.int p3), .val (.int p4), .val (.int p5), .val (.int v162), .val (.ref b164), .val (.int r271), .val (.int r276), .unset, .unset, .unset, .unset] [(.int v162), (.int p5)])) rfl (by rw [hml]; rfl) (argsL := [(.int p5), (.int v162)]) (rest := []) (lenOf pd_2 rfl) rfl (by show 2 * 0 + _ ≤ _; exact Nat.le_of_eq rfl) (hb hby at_72) (fun _ _ => ⟨rfl, eq274, (by decide : 3 + 0 ≤ _), (by decide : 12 + 0 ≤ _)⟩)
    dsimp only [Pt.U, Pt.locs, Pt.cells, Pt.slots] at X279 l279 y279 z279 st279 hQ279
    subst l279 y279 z279
    obtain ⟨rfl, Nq279, eq279⟩ := hQ279
    have N279 := Fr.app N274 Nq279
    have k280 : ∀ tg_, Steps p.tables e below (T279.setTop (mkF m 75 #[.val (.int p0), .val (.int p1), .val (.int p2), .val (.int p3), .val (.int p4), .val (.int p5), .val (.int v162), .val (.ref b164), .val (.int r271), .val (.int r276), .unset, .unset, .unset, .unset] [(.int (own_mod p5 v162))])) tg_ → Steps p.tables e below (s₁.setTop (entryFrame m #[(.int p0), (.int p1), (.int p2), (.int p3), (.int p4), (.int p5)] maxLocals)) tg_ := by
      intro tg_ kt
      refine k277 tg_ ?_
      refine XS.istore X274.here hx rfl (hb hby at_66) rfl (l' := #[.val (.int p0), .val (.int p1), .val (.int p2), .val (.int p3), .val (.int p4), .val (.int p5), .val (.int v162), .val (.ref b164), .val (.int r271), .val (.int r276), .unset, .unset, .unset, .unset]) rfl ?_
      show Steps p.tables e below (T274.setTop (mkF m 68 #[.val (.int p0), .val (.int p1), .val (.int p2), .val (.int p3), .val (.int p4), .val (.int p5), .val (.int v162), .val (.ref b164), .val (.int r271), .val (.int r276), .unset, .unset, .unset, .unset] [])) _
      refine XS.iload X274.here hx rfl (hb hby at_68) rfl ?_
      show Steps p.tables e below (T274.setTop (mkF m 70 #[.val (.int p0), .val (.int p1), .val (.int p2), .val (.int p3), .val (.int p4), .val (.int p5), .val (.int v162), .val (.ref b164), .val (.int r271), .val (.int r276), .unset, .unset, .unset, .unset] [(.int p5)])) _
      refine XS.iload X274.here hx rfl (hb hby at_70) rfl ?_
      show Steps p.tables e below (T274.setTop (mkF m 72 #[.val (.int p0), .val (.int p1), .val (.int p2), .val (.int p3), .val (.int p4), .val (.int p5), .val (.int v162), .val (.ref b164), .val (.int r271), .val (.int r276), .unset, .unset, .unset, .unset] [(.int v162), (.int p5)])) _
      refine st279 _ ?_
      show Steps p.tables e below (T279.setTop (mkF m 75 #[.val (.int p0), .val (.int p1), .val (.int p2), .val (.int p3), .val (.int p4), .val (.int p5), .val (.int v162), .val (.ref b164), .val (.int r271), .val (.int r276), .unset, .unset, .unset, .unset] [(.int (own_mod p5 v162))])) _
      exact kt
    obtain ⟨r281, hr281⟩ : ∃ z : Int32, z = (own_mod p5 v162) := ⟨_, rfl⟩
    rw [← hr281] at k280
    have k282 : ∀ tg_, Steps p.tables e below (T279.setTop (mkF m 75 #[.val (.int p0), .val (.int p1), .val (.int p2), .val (.int p3), .val (.int p4), .val (.int p5), .val (.int v162), .val (.ref b164), .val (.int r271), .val (.int r276), .unset, .unset, .unset, .unset] [(.int r281)])) tg_ → Steps p.tables e below (s₁.setTop (entryFrame m #[(.int p0), (.int p1), (.int p2), (.int p3), (.int p4), (.int p5)] maxLocals)) tg_ := by
      intro tg_ kt
      refine k280 tg_ ?_
      show Steps p.tables e below (T279.setTop (mkF m 75 #[.val (.int p0), .val (.int p1), .val (.int p2), .val (.int p3), .val (.int p4), .val (.int p5), .val (.int v162), .val (.ref b164), .val (.int r271), .val (.int r276), .unset, .unset, .unset, .unset] [(.int r281)])) _
      exact kt
    obtain ⟨k283, hk283, hl283⟩ : ∃ k : Nat, r281.toInt = (k : Int) ∧ k < n := by rw [hr281]; exact own_modk hnn hn1
    have f284 := (Nat.le_trans f266 oK267.1)
    obtain ⟨cq285, kq285, q285a, q285b, q285c⟩ := isOf hZ eq279 R267.exa
    obtain ⟨_, _, ⟨T285, L285, kc285, nc285⟩, -, X285, ⟨Lc285, hQ285, l285, y285, z285⟩, st285⟩ := X279.virtualBack hx (y := (⟨"com/example/tablewise/tablewise/propagation/WaitingRing", "add", "(I)V"⟩ : MethodName)) (z := (⟨"com/example/tablewise/tablewise/propagation/WaitingRing", "add", "(I)V"⟩ : MethodName)) hown (mvT hZ (hw _ (List.mem_of_getElem? (i := 20) rfl))) (mvT hZ (hw _ (List.mem_of_getElem? (i := 21) rfl))) (notFace_of_selects (args := #[]) (mvT hZ (hw _ (List.mem_of_getElem? (i := 23) rfl)))) (mvT hZ (hw _ (List.mem_of_getElem? (i := 23) rfl))) (mvT hZ (hw _ (List.mem_of_getElem? (i := 22) rfl))) (by decide) (backOf (W := 0) (rm4 l Z a0 hw [] b164 r271 ra170 wa170 v162 n ([] : List Int32) k273 T267.heap n0 f284 ge_b164 gra170 gwa170 R267 hk273 hl273) hZ (hw _ (List.mem_of_getElem? (i := 24) rfl)) (hw _ (List.mem_of_getElem? (i := 2) rfl)) (by decide) (by decide)) q285a q285c (g := (mkF m 81 #[.val (.int p0), .val (.int p1), .val (.int p2), .val (.int p3), .val (.int p4), .val (.int p5), .val (.int v162), .val (.ref b164), .val (.int r271), .val (.int r276), .val (.int r281), .unset, .unset, .unset] [(.int r271), (.ref b164)])) rfl (by rw [hml]; rfl) (Steps.refl _) (argsL := [(.int r271)]) (rest := []) (lenOf pd_0 rfl) rfl (by show 2 * 0 + _ ≤ _; exact Nat.le_of_eq rfl) (hb hby at_81) (fun _ _ => ⟨rfl, eq279, (by decide : 3 + 0 ≤ _), (by decide : 12 + 0 ≤ _)⟩)
    dsimp only [Pt.U, Pt.locs, Pt.cells, Pt.slots] at X285 l285 y285 z285 st285 hQ285
    subst l285 y285 z285
    obtain ⟨rfl, Nq285, oK285, m0_285⟩ := hQ285
    have N285 := Fr.app N279 Nq285
    have R285 := m0_285
    have f286 := (Nat.le_trans f284 oK285.1)
    obtain ⟨cq287, kq287, q287a, q287b, q287c⟩ := isOf hZ rfl R285.exa
    obtain ⟨_, _, ⟨T287, L287, kc287, nc287⟩, -, X287, ⟨Lc287, hQ287, l287, y287, z287⟩, st287⟩ := X285.virtualBack hx (y := (⟨"com/example/tablewise/tablewise/propagation/WaitingRing", "add", "(I)V"⟩ : MethodName)) (z := (⟨"com/example/tablewise/tablewise/propagation/WaitingRing", "add", "(I)V"⟩ : MethodName)) hown (mvT hZ (hw _ (List.mem_of_getElem? (i := 20) rfl))) (mvT hZ (hw _ (List.mem_of_getElem? (i := 21) rfl))) (notFace_of_selects (args := #[]) (mvT hZ (hw _ (List.mem_of_getElem? (i := 23) rfl)))) (mvT hZ (hw _ (List.mem_of_getElem? (i := 23) rfl))) (mvT hZ (hw _ (List.mem_of_getElem? (i := 22) rfl))) (by decide) (backOf (W := 0) (rm4 l Z a0 hw [] b164 r276 ra170 wa170 v162 n (own_add ([] : List Int32) r271) k278 T285.heap n0 f286 ge_b164 gra170 gwa170 R285 hk278 hl278) hZ (hw _ (List.mem_of_getElem? (i := 24) rfl)) (hw _ (List.mem_of_getElem? (i := 2) rfl)) (by decide) (by decide)) q287a q287c (g := (mkF m 88 #[.val (.int p0), .val (.int p1), .val (.int p2), .val (.int p3), .val (.int p4), .val (.int p5), .val (.int v162), .val (.ref b164), .val (.int r271), .val (.int r276), .val (.int r281), .unset, .unset, .unset] [(.int r276), (.ref b164)])) rfl (by rw [hml]; rfl) (Steps.refl _) (argsL := [(.int r276)]) (rest := []) (lenOf pd_0 rfl) rfl (by show 2 * 0 + _ ≤ _; exact Nat.le_of_eq rfl) (hb hby at_88) (fun _ _ => ⟨rfl, rfl, (by decide : 3 + 0 ≤ _), (by decide : 12 + 0 ≤ _)⟩)
    dsimp only [Pt.U, Pt.locs, Pt.cells, Pt.slots] at X287 l287 y287 z287 st287 hQ287
    subst l287 y287 z287
    obtain ⟨rfl, Nq287, oK287, m0_287⟩ := hQ287
    have N287 := Fr.app N285 Nq287
    have R287 := m0_287
    have f288 := (Nat.le_trans f286 oK287.1)
    obtain ⟨cq289, kq289, q289a, q289b, q289c⟩ := isOf hZ rfl R287.exa
    obtain ⟨_, _, ⟨T289, L289, kc289, nc289⟩, -, X289, ⟨Lc289, hQ289, l289, y289, z289⟩, st289⟩ := X287.virtualBack hx (y := (⟨"com/example/tablewise/tablewise/propagation/WaitingRing", "add", "(I)V"⟩ : MethodName)) (z := (⟨"com/example/tablewise/tablewise/propagation/WaitingRing", "add", "(I)V"⟩ : MethodName)) hown (mvT hZ (hw _ (List.mem_of_getElem? (i := 20) rfl))) (mvT hZ (hw _ (List.mem_of_getElem? (i := 21) rfl))) (notFace_of_selects (args := #[]) (mvT hZ (hw _ (List.mem_of_getElem? (i := 23) rfl)))) (mvT hZ (hw _ (List.mem_of_getElem? (i := 23) rfl))) (mvT hZ (hw _ (List.mem_of_getElem? (i := 22) rfl))) (by decide) (backOf (W := 0) (rm4 l Z a0 hw [] b164 r281 ra170 wa170 v162 n (own_add (own_add ([] : List Int32) r271) r276) k283 T287.heap n0 f288 ge_b164 gra170 gwa170 R287 hk283 hl283) hZ (hw _ (List.mem_of_getElem? (i := 24) rfl)) (hw _ (List.mem_of_getElem? (i := 2) rfl)) (by decide) (by decide)) q289a q289c (g := (mkF m 95 #[.val (.int p0), .val (.int p1), .val (.int p2), .val (.int p3), .val (.int p4), .val (.int p5), .val (.int v162), .val (.ref b164), .val (.int r271), .val (.int r276), .val (.int r281), .unset, .unset, .unset] [(.int r281), (.ref b164)])) rfl (by rw [hml]; rfl) (Steps.refl _) (argsL := [(.int r281)]) (rest := []) (lenOf pd_0 rfl) rfl (by show 2 * 0 + _ ≤ _; exact Nat.le_of_eq rfl) (hb hby at_95) (fun _ _ => ⟨rfl, rfl, (by decide : 3 + 0 ≤ _), (by decide : 12 + 0 ≤ _)⟩)
    dsimp only [Pt.U, Pt.locs, Pt.cells, Pt.slots] at X289 l289 y289 z289 st289 hQ289
    subst l289 y289 z289
    obtain ⟨rfl, Nq289, oK289, m0_289⟩ := hQ289
    have N289 := Fr.app N287 Nq289
    have R289 := m0_289
    have k290 : ∀ tg_, Steps p.tables e below (T289.setTop (mkF m 111 #[.val (.int p0), .val (.int p1), .val (.int p2), .val (.int p3), .val (.int p4), .val (.int p5), .val (.int v162), .val (.ref b164), .val (.int r271), .val (.int r276), .val (.int r281), .val (.int (1 : Int32)), .val (.int (0 : Int32)), .val (.int (0 : Int32))] [(.int r271), (.int r276)])) tg_ → Steps p.tables e below (s₁.setTop (entryFrame m #[(.int p0), (.int p1), (.int p2), (.int p3), (.int p4), (.int p5)] maxLocals)) tg_ := by
      intro tg_ kt
      refine k282 tg_ ?_
      refine XS.istore X279.here hx rfl (hb hby at_75) rfl (l' := #[.val (.int p0), .val (.int p1), .val (.int p2), .val (.int p3), .val (.int p4), .val (.int p5), .val (.int v162), .val (.ref b164), .val (.int r271), .val (.int r276), .val (.int r281), .unset, .unset, .unset]) rfl ?_
      show Steps p.tables e below (T279.setTop (mkF m 77 #[.val (.int p0), .val (.int p1), .val (.int p2), .val (.int p3), .val (.int p4), .val (.int p5), .val (.int v162), .val (.ref b164), .val (.int r271), .val (.int r276), .val (.int r281), .unset, .unset, .unset] [])) _
      refine XS.aload X279.here hx rfl (hb hby at_77) rfl rfl ?_
      show Steps p.tables e below (T279.setTop (mkF m 79 #[.val (.int p0), .val (.int p1), .val (.int p2), .val (.int p3), .val (.int p4), .val (.int p5), .val (.int v162), .val (.ref b164), .val (.int r271), .val (.int r276), .val (.int r281), .unset, .unset, .unset] [(.ref b164)])) _
      refine XS.iload X279.here hx rfl (hb hby at_79) rfl ?_
      show Steps p.tables e below (T279.setTop (mkF m 81 #[.val (.int p0), .val (.int p1), .val (.int p2), .val (.int p3), .val (.int p4), .val (.int p5), .val (.int v162), .val (.ref b164), .val (.int r271), .val (.int r276), .val (.int r281), .unset, .unset, .unset] [(.int r271), (.ref b164)])) _
      refine st285.trans ?_
      show Steps p.tables e below (T285.setTop (mkF m 84 #[.val (.int p0), .val (.int p1), .val (.int p2), .val (.int p3), .val (.int p4), .val (.int p5), .val (.int v162), .val (.ref b164), .val (.int r271), .val (.int r276), .val (.int r281), .unset, .unset, .unset] [])) _
      refine XS.aload X285.here hx rfl (hb hby at_84) rfl rfl ?_
      show Steps p.tables e below (T285.setTop (mkF m 86 #[.val (.int p0), .val (.int p1), .val (.int p2), .val (.int p3), .val (.int p4), .val (.int p5), .val (.int v162), .val (.ref b164), .val (.int r271), .val (.int r276), .val (.int r281), .unset, .unset, .unset] [(.ref b164)])) _
      refine XS.iload X285.here hx rfl (hb hby at_86) rfl ?_
      show Steps p.tables e below (T285.setTop (mkF m 88 #[.val (.int p0), .val (.int p1), .val (.int p2), .val (.int p3), .val (.int p4), .val (.int p5), .val (.int v162), .val (.ref b164), .val (.int r271), .val (.int r276), .val (.int r281), .unset, .unset, .unset] [(.int r276), (.ref b164)])) _
      refine st287.trans ?_
      show Steps p.tables e below (T287.setTop (mkF m 91 #[.val (.int p0), .val (.int p1), .val (.int p2), .val (.int p3), .val (.int p4), .val (.int p5), .val (.int v162), .val (.ref b164), .val (.int r271), .val (.int r276), .val (.int r281), .unset, .unset, .unset] [])) _
      refine XS.aload X287.here hx rfl (hb hby at_91) rfl rfl ?_
      show Steps p.tables e below (T287.setTop (mkF m 93 #[.val (.int p0), .val (.int p1), .val (.int p2), .val (.int p3), .val (.int p4), .val (.int p5), .val (.int v162), .val (.ref b164), .val (.int r271), .val (.int r276), .val (.int r281), .unset, .unset, .unset] [(.ref b164)])) _
      refine XS.iload X287.here hx rfl (hb hby at_93) rfl ?_
      show Steps p.tables e below (T287.setTop (mkF m 95 #[.val (.int p0), .val (.int p1), .val (.int p2), .val (.int p3), .val (.int p4), .val (.int p5), .val (.int v162), .val (.ref b164), .val (.int r271), .val (.int r276), .val (.int r281), .unset, .unset, .unset] [(.int r281), (.ref b164)])) _
      refine st289.trans ?_
      show Steps p.tables e below (T289.setTop (mkF m 98 #[.val (.int p0), .val (.int p1), .val (.int p2), .val (.int p3), .val (.int p4), .val (.int p5), .val (.int v162), .val (.ref b164), .val (.int r271), .val (.int r276), .val (.int r281), .unset, .unset, .unset] [])) _
      refine XS.iconst X289.here hx rfl (hb hby at_98) ?_
      show Steps p.tables e below (T289.setTop (mkF m 99 #[.val (.int p0), .val (.int p1), .val (.int p2), .val (.int p3), .val (.int p4), .val (.int p5), .val (.int v162), .val (.ref b164), .val (.int r271), .val (.int r276), .val (.int r281), .unset, .unset, .unset] [(.int (1 : Int32))])) _
      refine XS.istore X289.here hx rfl (hb hby at_99) rfl (l' := #[.val (.int p0), .val (.int p1), .val (.int p2), .val (.int p3), .val (.int p4), .val (.int p5), .val (.int v162), .val (.ref b164), .val (.int r271), .val (.int r276), .val (.int r281), .val (.int (1 : Int32)), .unset, .unset]) rfl ?_
      show Steps p.tables e below (T289.setTop (mkF m 101 #[.val (.int p0), .val (.int p1), .val (.int p2), .val (.int p3), .val (.int p4), .val (.int p5), .val (.int v162), .val (.ref b164), .val (.int r271), .val (.int r276), .val (.int r281), .val (.int (1 : Int32)), .unset, .unset] [])) _
      refine XS.iconst X289.here hx rfl (hb hby at_101) ?_
      show Steps p.tables e below (T289.setTop (mkF m 102 #[.val (.int p0), .val (.int p1), .val (.int p2), .val (.int p3), .val (.int p4), .val (.int p5), .val (.int v162), .val (.ref b164), .val (.int r271), .val (.int r276), .val (.int r281), .val (.int (1 : Int32)), .unset, .unset] [(.int (0 : Int32))])) _
      refine XS.istore X289.here hx rfl (hb hby at_102) rfl (l' := #[.val (.int p0), .val (.int p1), .val (.int p2), .val (.int p3), .val (.int p4), .val (.int p5), .val (.int v162), .val (.ref b164), .val (.int r271), .val (.int r276), .val (.int r281), .val (.int (1 : Int32)), .val (.int (0 : Int32)), .unset]) rfl ?_
      show Steps p.tables e below (T289.setTop (mkF m 104 #[.val (.int p0), .val (.int p1), .val (.int p2), .val (.int p3), .val (.int p4), .val (.int p5), .val (.int v162), .val (.ref b164), .val (.int r271), .val (.int r276), .val (.int r281), .val (.int (1 : Int32)), .val (.int (0 : Int32)), .unset] [])) _
      refine XS.iconst X289.here hx rfl (hb hby at_104) ?_
      show Steps p.tables e below (T289.setTop (mkF m 105 #[.val (.int p0), .val (.int p1), .val (.int p2), .val (.int p3), .val (.int p4), .val (.int p5), .val (.int v162), .val (.ref b164), .val (.int r271), .val (.int r276), .val (.int r281), .val (.int (1 : Int32)), .val (.int (0 : Int32)), .unset] [(.int (0 : Int32))])) _
      refine XS.istore X289.here hx rfl (hb hby at_105) rfl (l' := #[.val (.int p0), .val (.int p1), .val (.int p2), .val (.int p3), .val (.int p4), .val (.int p5), .val (.int v162), .val (.ref b164), .val (.int r271), .val (.int r276), .val (.int r281), .val (.int (1 : Int32)), .val (.int (0 : Int32)), .val (.int (0 : Int32))]) rfl ?_
      show Steps p.tables e below (T289.setTop (mkF m 107 #[.val (.int p0), .val (.int p1), .val (.int p2), .val (.int p3), .val (.int p4), .val (.int p5), .val (.int v162), .val (.ref b164), .val (.int r271), .val (.int r276), .val (.int r281), .val (.int (1 : Int32)), .val (.int (0 : Int32)), .val (.int (0 : Int32))] [])) _
      refine XS.iload X289.here hx rfl (hb hby at_107) rfl ?_
      show Steps p.tables e below (T289.setTop (mkF m 109 #[.val (.int p0), .val (.int p1), .val (.int p2), .val (.int p3), .val (.int p4), .val (.int p5), .val (.int v162), .val (.ref b164), .val (.int r271), .val (.int r276), .val (.int r281), .val (.int (1 : Int32)), .val (.int (0 : Int32)), .val (.int (0 : Int32))] [(.int r276)])) _
      refine XS.iload X289.here hx rfl (hb hby at_109) rfl ?_
      show Steps p.tables e below (T289.setTop (mkF m 111 #[.val (.int p0), .val (.int p1), .val (.int p2), .val (.int p3), .val (.int p4), .val (.int p5), .val (.int v162), .val (.ref b164), .val (.int r271), .val (.int r276), .val (.int r281), .val (.int (1 : Int32)), .val (.int (0 : Int32)), .val (.int (0 : Int32))] [(.int r271), (.int r276)])) _
      exact kt
    by_cases hc111_291 : r276 = r271
    · have k292 : ∀ tg_, Steps p.tables e below (T289.setTop (mkF m 125 #[.val (.int p0), .val (.int p1), .val (.int p2), .val (.int p3), .val (.int p4), .val (.int p5), .val (.int v162), .val (.ref b164), .val (.int r271), .val (.int r276), .val (.int r281), .val (.int (1 : Int32)), .val (.int (0 : Int32)), .val (.int (0 : Int32))] [(.int r271), (.int r281)])) tg_ → Steps p.tables e below (s₁.setTop (entryFrame m #[(.int p0), (.int p1), (.int p2), (.int p3), (.int p4), (.int p5)] maxLocals)) tg_ := by
        intro tg_ kt
        refine k290 tg_ ?_
        refine XS.icmpYes X289.here hx rfl (pc0 := 111) (pc' := 121) rfl (hb hby at_111) rfl (teq hc111_291).1 (by decide) (by decide) ?_
        show Steps p.tables e below (T289.setTop (mkF m 121 #[.val (.int p0), .val (.int p1), .val (.int p2), .val (.int p3), .val (.int p4), .val (.int p5), .val (.int v162), .val (.ref b164), .val (.int r271), .val (.int r276), .val (.int r281), .val (.int (1 : Int32)), .val (.int (0 : Int32)), .val (.int (0 : Int32))] [])) _
        refine XS.iload X289.here hx rfl (hb hby at_121) rfl ?_
        show Steps p.tables e below (T289.setTop (mkF m 123 #[.val (.int p0), .val (.int p1), .val (.int p2), .val (.int p3), .val (.int p4), .val (.int p5), .val (.int v162), .val (.ref b164), .val (.int r271), .val (.int r276), .val (.int r281), .val (.int (1 : Int32)), .val (.int (0 : Int32)), .val (.int (0 : Int32))] [(.int r281)])) _
        refine XS.iload X289.here hx rfl (hb hby at_123) rfl ?_
        show Steps p.tables e below (T289.setTop (mkF m 125 #[.val (.int p0), .val (.int p1), .val (.int p2), .val (.int p3), .val (.int p4), .val (.int p5), .val (.int v162), .val (.ref b164), .val (.int r271), .val (.int r276), .val (.int r281), .val (.int (1 : Int32)), .val (.int (0 : Int32)), .val (.int (0 : Int32))] [(.int r271), (.int r281)])) _
        exact kt
      by_cases hc125_293 : r281 = r271
      · have hq294 : (own_add (own_add (own_add ([] : List Int32) r271) r276) r281) = [r271] := by
          simp [own_add, hc111_291, hc125_293]
        have Rt295 : own_Ring Z T289.heap b164 ra170 wa170 v162 n (r271 :: ([] : List Int32)) := (by have q := R289; rw [hq294] at q; exact q)
        have f296 := (Nat.le_trans f288 oK289.1)
        obtain ⟨cq297, kq297, q297a, q297b, q297c⟩ := isOf hZ rfl R289.exa
        obtain ⟨_, _, ⟨T297, L297, kc297, nc297⟩, -, X297, ⟨Lc297, hQ297, l297, y297, z297⟩, st297⟩ := X289.virtualBack hx (y := (⟨"com/example/tablewise/tablewise/propagation/WaitingRing", "take", "()I"⟩ : MethodName)) (z := (⟨"com/example/tablewise/tablewise/propagation/WaitingRing", "take", "()I"⟩ : MethodName)) hown (mvT hZ (hw _ (List.mem_of_getElem? (i := 29) rfl))) (mvT hZ (hw _ (List.mem_of_getElem? (i := 30) rfl))) (notFace_of_selects (args := #[]) (mvT hZ (hw _ (List.mem_of_getElem? (i := 32) rfl)))) (mvT hZ (hw _ (List.mem_of_getElem? (i := 32) rfl))) (mvT hZ (hw _ (List.mem_of_getElem? (i := 31) rfl))) (by decide) (backOf (W := 0) (rm5 l Z a0 hw [] b164 ra170 wa170 v162 n r271 ([] : List Int32) T289.heap n0 f296 ge_b164 gra170 gwa170 Rt295) hZ (hw _ (List.mem_of_getElem? (i := 33) rfl)) (hw _ (List.mem_of_getElem? (i := 2) rfl)) (by decide) (by decide)) q297a q297c (g := (mkF m 160 #[.val (.int p0), .val (.int p1), .val (.int p2), .val (.int p3), .val (.int p4), .val (.int p5), .val (.int v162), .val (.ref b164), .val (.int r271), .val (.int r276), .val (.int r281), .val (.int (1 : Int32)), .val (.int (0 : Int32)), .val (.int (0 : Int32))] [(.ref b164)])) rfl (by rw [hml]; rfl) (Steps.refl _) (argsL := []) (rest := []) (lenOf pd_3 rfl) rfl (by show 2 * 0 + _ ≤ _; exact Nat.le_of_eq rfl) (hb hby at_160) (fun _ _ => ⟨rfl, rfl, (by decide : 3 + 0 ≤ _), (by decide : 12 + 0 ≤ _)⟩)
        dsimp only [Pt.U, Pt.locs, Pt.cells, Pt.slots] at X297 l297 y297 z297 st297 hQ297
        subst l297 y297 z297
        obtain ⟨rfl, Nq297, oK297, m0_297⟩ := hQ297
        have N297 := Fr.app N289 Nq297
        have R297 := m0_297
        have hc165_298 : r271 = r271 := rfl
        obtain ⟨cq299, kq299, q299a, q299b, q299c⟩ := isOf hZ rfl R297.exa
        obtain ⟨_, _, ⟨T299, L299, kc299, nc299⟩, -, X299, ⟨Lc299, hQ299, l299, y299, z299⟩, st299⟩ := X297.virtualBack hx (y := (⟨"com/example/tablewise/tablewise/propagation/WaitingRing", "isEmpty", "()Z"⟩ : MethodName)) (z := (⟨"com/example/tablewise/tablewise/propagation/WaitingRing", "isEmpty", "()Z"⟩ : MethodName)) hown (mvT hZ (hw _ (List.mem_of_getElem? (i := 34) rfl))) (mvT hZ (hw _ (List.mem_of_getElem? (i := 35) rfl))) (notFace_of_selects (args := #[]) (mvT hZ (hw _ (List.mem_of_getElem? (i := 37) rfl)))) (mvT hZ (hw _ (List.mem_of_getElem? (i := 37) rfl))) (mvT hZ (hw _ (List.mem_of_getElem? (i := 36) rfl))) (by decide) (backOf (W := 0) (rm6 l Z a0 hw [] b164 ra170 wa170 v162 n ([] : List Int32) T297.heap n0 R297) hZ (hw _ (List.mem_of_getElem? (i := 38) rfl)) (hw _ (List.mem_of_getElem? (i := 2) rfl)) (by decide) (by decide)) q299a q299c (g := (mkF m 208 #[.val (.int p0), .val (.int p1), .val (.int p2), .val (.int p3), .val (.int p4), .val (.int p5), .val (.int v162), .val (.ref b164), .val (.int r271), .val (.int r276), .val (.int r281), .val (.int (1 : Int32)), .val (.int (0 : Int32)), .val (.int (0 : Int32))] [(.ref b164)])) rfl (by rw [hml]; rfl) (Steps.refl _) (argsL := []) (rest := []) (lenOf pd_4 rfl) rfl (by show 2 * 0 + _ ≤ _; exact Nat.le_of_eq rfl) (hb hby at_208) (fun _ _ => ⟨rfl, rfl, (by decide : 3 + 0 ≤ _), (by decide : 12 + 0 ≤ _)⟩)
        dsimp only [Pt.U, Pt.locs, Pt.cells, Pt.slots] at X299 l299 y299 z299 st299 hQ299
        subst l299 y299 z299
        obtain ⟨rfl, Nq299, eq299⟩ := hQ299
        have N299 := Fr.app N297 Nq299
        have k300 : ∀ tg_, Steps p.tables e below (T299.setTop (mkF m 211 #[.val (.int p0), .val (.int p1), .val (.int p2), .val (.int p3), .val (.int p4), .val (.int p5), .val (.int v162), .val (.ref b164), .val (.int r271), .val (.int r276), .val (.int r281), .val (.int (1 : Int32)), .val (.int (0 : Int32)), .val (.int (0 : Int32))] [(.int (if ([] : List Int32).length = 0 then (1 : Int32) else (0 : Int32)))])) tg_ → Steps p.tables e below (s₁.setTop (entryFrame m #[(.int p0), (.int p1), (.int p2), (.int p3), (.int p4), (.int p5)] maxLocals)) tg_ := by
          intro tg_ kt
          refine k292 tg_ ?_
          refine XS.icmpYes X289.here hx rfl (pc0 := 125) (pc' := 158) rfl (hb hby at_125) rfl (teq hc125_293).1 (by decide) (by decide) ?_
          show Steps p.tables e below (T289.setTop (mkF m 158 #[.val (.int p0), .val (.int p1), .val (.int p2), .val (.int p3), .val (.int p4), .val (.int p5), .val (.int v162), .val (.ref b164), .val (.int r271), .val (.int r276), .val (.int r281), .val (.int (1 : Int32)), .val (.int (0 : Int32)), .val (.int (0 : Int32))] [])) _
          refine XS.aload X289.here hx rfl (hb hby at_158) rfl rfl ?_
          show Steps p.tables e below (T289.setTop (mkF m 160 #[.val (.int p0), .val (.int p1), .val (.int p2), .val (.int p3), .val (.int p4), .val (.int p5), .val (.int v162), .val (.ref b164), .val (.int r271), .val (.int r276), .val (.int r281), .val (.int (1 : Int32)), .val (.int (0 : Int32)), .val (.int (0 : Int32))] [(.ref b164)])) _
          refine st297.trans ?_
          show Steps p.tables e below (T297.setTop (mkF m 163 #[.val (.int p0), .val (.int p1), .val (.int p2), .val (.int p3), .val (.int p4), .val (.int p5), .val (.int v162), .val (.ref b164), .val (.int r271), .val (.int r276), .val (.int r281), .val (.int (1 : Int32)), .val (.int (0 : Int32)), .val (.int (0 : Int32))] [(.int r271)])) _
          refine XS.iload X297.here hx rfl (hb hby at_163) rfl ?_
          show Steps p.tables e below (T297.setTop (mkF m 165 #[.val (.int p0), .val (.int p1), .val (.int p2), .val (.int p3), .val (.int p4), .val (.int p5), .val (.int v162), .val (.ref b164), .val (.int r271), .val (.int r276), .val (.int r281), .val (.int (1 : Int32)), .val (.int (0 : Int32)), .val (.int (0 : Int32))] [(.int r271), (.int r271)])) _
          refine XS.icmpYes X297.here hx rfl (pc0 := 165) (pc' := 170) rfl (hb hby at_165) rfl (teq hc165_298).1 (by decide) (by decide) ?_
          show Steps p.tables e below (T297.setTop (mkF m 170 #[.val (.int p0), .val (.int p1), .val (.int p2), .val (.int p3), .val (.int p4), .val (.int p5), .val (.int v162), .val (.ref b164), .val (.int r271), .val (.int r276), .val (.int r281), .val (.int (1 : Int32)), .val (.int (0 : Int32)), .val (.int (0 : Int32))] [])) _
          refine XS.iload X297.here hx rfl (hb hby at_170) rfl ?_
          show Steps p.tables e below (T297.setTop (mkF m 172 #[.val (.int p0), .val (.int p1), .val (.int p2), .val (.int p3), .val (.int p4), .val (.int p5), .val (.int v162), .val (.ref b164), .val (.int r271), .val (.int r276), .val (.int r281), .val (.int (1 : Int32)), .val (.int (0 : Int32)), .val (.int (0 : Int32))] [(.int (1 : Int32))])) _
          refine XS.iconst X297.here hx rfl (hb hby at_172) ?_
          show Steps p.tables e below (T297.setTop (mkF m 173 #[.val (.int p0), .val (.int p1), .val (.int p2), .val (.int p3), .val (.int p4), .val (.int p5), .val (.int v162), .val (.ref b164), .val (.int r271), .val (.int r276), .val (.int r281), .val (.int (1 : Int32)), .val (.int (0 : Int32)), .val (.int (0 : Int32))] [(.int (2 : Int32)), (.int (1 : Int32))])) _
          refine XS.icmpYes X297.here hx rfl (pc0 := 173) (pc' := 188) rfl (hb hby at_173) rfl (tlt (by decide : (1 : Int32) < (2 : Int32))).1 (by decide) (by decide) ?_
          show Steps p.tables e below (T297.setTop (mkF m 188 #[.val (.int p0), .val (.int p1), .val (.int p2), .val (.int p3), .val (.int p4), .val (.int p5), .val (.int v162), .val (.ref b164), .val (.int r271), .val (.int r276), .val (.int r281), .val (.int (1 : Int32)), .val (.int (0 : Int32)), .val (.int (0 : Int32))] [])) _
          refine XS.iload X297.here hx rfl (hb hby at_188) rfl ?_
          show Steps p.tables e below (T297.setTop (mkF m 190 #[.val (.int p0), .val (.int p1), .val (.int p2), .val (.int p3), .val (.int p4), .val (.int p5), .val (.int v162), .val (.ref b164), .val (.int r271), .val (.int r276), .val (.int r281), .val (.int (1 : Int32)), .val (.int (0 : Int32)), .val (.int (0 : Int32))] [(.int (1 : Int32))])) _
          refine XS.iconst X297.here hx rfl (hb hby at_190) ?_
          show Steps p.tables e below (T297.setTop (mkF m 191 #[.val (.int p0), .val (.int p1), .val (.int p2), .val (.int p3), .val (.int p4), .val (.int p5), .val (.int v162), .val (.ref b164), .val (.int r271), .val (.int r276), .val (.int r281), .val (.int (1 : Int32)), .val (.int (0 : Int32)), .val (.int (0 : Int32))] [(.int (3 : Int32)), (.int (1 : Int32))])) _
          refine XS.icmpYes X297.here hx rfl (pc0 := 191) (pc' := 206) rfl (hb hby at_191) rfl (tlt (by decide : (1 : Int32) < (3 : Int32))).1 (by decide) (by decide) ?_
          show Steps p.tables e below (T297.setTop (mkF m 206 #[.val (.int p0), .val (.int p1), .val (.int p2), .val (.int p3), .val (.int p4), .val (.int p5), .val (.int v162), .val (.ref b164), .val (.int r271), .val (.int r276), .val (.int r281), .val (.int (1 : Int32)), .val (.int (0 : Int32)), .val (.int (0 : Int32))] [])) _
          refine XS.aload X297.here hx rfl (hb hby at_206) rfl rfl ?_
          show Steps p.tables e below (T297.setTop (mkF m 208 #[.val (.int p0), .val (.int p1), .val (.int p2), .val (.int p3), .val (.int p4), .val (.int p5), .val (.int v162), .val (.ref b164), .val (.int r271), .val (.int r276), .val (.int r281), .val (.int (1 : Int32)), .val (.int (0 : Int32)), .val (.int (0 : Int32))] [(.ref b164)])) _
          refine st299.trans ?_
          show Steps p.tables e below (T299.setTop (mkF m 211 #[.val (.int p0), .val (.int p1), .val (.int p2), .val (.int p3), .val (.int p4), .val (.int p5), .val (.int v162), .val (.ref b164), .val (.int r271), .val (.int r276), .val (.int r281), .val (.int (1 : Int32)), .val (.int (0 : Int32)), .val (.int (0 : Int32))] [(.int (if ([] : List Int32).length = 0 then (1 : Int32) else (0 : Int32)))])) _
          exact kt
        obtain ⟨fs, hr, hrun, hended, hW, hsame⟩ := X299.leave (v := some (.int (nar .boolean (if ([] : List Int32).length = 0 then (1 : Int32) else (0 : Int32))))) (fun h => by rw [Bd.returns] at h; cases h)
        refine ⟨_, _, k300 _ (retN X299 hx (t := .boolean) Bd.returns (by simp) (hb hby at_211) hr), hrun, hended, _, _, rfl, ?_, ⟨_, rfl⟩, hW, hsame.mono (by decide) (by decide)⟩
        show Q0 Z p0 p1 p2 p3 p4 p5 h0 n0 _ T299.heap _
        rw [eq299]
        exact ⟨rfl, N299⟩
      · have hc132_301 : ¬ (r281 = r276) := (fun q => hc125_293 (q.trans hc111_291))
        have hq302 : (own_add (own_add (own_add ([] : List Int32) r271) r276) r281) = [r271, r281] := by
          simp [own_add, hc111_291, hc125_293, hc132_301]
        have Rt303 : own_Ring Z T289.heap b164 ra170 wa170 v162 n (r271 :: [r281]) := (by have q := R289; rw [hq302] at q; exact q)
        have f304 := (Nat.le_trans f288 oK289.1)
        obtain ⟨cq305, kq305, q305a, q305b, q305c⟩ := isOf hZ rfl R289.exa
        obtain ⟨_, _, ⟨T305, L305, kc305, nc305⟩, -, X305, ⟨Lc305, hQ305, l305, y305, z305⟩, st305⟩ := X289.virtualBack hx (y := (⟨"com/example/tablewise/tablewise/propagation/WaitingRing", "take", "()I"⟩ : MethodName)) (z := (⟨"com/example/tablewise/tablewise/propagation/WaitingRing", "take", "()I"⟩ : MethodName)) hown (mvT hZ (hw _ (List.mem_of_getElem? (i := 29) rfl))) (mvT hZ (hw _ (List.mem_of_getElem? (i := 30) rfl))) (notFace_of_selects (args := #[]) (mvT hZ (hw _ (List.mem_of_getElem? (i := 32) rfl)))) (mvT hZ (hw _ (List.mem_of_getElem? (i := 32) rfl))) (mvT hZ (hw _ (List.mem_of_getElem? (i := 31) rfl))) (by decide) (backOf (W := 0) (rm5 l Z a0 hw [] b164 ra170 wa170 v162 n r271 ([r281]) T289.heap n0 f304 ge_b164 gra170 gwa170 Rt303) hZ (hw _ (List.mem_of_getElem? (i := 33) rfl)) (hw _ (List.mem_of_getElem? (i := 2) rfl)) (by decide) (by decide)) q305a q305c (g := (mkF m 160 #[.val (.int p0), .val (.int p1), .val (.int p2), .val (.int p3), .val (.int p4), .val (.int p5), .val (.int v162), .val (.ref b164), .val (.int r271), .val (.int r276), .val (.int r281), .val (.int (2 : Int32)), .val (.int r281), .val (.int (0 : Int32))] [(.ref b164)])) rfl (by rw [hml]; rfl) (Steps.refl _) (argsL := []) (rest := []) (lenOf pd_3 rfl) rfl (by show 2 * 0 + _ ≤ _; exact Nat.le_of_eq rfl) (hb hby at_160) (fun _ _ => ⟨rfl, rfl, (by decide : 3 + 0 ≤ _), (by decide : 12 + 0 ≤ _)⟩)
        dsimp only [Pt.U, Pt.locs, Pt.cells, Pt.slots] at X305 l305 y305 z305 st305 hQ305
        subst l305 y305 z305
        obtain ⟨rfl, Nq305, oK305, m0_305⟩ := hQ305
        have N305 := Fr.app N289 Nq305
        have R305 := m0_305
        have hc165_306 : r271 = r271 := rfl
        have Rt307 : own_Ring Z T305.heap b164 ra170 wa170 v162 n (r281 :: ([] : List Int32)) := (by have q := R305; rw [show [r281] = [r281] from rfl] at q; exact q)
        have f308 := (Nat.le_trans f304 oK305.1)
        obtain ⟨cq309, kq309, q309a, q309b, q309c⟩ := isOf hZ rfl R305.exa
        obtain ⟨_, _, ⟨T309, L309, kc309, nc309⟩, -, X309, ⟨Lc309, hQ309, l309, y309, z309⟩, st309⟩ := X305.virtualBack hx (y := (⟨"com/example/tablewise/tablewise/propagation/WaitingRing", "take", "()I"⟩ : MethodName)) (z := (⟨"com/example/tablewise/tablewise/propagation/WaitingRing", "take", "()I"⟩ : MethodName)) hown (mvT hZ (hw _ (List.mem_of_getElem? (i := 29) rfl))) (mvT hZ (hw _ (List.mem_of_getElem? (i := 30) rfl))) (notFace_of_selects (args := #[]) (mvT hZ (hw _ (List.mem_of_getElem? (i := 32) rfl)))) (mvT hZ (hw _ (List.mem_of_getElem? (i := 32) rfl))) (mvT hZ (hw _ (List.mem_of_getElem? (i := 31) rfl))) (by decide) (backOf (W := 0) (rm5 l Z a0 hw [] b164 ra170 wa170 v162 n r281 ([] : List Int32) T305.heap n0 f308 ge_b164 gra170 gwa170 Rt307) hZ (hw _ (List.mem_of_getElem? (i := 33) rfl)) (hw _ (List.mem_of_getElem? (i := 2) rfl)) (by decide) (by decide)) q309a q309c (g := (mkF m 178 #[.val (.int p0), .val (.int p1), .val (.int p2), .val (.int p3), .val (.int p4), .val (.int p5), .val (.int v162), .val (.ref b164), .val (.int r271), .val (.int r276), .val (.int r281), .val (.int (2 : Int32)), .val (.int r281), .val (.int (0 : Int32))] [(.ref b164)])) rfl (by rw [hml]; rfl) (Steps.refl _) (argsL := []) (rest := []) (lenOf pd_3 rfl) rfl (by show 2 * 0 + _ ≤ _; exact Nat.le_of_eq rfl) (hb hby at_178) (fun _ _ => ⟨rfl, rfl, (by decide : 3 + 0 ≤ _), (by decide : 12 + 0 ≤ _)⟩)
        dsimp only [Pt.U, Pt.locs, Pt.cells, Pt.slots] at X309 l309 y309 z309 st309 hQ309
        subst l309 y309 z309
        obtain ⟨rfl, Nq309, oK309, m0_309⟩ := hQ309
        have N309 := Fr.app N305 Nq309
        have R309 := m0_309
        have hc183_310 : r281 = r281 := rfl
        obtain ⟨cq311, kq311, q311a, q311b, q311c⟩ := isOf hZ rfl R309.exa
        obtain ⟨_, _, ⟨T311, L311, kc311, nc311⟩, -, X311, ⟨Lc311, hQ311, l311, y311, z311⟩, st311⟩ := X309.virtualBack hx (y := (⟨"com/example/tablewise/tablewise/propagation/WaitingRing", "isEmpty", "()Z"⟩ : MethodName)) (z := (⟨"com/example/tablewise/tablewise/propagation/WaitingRing", "isEmpty", "()Z"⟩ : MethodName)) hown (mvT hZ (hw _ (List.mem_of_getElem? (i := 34) rfl))) (mvT hZ (hw _ (List.mem_of_getElem? (i := 35) rfl))) (notFace_of_selects (args := #[]) (mvT hZ (hw _ (List.mem_of_getElem? (i := 37) rfl)))) (mvT hZ (hw _ (List.mem_of_getElem? (i := 37) rfl))) (mvT hZ (hw _ (List.mem_of_getElem? (i := 36) rfl))) (by decide) (backOf (W := 0) (rm6 l Z a0 hw [] b164 ra170 wa170 v162 n ([] : List Int32) T309.heap n0 R309) hZ (hw _ (List.mem_of_getElem? (i := 38) rfl)) (hw _ (List.mem_of_getElem? (i := 2) rfl)) (by decide) (by decide)) q311a q311c (g := (mkF m 208 #[.val (.int p0), .val (.int p1), .val (.int p2), .val (.int p3), .val (.int p4), .val (.int p5), .val (.int v162), .val (.ref b164), .val (.int r271), .val (.int r276), .val (.int r281), .val (.int (2 : Int32)), .val (.int r281), .val (.int (0 : Int32))] [(.ref b164)])) rfl (by rw [hml]; rfl) (Steps.refl _) (argsL := []) (rest := []) (lenOf pd_4 rfl) rfl (by show 2 * 0 + _ ≤ _; exact Nat.le_of_eq rfl) (hb hby at_208) (fun _ _ => ⟨rfl, rfl, (by decide : 3 + 0 ≤ _), (by decide : 12 + 0 ≤ _)⟩)
        dsimp only [Pt.U, Pt.locs, Pt.cells, Pt.slots] at X311 l311 y311 z311 st311 hQ311
        subst l311 y311 z311
        obtain ⟨rfl, Nq311, eq311⟩ := hQ311
        have N311 := Fr.app N309 Nq311
        have k312 : ∀ tg_, Steps p.tables e below (T311.setTop (mkF m 211 #[.val (.int p0), .val (.int p1), .val (.int p2), .val (.int p3), .val (.int p4), .val (.int p5), .val (.int v162), .val (.ref b164), .val (.int r271), .val (.int r276), .val (.int r281), .val (.int (2 : Int32)), .val (.int r281), .val (.int (0 : Int32))] [(.int (if ([] : List Int32).length = 0 then (1 : Int32) else (0 : Int32)))])) tg_ → Steps p.tables e below (s₁.setTop (entryFrame m #[(.int p0), (.int p1), (.int p2), (.int p3), (.int p4), (.int p5)] maxLocals)) tg_ := by
          intro tg_ kt
          refine k292 tg_ ?_
          refine XS.icmpNo X289.here hx rfl (hb hby at_125) rfl (feq hc125_293).1 ?_
          show Steps p.tables e below (T289.setTop (mkF m 128 #[.val (.int p0), .val (.int p1), .val (.int p2), .val (.int p3), .val (.int p4), .val (.int p5), .val (.int v162), .val (.ref b164), .val (.int r271), .val (.int r276), .val (.int r281), .val (.int (1 : Int32)), .val (.int (0 : Int32)), .val (.int (0 : Int32))] [])) _
          refine XS.iload X289.here hx rfl (hb hby at_128) rfl ?_
          show Steps p.tables e below (T289.setTop (mkF m 130 #[.val (.int p0), .val (.int p1), .val (.int p2), .val (.int p3), .val (.int p4), .val (.int p5), .val (.int v162), .val (.ref b164), .val (.int r271), .val (.int r276), .val (.int r281), .val (.int (1 : Int32)), .val (.int (0 : Int32)), .val (.int (0 : Int32))] [(.int r281)])) _
          refine XS.iload X289.here hx rfl (hb hby at_130) rfl ?_
          show Steps p.tables e below (T289.setTop (mkF m 132 #[.val (.int p0), .val (.int p1), .val (.int p2), .val (.int p3), .val (.int p4), .val (.int p5), .val (.int v162), .val (.ref b164), .val (.int r271), .val (.int r276), .val (.int r281), .val (.int (1 : Int32)), .val (.int (0 : Int32)), .val (.int (0 : Int32))] [(.int r276), (.int r281)])) _
          refine XS.icmpNo X289.here hx rfl (hb hby at_132) rfl (feq hc132_301).1 ?_
          show Steps p.tables e below (T289.setTop (mkF m 135 #[.val (.int p0), .val (.int p1), .val (.int p2), .val (.int p3), .val (.int p4), .val (.int p5), .val (.int v162), .val (.ref b164), .val (.int r271), .val (.int r276), .val (.int r281), .val (.int (1 : Int32)), .val (.int (0 : Int32)), .val (.int (0 : Int32))] [])) _
          refine XS.iload X289.here hx rfl (hb hby at_135) rfl ?_
          show Steps p.tables e below (T289.setTop (mkF m 137 #[.val (.int p0), .val (.int p1), .val (.int p2), .val (.int p3), .val (.int p4), .val (.int p5), .val (.int v162), .val (.ref b164), .val (.int r271), .val (.int r276), .val (.int r281), .val (.int (1 : Int32)), .val (.int (0 : Int32)), .val (.int (0 : Int32))] [(.int (1 : Int32))])) _
          refine XS.iconst X289.here hx rfl (hb hby at_137) ?_
          show Steps p.tables e below (T289.setTop (mkF m 138 #[.val (.int p0), .val (.int p1), .val (.int p2), .val (.int p3), .val (.int p4), .val (.int p5), .val (.int v162), .val (.ref b164), .val (.int r271), .val (.int r276), .val (.int r281), .val (.int (1 : Int32)), .val (.int (0 : Int32)), .val (.int (0 : Int32))] [(.int (1 : Int32)), (.int (1 : Int32))])) _
          refine XS.icmpNo X289.here hx rfl (hb hby at_138) rfl (teq (by decide : (1 : Int32) = (1 : Int32))).2 ?_
          show Steps p.tables e below (T289.setTop (mkF m 141 #[.val (.int p0), .val (.int p1), .val (.int p2), .val (.int p3), .val (.int p4), .val (.int p5), .val (.int v162), .val (.ref b164), .val (.int r271), .val (.int r276), .val (.int r281), .val (.int (1 : Int32)), .val (.int (0 : Int32)), .val (.int (0 : Int32))] [])) _
          refine XS.iload X289.here hx rfl (hb hby at_141) rfl ?_
          show Steps p.tables e below (T289.setTop (mkF m 143 #[.val (.int p0), .val (.int p1), .val (.int p2), .val (.int p3), .val (.int p4), .val (.int p5), .val (.int v162), .val (.ref b164), .val (.int r271), .val (.int r276), .val (.int r281), .val (.int (1 : Int32)), .val (.int (0 : Int32)), .val (.int (0 : Int32))] [(.int r281)])) _
          refine XS.istore X289.here hx rfl (hb hby at_143) rfl (l' := #[.val (.int p0), .val (.int p1), .val (.int p2), .val (.int p3), .val (.int p4), .val (.int p5), .val (.int v162), .val (.ref b164), .val (.int r271), .val (.int r276), .val (.int r281), .val (.int (1 : Int32)), .val (.int r281), .val (.int (0 : Int32))]) rfl ?_
          show Steps p.tables e below (T289.setTop (mkF m 145 #[.val (.int p0), .val (.int p1), .val (.int p2), .val (.int p3), .val (.int p4), .val (.int p5), .val (.int v162), .val (.ref b164), .val (.int r271), .val (.int r276), .val (.int r281), .val (.int (1 : Int32)), .val (.int r281), .val (.int (0 : Int32))] [])) _
          refine XS.goto X289.here hx rfl (pc0 := 145) (pc' := 152) rfl (hb hby at_145) (by decide) (by decide) ?_
          show Steps p.tables e below (T289.setTop (mkF m 152 #[.val (.int p0), .val (.int p1), .val (.int p2), .val (.int p3), .val (.int p4), .val (.int p5), .val (.int v162), .val (.ref b164), .val (.int r271), .val (.int r276), .val (.int r281), .val (.int (1 : Int32)), .val (.int r281), .val (.int (0 : Int32))] [])) _
          refine XS.iload X289.here hx rfl (hb hby at_152) rfl ?_
          show Steps p.tables e below (T289.setTop (mkF m 154 #[.val (.int p0), .val (.int p1), .val (.int p2), .val (.int p3), .val (.int p4), .val (.int p5), .val (.int v162), .val (.ref b164), .val (.int r271), .val (.int r276), .val (.int r281), .val (.int (1 : Int32)), .val (.int r281), .val (.int (0 : Int32))] [(.int (1 : Int32))])) _
          refine XS.iconst X289.here hx rfl (hb hby at_154) ?_
          show Steps p.tables e below (T289.setTop (mkF m 155 #[.val (.int p0), .val (.int p1), .val (.int p2), .val (.int p3), .val (.int p4), .val (.int p5), .val (.int v162), .val (.ref b164), .val (.int r271), .val (.int r276), .val (.int r281), .val (.int (1 : Int32)), .val (.int r281), .val (.int (0 : Int32))] [(.int (1 : Int32)), (.int (1 : Int32))])) _
          refine XS.iadd X289.here hx rfl (hb hby at_155) rfl ?_
          show Steps p.tables e below (T289.setTop (mkF m 156 #[.val (.int p0), .val (.int p1), .val (.int p2), .val (.int p3), .val (.int p4), .val (.int p5), .val (.int v162), .val (.ref b164), .val (.int r271), .val (.int r276), .val (.int r281), .val (.int (1 : Int32)), .val (.int r281), .val (.int (0 : Int32))] [(.int (2 : Int32))])) _
          refine XS.istore X289.here hx rfl (hb hby at_156) rfl (l' := #[.val (.int p0), .val (.int p1), .val (.int p2), .val (.int p3), .val (.int p4), .val (.int p5), .val (.int v162), .val (.ref b164), .val (.int r271), .val (.int r276), .val (.int r281), .val (.int (2 : Int32)), .val (.int r281), .val (.int (0 : Int32))]) rfl ?_
          show Steps p.tables e below (T289.setTop (mkF m 158 #[.val (.int p0), .val (.int p1), .val (.int p2), .val (.int p3), .val (.int p4), .val (.int p5), .val (.int v162), .val (.ref b164), .val (.int r271), .val (.int r276), .val (.int r281), .val (.int (2 : Int32)), .val (.int r281), .val (.int (0 : Int32))] [])) _
          refine XS.aload X289.here hx rfl (hb hby at_158) rfl rfl ?_
          show Steps p.tables e below (T289.setTop (mkF m 160 #[.val (.int p0), .val (.int p1), .val (.int p2), .val (.int p3), .val (.int p4), .val (.int p5), .val (.int v162), .val (.ref b164), .val (.int r271), .val (.int r276), .val (.int r281), .val (.int (2 : Int32)), .val (.int r281), .val (.int (0 : Int32))] [(.ref b164)])) _
          refine st305.trans ?_
          show Steps p.tables e below (T305.setTop (mkF m 163 #[.val (.int p0), .val (.int p1), .val (.int p2), .val (.int p3), .val (.int p4), .val (.int p5), .val (.int v162), .val (.ref b164), .val (.int r271), .val (.int r276), .val (.int r281), .val (.int (2 : Int32)), .val (.int r281), .val (.int (0 : Int32))] [(.int r271)])) _
          refine XS.iload X305.here hx rfl (hb hby at_163) rfl ?_
          show Steps p.tables e below (T305.setTop (mkF m 165 #[.val (.int p0), .val (.int p1), .val (.int p2), .val (.int p3), .val (.int p4), .val (.int p5), .val (.int v162), .val (.ref b164), .val (.int r271), .val (.int r276), .val (.int r281), .val (.int (2 : Int32)), .val (.int r281), .val (.int (0 : Int32))] [(.int r271), (.int r271)])) _
          refine XS.icmpYes X305.here hx rfl (pc0 := 165) (pc' := 170) rfl (hb hby at_165) rfl (teq hc165_306).1 (by decide) (by decide) ?_
          show Steps p.tables e below (T305.setTop (mkF m 170 #[.val (.int p0), .val (.int p1), .val (.int p2), .val (.int p3), .val (.int p4), .val (.int p5), .val (.int v162), .val (.ref b164), .val (.int r271), .val (.int r276), .val (.int r281), .val (.int (2 : Int32)), .val (.int r281), .val (.int (0 : Int32))] [])) _
          refine XS.iload X305.here hx rfl (hb hby at_170) rfl ?_
          show Steps p.tables e below (T305.setTop (mkF m 172 #[.val (.int p0), .val (.int p1), .val (.int p2), .val (.int p3), .val (.int p4), .val (.int p5), .val (.int v162), .val (.ref b164), .val (.int r271), .val (.int r276), .val (.int r281), .val (.int (2 : Int32)), .val (.int r281), .val (.int (0 : Int32))] [(.int (2 : Int32))])) _
          refine XS.iconst X305.here hx rfl (hb hby at_172) ?_
          show Steps p.tables e below (T305.setTop (mkF m 173 #[.val (.int p0), .val (.int p1), .val (.int p2), .val (.int p3), .val (.int p4), .val (.int p5), .val (.int v162), .val (.ref b164), .val (.int r271), .val (.int r276), .val (.int r281), .val (.int (2 : Int32)), .val (.int r281), .val (.int (0 : Int32))] [(.int (2 : Int32)), (.int (2 : Int32))])) _
          refine XS.icmpNo X305.here hx rfl (hb hby at_173) rfl (flt (by decide : ¬ ((2 : Int32) < (2 : Int32)))).1 ?_
          show Steps p.tables e below (T305.setTop (mkF m 176 #[.val (.int p0), .val (.int p1), .val (.int p2), .val (.int p3), .val (.int p4), .val (.int p5), .val (.int v162), .val (.ref b164), .val (.int r271), .val (.int r276), .val (.int r281), .val (.int (2 : Int32)), .val (.int r281), .val (.int (0 : Int32))] [])) _
          refine XS.aload X305.here hx rfl (hb hby at_176) rfl rfl ?_
          show Steps p.tables e below (T305.setTop (mkF m 178 #[.val (.int p0), .val (.int p1), .val (.int p2), .val (.int p3), .val (.int p4), .val (.int p5), .val (.int v162), .val (.ref b164), .val (.int r271), .val (.int r276), .val (.int r281), .val (.int (2 : Int32)), .val (.int r281), .val (.int (0 : Int32))] [(.ref b164)])) _
          refine st309.trans ?_
          show Steps p.tables e below (T309.setTop (mkF m 181 #[.val (.int p0), .val (.int p1), .val (.int p2), .val (.int p3), .val (.int p4), .val (.int p5), .val (.int v162), .val (.ref b164), .val (.int r271), .val (.int r276), .val (.int r281), .val (.int (2 : Int32)), .val (.int r281), .val (.int (0 : Int32))] [(.int r281)])) _
          refine XS.iload X309.here hx rfl (hb hby at_181) rfl ?_
          show Steps p.tables e below (T309.setTop (mkF m 183 #[.val (.int p0), .val (.int p1), .val (.int p2), .val (.int p3), .val (.int p4), .val (.int p5), .val (.int v162), .val (.ref b164), .val (.int r271), .val (.int r276), .val (.int r281), .val (.int (2 : Int32)), .val (.int r281), .val (.int (0 : Int32))] [(.int r281), (.int r281)])) _
          refine XS.icmpYes X309.here hx rfl (pc0 := 183) (pc' := 188) rfl (hb hby at_183) rfl (teq hc183_310).1 (by decide) (by decide) ?_
          show Steps p.tables e below (T309.setTop (mkF m 188 #[.val (.int p0), .val (.int p1), .val (.int p2), .val (.int p3), .val (.int p4), .val (.int p5), .val (.int v162), .val (.ref b164), .val (.int r271), .val (.int r276), .val (.int r281), .val (.int (2 : Int32)), .val (.int r281), .val (.int (0 : Int32))] [])) _
          refine XS.iload X309.here hx rfl (hb hby at_188) rfl ?_
          show Steps p.tables e below (T309.setTop (mkF m 190 #[.val (.int p0), .val (.int p1), .val (.int p2), .val (.int p3), .val (.int p4), .val (.int p5), .val (.int v162), .val (.ref b164), .val (.int r271), .val (.int r276), .val (.int r281), .val (.int (2 : Int32)), .val (.int r281), .val (.int (0 : Int32))] [(.int (2 : Int32))])) _
          refine XS.iconst X309.here hx rfl (hb hby at_190) ?_
          show Steps p.tables e below (T309.setTop (mkF m 191 #[.val (.int p0), .val (.int p1), .val (.int p2), .val (.int p3), .val (.int p4), .val (.int p5), .val (.int v162), .val (.ref b164), .val (.int r271), .val (.int r276), .val (.int r281), .val (.int (2 : Int32)), .val (.int r281), .val (.int (0 : Int32))] [(.int (3 : Int32)), (.int (2 : Int32))])) _
          refine XS.icmpYes X309.here hx rfl (pc0 := 191) (pc' := 206) rfl (hb hby at_191) rfl (tlt (by decide : (2 : Int32) < (3 : Int32))).1 (by decide) (by decide) ?_
          show Steps p.tables e below (T309.setTop (mkF m 206 #[.val (.int p0), .val (.int p1), .val (.int p2), .val (.int p3), .val (.int p4), .val (.int p5), .val (.int v162), .val (.ref b164), .val (.int r271), .val (.int r276), .val (.int r281), .val (.int (2 : Int32)), .val (.int r281), .val (.int (0 : Int32))] [])) _
          refine XS.aload X309.here hx rfl (hb hby at_206) rfl rfl ?_
          show Steps p.tables e below (T309.setTop (mkF m 208 #[.val (.int p0), .val (.int p1), .val (.int p2), .val (.int p3), .val (.int p4), .val (.int p5), .val (.int v162), .val (.ref b164), .val (.int r271), .val (.int r276), .val (.int r281), .val (.int (2 : Int32)), .val (.int r281), .val (.int (0 : Int32))] [(.ref b164)])) _
          refine st311.trans ?_
          show Steps p.tables e below (T311.setTop (mkF m 211 #[.val (.int p0), .val (.int p1), .val (.int p2), .val (.int p3), .val (.int p4), .val (.int p5), .val (.int v162), .val (.ref b164), .val (.int r271), .val (.int r276), .val (.int r281), .val (.int (2 : Int32)), .val (.int r281), .val (.int (0 : Int32))] [(.int (if ([] : List Int32).length = 0 then (1 : Int32) else (0 : Int32)))])) _
          exact kt
        obtain ⟨fs, hr, hrun, hended, hW, hsame⟩ := X311.leave (v := some (.int (nar .boolean (if ([] : List Int32).length = 0 then (1 : Int32) else (0 : Int32))))) (fun h => by rw [Bd.returns] at h; cases h)
        refine ⟨_, _, k312 _ (retN X311 hx (t := .boolean) Bd.returns (by simp) (hb hby at_211) hr), hrun, hended, _, _, rfl, ?_, ⟨_, rfl⟩, hW, hsame.mono (by decide) (by decide)⟩
        show Q0 Z p0 p1 p2 p3 p4 p5 h0 n0 _ T311.heap _
        rw [eq311]
        exact ⟨rfl, N311⟩
    · have k313 : ∀ tg_, Steps p.tables e below (T289.setTop (mkF m 125 #[.val (.int p0), .val (.int p1), .val (.int p2), .val (.int p3), .val (.int p4), .val (.int p5), .val (.int v162), .val (.ref b164), .val (.int r271), .val (.int r276), .val (.int r281), .val (.int (2 : Int32)), .val (.int r276), .val (.int (0 : Int32))] [(.int r271), (.int r281)])) tg_ → Steps p.tables e below (s₁.setTop (entryFrame m #[(.int p0), (.int p1), (.int p2), (.int p3), (.int p4), (.int p5)] maxLocals)) tg_ := by
        intro tg_ kt
        refine k290 tg_ ?_
        refine XS.icmpNo X289.here hx rfl (hb hby at_111) rfl (feq hc111_291).1 ?_
        show Steps p.tables e below (T289.setTop (mkF m 114 #[.val (.int p0), .val (.int p1), .val (.int p2), .val (.int p3), .val (.int p4), .val (.int p5), .val (.int v162), .val (.ref b164), .val (.int r271), .val (.int r276), .val (.int r281), .val (.int (1 : Int32)), .val (.int (0 : Int32)), .val (.int (0 : Int32))] [])) _
        refine XS.iload X289.here hx rfl (hb hby at_114) rfl ?_
        show Steps p.tables e below (T289.setTop (mkF m 116 #[.val (.int p0), .val (.int p1), .val (.int p2), .val (.int p3), .val (.int p4), .val (.int p5), .val (.int v162), .val (.ref b164), .val (.int r271), .val (.int r276), .val (.int r281), .val (.int (1 : Int32)), .val (.int (0 : Int32)), .val (.int (0 : Int32))] [(.int r276)])) _
        refine XS.istore X289.here hx rfl (hb hby at_116) rfl (l' := #[.val (.int p0), .val (.int p1), .val (.int p2), .val (.int p3), .val (.int p4), .val (.int p5), .val (.int v162), .val (.ref b164), .val (.int r271), .val (.int r276), .val (.int r281), .val (.int (1 : Int32)), .val (.int r276), .val (.int (0 : Int32))]) rfl ?_
        show Steps p.tables e below (T289.setTop (mkF m 118 #[.val (.int p0), .val (.int p1), .val (.int p2), .val (.int p3), .val (.int p4), .val (.int p5), .val (.int v162), .val (.ref b164), .val (.int r271), .val (.int r276), .val (.int r281), .val (.int (1 : Int32)), .val (.int r276), .val (.int (0 : Int32))] [])) _
        refine XS.iconst X289.here hx rfl (hb hby at_118) ?_
        show Steps p.tables e below (T289.setTop (mkF m 119 #[.val (.int p0), .val (.int p1), .val (.int p2), .val (.int p3), .val (.int p4), .val (.int p5), .val (.int v162), .val (.ref b164), .val (.int r271), .val (.int r276), .val (.int r281), .val (.int (1 : Int32)), .val (.int r276), .val (.int (0 : Int32))] [(.int (2 : Int32))])) _
        refine XS.istore X289.here hx rfl (hb hby at_119) rfl (l' := #[.val (.int p0), .val (.int p1), .val (.int p2), .val (.int p3), .val (.int p4), .val (.int p5), .val (.int v162), .val (.ref b164), .val (.int r271), .val (.int r276), .val (.int r281), .val (.int (2 : Int32)), .val (.int r276), .val (.int (0 : Int32))]) rfl ?_
        show Steps p.tables e below (T289.setTop (mkF m 121 #[.val (.int p0), .val (.int p1), .val (.int p2), .val (.int p3), .val (.int p4), .val (.int p5), .val (.int v162), .val (.ref b164), .val (.int r271), .val (.int r276), .val (.int r281), .val (.int (2 : Int32)), .val (.int r276), .val (.int (0 : Int32))] [])) _
        refine XS.iload X289.here hx rfl (hb hby at_121) rfl ?_
        show Steps p.tables e below (T289.setTop (mkF m 123 #[.val (.int p0), .val (.int p1), .val (.int p2), .val (.int p3), .val (.int p4), .val (.int p5), .val (.int v162), .val (.ref b164), .val (.int r271), .val (.int r276), .val (.int r281), .val (.int (2 : Int32)), .val (.int r276), .val (.int (0 : Int32))] [(.int r281)])) _
        refine XS.iload X289.here hx rfl (hb hby at_123) rfl ?_
        show Steps p.tables e below (T289.setTop (mkF m 125 #[.val (.int p0), .val (.int p1), .val (.int p2), .val (.int p3), .val (.int p4), .val (.int p5), .val (.int v162), .val (.ref b164), .val (.int r271), .val (.int r276), .val (.int r281), .val (.int (2 : Int32)), .val (.int r276), .val (.int (0 : Int32))] [(.int r271), (.int r281)])) _
        exact kt
      by_cases hc125_314 : r281 = r271
      · have hq315 : (own_add (own_add (own_add ([] : List Int32) r271) r276) r281) = [r271, r276] := by
          simp [own_add, hc111_291, hc125_314]
        have Rt316 : own_Ring Z T289.heap b164 ra170 wa170 v162 n (r271 :: [r276]) := (by have q := R289; rw [hq315] at q; exact q)
        have f317 := (Nat.le_trans f288 oK289.1)
        obtain ⟨cq318, kq318, q318a, q318b, q318c⟩ := isOf hZ rfl R289.exa
        obtain ⟨_, _, ⟨T318, L318, kc318, nc318⟩, -, X318, ⟨Lc318, hQ318, l318, y318, z318⟩, st318⟩ := X289.virtualBack hx (y := (⟨"com/example/tablewise/tablewise/propagation/WaitingRing", "take", "()I"⟩ : MethodName)) (z := (⟨"com/example/tablewise/tablewise/propagation/WaitingRing", "take", "()I"⟩ : MethodName)) hown (mvT hZ (hw _ (List.mem_of_getElem? (i := 29) rfl))) (mvT hZ (hw _ (List.mem_of_getElem? (i := 30) rfl))) (notFace_of_selects (args := #[]) (mvT hZ (hw _ (List.mem_of_getElem? (i := 32) rfl)))) (mvT hZ (hw _ (List.mem_of_getElem? (i := 32) rfl))) (mvT hZ (hw _ (List.mem_of_getElem? (i := 31) rfl))) (by decide) (backOf (W := 0) (rm5 l Z a0 hw [] b164 ra170 wa170 v162 n r271 ([r276]) T289.heap n0 f317 ge_b164 gra170 gwa170 Rt316) hZ (hw _ (List.mem_of_getElem? (i := 33) rfl)) (hw _ (List.mem_of_getElem? (i := 2) rfl)) (by decide) (by decide)) q318a q318c (g := (mkF m 160 #[.val (.int p0), .val (.int p1), .val (.int p2), .val (.int p3), .val (.int p4), .val (.int p5), .val (.int v162), .val (.ref b164), .val (.int r271), .val (.int r276), .val (.int r281), .val (.int (2 : Int32)), .val (.int r276), .val (.int (0 : Int32))] [(.ref b164)])) rfl (by rw [hml]; rfl) (Steps.refl _) (argsL := []) (rest := []) (lenOf pd_3 rfl) rfl (by show 2 * 0 + _ ≤ _; exact Nat.le_of_eq rfl) (hb hby at_160) (fun _ _ => ⟨rfl, rfl, (by decide : 3 + 0 ≤ _), (by decide : 12 + 0 ≤ _)⟩)
        dsimp only [Pt.U, Pt.locs, Pt.cells, Pt.slots] at X318 l318 y318 z318 st318 hQ318
        subst l318 y318 z318
        obtain ⟨rfl, Nq318, oK318, m0_318⟩ := hQ318
        have N318 := Fr.app N289 Nq318
        have R318 := m0_318
        have hc165_319 : r271 = r271 := rfl
        have Rt320 : own_Ring Z T318.heap b164 ra170 wa170 v162 n (r276 :: ([] : List Int32)) := (by have q := R318; rw [show [r276] = [r276] from rfl] at q; exact q)
        have f321 := (Nat.le_trans f317 oK318.1)
        obtain ⟨cq322, kq322, q322a, q322b, q322c⟩ := isOf hZ rfl R318.exa
        obtain ⟨_, _, ⟨T322, L322, kc322, nc322⟩, -, X322, ⟨Lc322, hQ322, l322, y322, z322⟩, st322⟩ := X318.virtualBack hx (y := (⟨"com/example/tablewise/tablewise/propagation/WaitingRing", "take", "()I"⟩ : MethodName)) (z := (⟨"com/example/tablewise/tablewise/propagation/WaitingRing", "take", "()I"⟩ : MethodName)) hown (mvT hZ (hw _ (List.mem_of_getElem? (i := 29) rfl))) (mvT hZ (hw _ (List.mem_of_getElem? (i := 30) rfl))) (notFace_of_selects (args := #[]) (mvT hZ (hw _ (List.mem_of_getElem? (i := 32) rfl)))) (mvT hZ (hw _ (List.mem_of_getElem? (i := 32) rfl))) (mvT hZ (hw _ (List.mem_of_getElem? (i := 31) rfl))) (by decide) (backOf (W := 0) (rm5 l Z a0 hw [] b164 ra170 wa170 v162 n r276 ([] : List Int32) T318.heap n0 f321 ge_b164 gra170 gwa170 Rt320) hZ (hw _ (List.mem_of_getElem? (i := 33) rfl)) (hw _ (List.mem_of_getElem? (i := 2) rfl)) (by decide) (by decide)) q322a q322c (g := (mkF m 178 #[.val (.int p0), .val (.int p1), .val (.int p2), .val (.int p3), .val (.int p4), .val (.int p5), .val (.int v162), .val (.ref b164), .val (.int r271), .val (.int r276), .val (.int r281), .val (.int (2 : Int32)), .val (.int r276), .val (.int (0 : Int32))] [(.ref b164)])) rfl (by rw [hml]; rfl) (Steps.refl _) (argsL := []) (rest := []) (lenOf pd_3 rfl) rfl (by show 2 * 0 + _ ≤ _; exact Nat.le_of_eq rfl) (hb hby at_178) (fun _ _ => ⟨rfl, rfl, (by decide : 3 + 0 ≤ _), (by decide : 12 + 0 ≤ _)⟩)
        dsimp only [Pt.U, Pt.locs, Pt.cells, Pt.slots] at X322 l322 y322 z322 st322 hQ322
        subst l322 y322 z322
        obtain ⟨rfl, Nq322, oK322, m0_322⟩ := hQ322
        have N322 := Fr.app N318 Nq322
        have R322 := m0_322
        have hc183_323 : r276 = r276 := rfl
        obtain ⟨cq324, kq324, q324a, q324b, q324c⟩ := isOf hZ rfl R322.exa
        obtain ⟨_, _, ⟨T324, L324, kc324, nc324⟩, -, X324, ⟨Lc324, hQ324, l324, y324, z324⟩, st324⟩ := X322.virtualBack hx (y := (⟨"com/example/tablewise/tablewise/propagation/WaitingRing", "isEmpty", "()Z"⟩ : MethodName)) (z := (⟨"com/example/tablewise/tablewise/propagation/WaitingRing", "isEmpty", "()Z"⟩ : MethodName)) hown (mvT hZ (hw _ (List.mem_of_getElem? (i := 34) rfl))) (mvT hZ (hw _ (List.mem_of_getElem? (i := 35) rfl))) (notFace_of_selects (args := #[]) (mvT hZ (hw _ (List.mem_of_getElem? (i := 37) rfl)))) (mvT hZ (hw _ (List.mem_of_getElem? (i := 37) rfl))) (mvT hZ (hw _ (List.mem_of_getElem? (i := 36) rfl))) (by decide) (backOf (W := 0) (rm6 l Z a0 hw [] b164 ra170 wa170 v162 n ([] : List Int32) T322.heap n0 R322) hZ (hw _ (List.mem_of_getElem? (i := 38) rfl)) (hw _ (List.mem_of_getElem? (i := 2) rfl)) (by decide) (by decide)) q324a q324c (g := (mkF m 208 #[.val (.int p0), .val (.int p1), .val (.int p2), .val (.int p3), .val (.int p4), .val (.int p5), .val (.int v162), .val (.ref b164), .val (.int r271), .val (.int r276), .val (.int r281), .val (.int (2 : Int32)), .val (.int r276), .val (.int (0 : Int32))] [(.ref b164)])) rfl (by rw [hml]; rfl) (Steps.refl _) (argsL := []) (rest := []) (lenOf pd_4 rfl) rfl (by show 2 * 0 + _ ≤ _; exact Nat.le_of_eq rfl) (hb hby at_208) (fun _ _ => ⟨rfl, rfl, (by decide : 3 + 0 ≤ _), (by decide : 12 + 0 ≤ _)⟩)
        dsimp only [Pt.U, Pt.locs, Pt.cells, Pt.slots] at X324 l324 y324 z324 st324 hQ324
        subst l324 y324 z324
        obtain ⟨rfl, Nq324, eq324⟩ := hQ324
        have N324 := Fr.app N322 Nq324
        have k325 : ∀ tg_, Steps p.tables e below (T324.setTop (mkF m 211 #[.val (.int p0), .val (.int p1), .val (.int p2), .val (.int p3), .val (.int p4), .val (.int p5), .val (.int v162), .val (.ref b164), .val (.int r271), .val (.int r276), .val (.int r281), .val (.int (2 : Int32)), .val (.int r276), .val (.int (0 : Int32))] [(.int (if ([] : List Int32).length = 0 then (1 : Int32) else (0 : Int32)))])) tg_ → Steps p.tables e below (s₁.setTop (entryFrame m #[(.int p0), (.int p1), (.int p2), (.int p3), (.int p4), (.int p5)] maxLocals)) tg_ := by
          intro tg_ kt
          refine k313 tg_ ?_
          refine XS.icmpYes X289.here hx rfl (pc0 := 125) (pc' := 158) rfl (hb hby at_125) rfl (teq hc125_314).1 (by decide) (by decide) ?_
          show Steps p.tables e below (T289.setTop (mkF m 158 #[.val (.int p0), .val (.int p1), .val (.int p2), .val (.int p3), .val (.int p4), .val (.int p5), .val (.int v162), .val (.ref b164), .val (.int r271), .val (.int r276), .val (.int r281), .val (.int (2 : Int32)), .val (.int r276), .val (.int (0 : Int32))] [])) _
          refine XS.aload X289.here hx rfl (hb hby at_158) rfl rfl ?_
          show Steps p.tables e below (T289.setTop (mkF m 160 #[.val (.int p0), .val (.int p1), .val (.int p2), .val (.int p3), .val (.int p4), .val (.int p5), .val (.int v162), .val (.ref b164), .val (.int r271), .val (.int r276), .val (.int r281), .val (.int (2 : Int32)), .val (.int r276), .val (.int (0 : Int32))] [(.ref b164)])) _
          refine st318.trans ?_
          show Steps p.tables e below (T318.setTop (mkF m 163 #[.val (.int p0), .val (.int p1), .val (.int p2), .val (.int p3), .val (.int p4), .val (.int p5), .val (.int v162), .val (.ref b164), .val (.int r271), .val (.int r276), .val (.int r281), .val (.int (2 : Int32)), .val (.int r276), .val (.int (0 : Int32))] [(.int r271)])) _
          refine XS.iload X318.here hx rfl (hb hby at_163) rfl ?_
          show Steps p.tables e below (T318.setTop (mkF m 165 #[.val (.int p0), .val (.int p1), .val (.int p2), .val (.int p3), .val (.int p4), .val (.int p5), .val (.int v162), .val (.ref b164), .val (.int r271), .val (.int r276), .val (.int r281), .val (.int (2 : Int32)), .val (.int r276), .val (.int (0 : Int32))] [(.int r271), (.int r271)])) _
          refine XS.icmpYes X318.here hx rfl (pc0 := 165) (pc' := 170) rfl (hb hby at_165) rfl (teq hc165_319).1 (by decide) (by decide) ?_
          show Steps p.tables e below (T318.setTop (mkF m 170 #[.val (.int p0), .val (.int p1), .val (.int p2), .val (.int p3), .val (.int p4), .val (.int p5), .val (.int v162), .val (.ref b164), .val (.int r271), .val (.int r276), .val (.int r281), .val (.int (2 : Int32)), .val (.int r276), .val (.int (0 : Int32))] [])) _
          refine XS.iload X318.here hx rfl (hb hby at_170) rfl ?_
          show Steps p.tables e below (T318.setTop (mkF m 172 #[.val (.int p0), .val (.int p1), .val (.int p2), .val (.int p3), .val (.int p4), .val (.int p5), .val (.int v162), .val (.ref b164), .val (.int r271), .val (.int r276), .val (.int r281), .val (.int (2 : Int32)), .val (.int r276), .val (.int (0 : Int32))] [(.int (2 : Int32))])) _
          refine XS.iconst X318.here hx rfl (hb hby at_172) ?_
          show Steps p.tables e below (T318.setTop (mkF m 173 #[.val (.int p0), .val (.int p1), .val (.int p2), .val (.int p3), .val (.int p4), .val (.int p5), .val (.int v162), .val (.ref b164), .val (.int r271), .val (.int r276), .val (.int r281), .val (.int (2 : Int32)), .val (.int r276), .val (.int (0 : Int32))] [(.int (2 : Int32)), (.int (2 : Int32))])) _
          refine XS.icmpNo X318.here hx rfl (hb hby at_173) rfl (flt (by decide : ¬ ((2 : Int32) < (2 : Int32)))).1 ?_
          show Steps p.tables e below (T318.setTop (mkF m 176 #[.val (.int p0), .val (.int p1), .val (.int p2), .val (.int p3), .val (.int p4), .val (.int p5), .val (.int v162), .val (.ref b164), .val (.int r271), .val (.int r276), .val (.int r281), .val (.int (2 : Int32)), .val (.int r276), .val (.int (0 : Int32))] [])) _
          refine XS.aload X318.here hx rfl (hb hby at_176) rfl rfl ?_
          show Steps p.tables e below (T318.setTop (mkF m 178 #[.val (.int p0), .val (.int p1), .val (.int p2), .val (.int p3), .val (.int p4), .val (.int p5), .val (.int v162), .val (.ref b164), .val (.int r271), .val (.int r276), .val (.int r281), .val (.int (2 : Int32)), .val (.int r276), .val (.int (0 : Int32))] [(.ref b164)])) _
          refine st322.trans ?_
          show Steps p.tables e below (T322.setTop (mkF m 181 #[.val (.int p0), .val (.int p1), .val (.int p2), .val (.int p3), .val (.int p4), .val (.int p5), .val (.int v162), .val (.ref b164), .val (.int r271), .val (.int r276), .val (.int r281), .val (.int (2 : Int32)), .val (.int r276), .val (.int (0 : Int32))] [(.int r276)])) _
          refine XS.iload X322.here hx rfl (hb hby at_181) rfl ?_
          show Steps p.tables e below (T322.setTop (mkF m 183 #[.val (.int p0), .val (.int p1), .val (.int p2), .val (.int p3), .val (.int p4), .val (.int p5), .val (.int v162), .val (.ref b164), .val (.int r271), .val (.int r276), .val (.int r281), .val (.int (2 : Int32)), .val (.int r276), .val (.int (0 : Int32))] [(.int r276), (.int r276)])) _
          refine XS.icmpYes X322.here hx rfl (pc0 := 183) (pc' := 188) rfl (hb hby at_183) rfl (teq hc183_323).1 (by decide) (by decide) ?_
          show Steps p.tables e below (T322.setTop (mkF m 188 #[.val (.int p0), .val (.int p1), .val (.int p2), .val (.int p3), .val (.int p4), .val (.int p5), .val (.int v162), .val (.ref b164), .val (.int r271), .val (.int r276), .val (.int r281), .val (.int (2 : Int32)), .val (.int r276), .val (.int (0 : Int32))] [])) _
          refine XS.iload X322.here hx rfl (hb hby at_188) rfl ?_
          show Steps p.tables e below (T322.setTop (mkF m 190 #[.val (.int p0), .val (.int p1), .val (.int p2), .val (.int p3), .val (.int p4), .val (.int p5), .val (.int v162), .val (.ref b164), .val (.int r271), .val (.int r276), .val (.int r281), .val (.int (2 : Int32)), .val (.int r276), .val (.int (0 : Int32))] [(.int (2 : Int32))])) _
          refine XS.iconst X322.here hx rfl (hb hby at_190) ?_
          show Steps p.tables e below (T322.setTop (mkF m 191 #[.val (.int p0), .val (.int p1), .val (.int p2), .val (.int p3), .val (.int p4), .val (.int p5), .val (.int v162), .val (.ref b164), .val (.int r271), .val (.int r276), .val (.int r281), .val (.int (2 : Int32)), .val (.int r276), .val (.int (0 : Int32))] [(.int (3 : Int32)), (.int (2 : Int32))])) _
          refine XS.icmpYes X322.here hx rfl (pc0 := 191) (pc' := 206) rfl (hb hby at_191) rfl (tlt (by decide : (2 : Int32) < (3 : Int32))).1 (by decide) (by decide) ?_
          show Steps p.tables e below (T322.setTop (mkF m 206 #[.val (.int p0), .val (.int p1), .val (.int p2), .val (.int p3), .val (.int p4), .val (.int p5), .val (.int v162), .val (.ref b164), .val (.int r271), .val (.int r276), .val (.int r281), .val (.int (2 : Int32)), .val (.int r276), .val (.int (0 : Int32))] [])) _
          refine XS.aload X322.here hx rfl (hb hby at_206) rfl rfl ?_
          show Steps p.tables e below (T322.setTop (mkF m 208 #[.val (.int p0), .val (.int p1), .val (.int p2), .val (.int p3), .val (.int p4), .val (.int p5), .val (.int v162), .val (.ref b164), .val (.int r271), .val (.int r276), .val (.int r281), .val (.int (2 : Int32)), .val (.int r276), .val (.int (0 : Int32))] [(.ref b164)])) _
          refine st324.trans ?_
          show Steps p.tables e below (T324.setTop (mkF m 211 #[.val (.int p0), .val (.int p1), .val (.int p2), .val (.int p3), .val (.int p4), .val (.int p5), .val (.int v162), .val (.ref b164), .val (.int r271), .val (.int r276), .val (.int r281), .val (.int (2 : Int32)), .val (.int r276), .val (.int (0 : Int32))] [(.int (if ([] : List Int32).length = 0 then (1 : Int32) else (0 : Int32)))])) _
          exact kt
        obtain ⟨fs, hr, hrun, hended, hW, hsame⟩ := X324.leave (v := some (.int (nar .boolean (if ([] : List Int32).length = 0 then (1 : Int32) else (0 : Int32))))) (fun h => by rw [Bd.returns] at h; cases h)
        refine ⟨_, _, k325 _ (retN X324 hx (t := .boolean) Bd.returns (by simp) (hb hby at_211) hr), hrun, hended, _, _, rfl, ?_, ⟨_, rfl⟩, hW, hsame.mono (by decide) (by decide)⟩
        show Q0 Z p0 p1 p2 p3 p4 p5 h0 n0 _ T324.heap _
        rw [eq324]
        exact ⟨rfl, N324⟩
      · have k326 : ∀ tg_, Steps p.tables e below (T289.setTop (mkF m 132 #[.val (.int p0), .val (.int p1), .val (.int p2), .val (.int p3), .val (.int p4), .val (.int p5), .val (.int v162), .val (.ref b164), .val (.int r271), .val (.int r276), .val (.int r281), .val (.int (2 : Int32)), .val (.int r276), .val (.int (0 : Int32))] [(.int r276), (.int r281)])) tg_ → Steps p.tables e below (s₁.setTop (entryFrame m #[(.int p0), (.int p1), (.int p2), (.int p3), (.int p4), (.int p5)] maxLocals)) tg_ := by
          intro tg_ kt
          refine k313 tg_ ?_
          refine XS.icmpNo X289.here hx rfl (hb hby at_125) rfl (feq hc125_314).1 ?_
          show Steps p.tables e below (T289.setTop (mkF m 128 #[.val (.int p0), .val (.int p1), .val (.int p2), .val (.int p3), .val (.int p4), .val (.int p5), .val (.int v162), .val (.ref b164), .val (.int r271), .val (.int r276), .val (.int r281), .val (.int (2 : Int32)), .val (.int r276), .val (.int (0 : Int32))] [])) _
          refine XS.iload X289.here hx rfl (hb hby at_128) rfl ?_
          show Steps p.tables e below (T289.setTop (mkF m 130 #[.val (.int p0), .val (.int p1), .val (.int p2), .val (.int p3), .val (.int p4), .val (.int p5), .val (.int v162), .val (.ref b164), .val (.int r271), .val (.int r276), .val (.int r281), .val (.int (2 : Int32)), .val (.int r276), .val (.int (0 : Int32))] [(.int r281)])) _
          refine XS.iload X289.here hx rfl (hb hby at_130) rfl ?_
          show Steps p.tables e below (T289.setTop (mkF m 132 #[.val (.int p0), .val (.int p1), .val (.int p2), .val (.int p3), .val (.int p4), .val (.int p5), .val (.int v162), .val (.ref b164), .val (.int r271), .val (.int r276), .val (.int r281), .val (.int (2 : Int32)), .val (.int r276), .val (.int (0 : Int32))] [(.int r276), (.int r281)])) _
          exact kt
        by_cases hc132_327 : r281 = r276
        · have hq328 : (own_add (own_add (own_add ([] : List Int32) r271) r276) r281) = [r271, r276] := by
            simp [own_add, hc111_291, hc125_314, hc132_327]
          have Rt329 : own_Ring Z T289.heap b164 ra170 wa170 v162 n (r271 :: [r276]) := (by have q := R289; rw [hq328] at q; exact q)
          have f330 := (Nat.le_trans f288 oK289.1)
          obtain ⟨cq331, kq331, q331a, q331b, q331c⟩ := isOf hZ rfl R289.exa
          obtain ⟨_, _, ⟨T331, L331, kc331, nc331⟩, -, X331, ⟨Lc331, hQ331, l331, y331, z331⟩, st331⟩ := X289.virtualBack hx (y := (⟨"com/example/tablewise/tablewise/propagation/WaitingRing", "take", "()I"⟩ : MethodName)) (z := (⟨"com/example/tablewise/tablewise/propagation/WaitingRing", "take", "()I"⟩ : MethodName)) hown (mvT hZ (hw _ (List.mem_of_getElem? (i := 29) rfl))) (mvT hZ (hw _ (List.mem_of_getElem? (i := 30) rfl))) (notFace_of_selects (args := #[]) (mvT hZ (hw _ (List.mem_of_getElem? (i := 32) rfl)))) (mvT hZ (hw _ (List.mem_of_getElem? (i := 32) rfl))) (mvT hZ (hw _ (List.mem_of_getElem? (i := 31) rfl))) (by decide) (backOf (W := 0) (rm5 l Z a0 hw [] b164 ra170 wa170 v162 n r271 ([r276]) T289.heap n0 f330 ge_b164 gra170 gwa170 Rt329) hZ (hw _ (List.mem_of_getElem? (i := 33) rfl)) (hw _ (List.mem_of_getElem? (i := 2) rfl)) (by decide) (by decide)) q331a q331c (g := (mkF m 160 #[.val (.int p0), .val (.int p1), .val (.int p2), .val (.int p3), .val (.int p4), .val (.int p5), .val (.int v162), .val (.ref b164), .val (.int r271), .val (.int r276), .val (.int r281), .val (.int (2 : Int32)), .val (.int r276), .val (.int (0 : Int32))] [(.ref b164)])) rfl (by rw [hml]; rfl) (Steps.refl _) (argsL := []) (rest := []) (lenOf pd_3 rfl) rfl (by show 2 * 0 + _ ≤ _; exact Nat.le_of_eq rfl) (hb hby at_160) (fun _ _ => ⟨rfl, rfl, (by decide : 3 + 0 ≤ _), (by decide : 12 + 0 ≤ _)⟩)
          dsimp only [Pt.U, Pt.locs, Pt.cells, Pt.slots] at X331 l331 y331 z331 st331 hQ331
          subst l331 y331 z331
          obtain ⟨rfl, Nq331, oK331, m0_331⟩ := hQ331
          have N331 := Fr.app N289 Nq331
          have R331 := m0_331
          have hc165_332 : r271 = r271 := rfl
          have Rt333 : own_Ring Z T331.heap b164 ra170 wa170 v162 n (r276 :: ([] : List Int32)) := (by have q := R331; rw [show [r276] = [r276] from rfl] at q; exact q)
          have f334 := (Nat.le_trans f330 oK331.1)
          obtain ⟨cq335, kq335, q335a, q335b, q335c⟩ := isOf hZ rfl R331.exa
          obtain ⟨_, _, ⟨T335, L335, kc335, nc335⟩, -, X335, ⟨Lc335, hQ335, l335, y335, z335⟩, st335⟩ := X331.virtualBack hx (y := (⟨"com/example/tablewise/tablewise/propagation/WaitingRing", "take", "()I"⟩ : MethodName)) (z := (⟨"com/example/tablewise/tablewise/propagation/WaitingRing", "take", "()I"⟩ : MethodName)) hown (mvT hZ (hw _ (List.mem_of_getElem? (i := 29) rfl))) (mvT hZ (hw _ (List.mem_of_getElem? (i := 30) rfl))) (notFace_of_selects (args := #[]) (mvT hZ (hw _ (List.mem_of_getElem? (i := 32) rfl)))) (mvT hZ (hw _ (List.mem_of_getElem? (i := 32) rfl))) (mvT hZ (hw _ (List.mem_of_getElem? (i := 31) rfl))) (by decide) (backOf (W := 0) (rm5 l Z a0 hw [] b164 ra170 wa170 v162 n r276 ([] : List Int32) T331.heap n0 f334 ge_b164 gra170 gwa170 Rt333) hZ (hw _ (List.mem_of_getElem? (i := 33) rfl)) (hw _ (List.mem_of_getElem? (i := 2) rfl)) (by decide) (by decide)) q335a q335c (g := (mkF m 178 #[.val (.int p0), .val (.int p1), .val (.int p2), .val (.int p3), .val (.int p4), .val (.int p5), .val (.int v162), .val (.ref b164), .val (.int r271), .val (.int r276), .val (.int r281), .val (.int (2 : Int32)), .val (.int r276), .val (.int (0 : Int32))] [(.ref b164)])) rfl (by rw [hml]; rfl) (Steps.refl _) (argsL := []) (rest := []) (lenOf pd_3 rfl) rfl (by show 2 * 0 + _ ≤ _; exact Nat.le_of_eq rfl) (hb hby at_178) (fun _ _ => ⟨rfl, rfl, (by decide : 3 + 0 ≤ _), (by decide : 12 + 0 ≤ _)⟩)
          dsimp only [Pt.U, Pt.locs, Pt.cells, Pt.slots] at X335 l335 y335 z335 st335 hQ335
          subst l335 y335 z335
          obtain ⟨rfl, Nq335, oK335, m0_335⟩ := hQ335
          have N335 := Fr.app N331 Nq335
          have R335 := m0_335
          have hc183_336 : r276 = r276 := rfl
          obtain ⟨cq337, kq337, q337a, q337b, q337c⟩ := isOf hZ rfl R335.exa
          obtain ⟨_, _, ⟨T337, L337, kc337, nc337⟩, -, X337, ⟨Lc337, hQ337, l337, y337, z337⟩, st337⟩ := X335.virtualBack hx (y := (⟨"com/example/tablewise/tablewise/propagation/WaitingRing", "isEmpty", "()Z"⟩ : MethodName)) (z := (⟨"com/example/tablewise/tablewise/propagation/WaitingRing", "isEmpty", "()Z"⟩ : MethodName)) hown (mvT hZ (hw _ (List.mem_of_getElem? (i := 34) rfl))) (mvT hZ (hw _ (List.mem_of_getElem? (i := 35) rfl))) (notFace_of_selects (args := #[]) (mvT hZ (hw _ (List.mem_of_getElem? (i := 37) rfl)))) (mvT hZ (hw _ (List.mem_of_getElem? (i := 37) rfl))) (mvT hZ (hw _ (List.mem_of_getElem? (i := 36) rfl))) (by decide) (backOf (W := 0) (rm6 l Z a0 hw [] b164 ra170 wa170 v162 n ([] : List Int32) T335.heap n0 R335) hZ (hw _ (List.mem_of_getElem? (i := 38) rfl)) (hw _ (List.mem_of_getElem? (i := 2) rfl)) (by decide) (by decide)) q337a q337c (g := (mkF m 208 #[.val (.int p0), .val (.int p1), .val (.int p2), .val (.int p3), .val (.int p4), .val (.int p5), .val (.int v162), .val (.ref b164), .val (.int r271), .val (.int r276), .val (.int r281), .val (.int (2 : Int32)), .val (.int r276), .val (.int (0 : Int32))] [(.ref b164)])) rfl (by rw [hml]; rfl) (Steps.refl _) (argsL := []) (rest := []) (lenOf pd_4 rfl) rfl (by show 2 * 0 + _ ≤ _; exact Nat.le_of_eq rfl) (hb hby at_208) (fun _ _ => ⟨rfl, rfl, (by decide : 3 + 0 ≤ _), (by decide : 12 + 0 ≤ _)⟩)
          dsimp only [Pt.U, Pt.locs, Pt.cells, Pt.slots] at X337 l337 y337 z337 st337 hQ337
          subst l337 y337 z337
          obtain ⟨rfl, Nq337, eq337⟩ := hQ337
          have N337 := Fr.app N335 Nq337
          have k338 : ∀ tg_, Steps p.tables e below (T337.setTop (mkF m 211 #[.val (.int p0), .val (.int p1), .val (.int p2), .val (.int p3), .val (.int p4), .val (.int p5), .val (.int v162), .val (.ref b164), .val (.int r271), .val (.int r276), .val (.int r281), .val (.int (2 : Int32)), .val (.int r276), .val (.int (0 : Int32))] [(.int (if ([] : List Int32).length = 0 then (1 : Int32) else (0 : Int32)))])) tg_ → Steps p.tables e below (s₁.setTop (entryFrame m #[(.int p0), (.int p1), (.int p2), (.int p3), (.int p4), (.int p5)] maxLocals)) tg_ := by
            intro tg_ kt
            refine k326 tg_ ?_
            refine XS.icmpYes X289.here hx rfl (pc0 := 132) (pc' := 158) rfl (hb hby at_132) rfl (teq hc132_327).1 (by decide) (by decide) ?_
            show Steps p.tables e below (T289.setTop (mkF m 158 #[.val (.int p0), .val (.int p1), .val (.int p2), .val (.int p3), .val (.int p4), .val (.int p5), .val (.int v162), .val (.ref b164), .val (.int r271), .val (.int r276), .val (.int r281), .val (.int (2 : Int32)), .val (.int r276), .val (.int (0 : Int32))] [])) _
            refine XS.aload X289.here hx rfl (hb hby at_158) rfl rfl ?_
            show Steps p.tables e below (T289.setTop (mkF m 160 #[.val (.int p0), .val (.int p1), .val (.int p2), .val (.int p3), .val (.int p4), .val (.int p5), .val (.int v162), .val (.ref b164), .val (.int r271), .val (.int r276), .val (.int r281), .val (.int (2 : Int32)), .val (.int r276), .val (.int (0 : Int32))] [(.ref b164)])) _
            refine st331.trans ?_
            show Steps p.tables e below (T331.setTop (mkF m 163 #[.val (.int p0), .val (.int p1), .val (.int p2), .val (.int p3), .val (.int p4), .val (.int p5), .val (.int v162), .val (.ref b164), .val (.int r271), .val (.int r276), .val (.int r281), .val (.int (2 : Int32)), .val (.int r276), .val (.int (0 : Int32))] [(.int r271)])) _
            refine XS.iload X331.here hx rfl (hb hby at_163) rfl ?_
            show Steps p.tables e below (T331.setTop (mkF m 165 #[.val (.int p0), .val (.int p1), .val (.int p2), .val (.int p3), .val (.int p4), .val (.int p5), .val (.int v162), .val (.ref b164), .val (.int r271), .val (.int r276), .val (.int r281), .val (.int (2 : Int32)), .val (.int r276), .val (.int (0 : Int32))] [(.int r271), (.int r271)])) _
            refine XS.icmpYes X331.here hx rfl (pc0 := 165) (pc' := 170) rfl (hb hby at_165) rfl (teq hc165_332).1 (by decide) (by decide) ?_
            show Steps p.tables e below (T331.setTop (mkF m 170 #[.val (.int p0), .val (.int p1), .val (.int p2), .val (.int p3), .val (.int p4), .val (.int p5), .val (.int v162), .val (.ref b164), .val (.int r271), .val (.int r276), .val (.int r281), .val (.int (2 : Int32)), .val (.int r276), .val (.int (0 : Int32))] [])) _
            refine XS.iload X331.here hx rfl (hb hby at_170) rfl ?_
            show Steps p.tables e below (T331.setTop (mkF m 172 #[.val (.int p0), .val (.int p1), .val (.int p2), .val (.int p3), .val (.int p4), .val (.int p5), .val (.int v162), .val (.ref b164), .val (.int r271), .val (.int r276), .val (.int r281), .val (.int (2 : Int32)), .val (.int r276), .val (.int (0 : Int32))] [(.int (2 : Int32))])) _
            refine XS.iconst X331.here hx rfl (hb hby at_172) ?_
            show Steps p.tables e below (T331.setTop (mkF m 173 #[.val (.int p0), .val (.int p1), .val (.int p2), .val (.int p3), .val (.int p4), .val (.int p5), .val (.int v162), .val (.ref b164), .val (.int r271), .val (.int r276), .val (.int r281), .val (.int (2 : Int32)), .val (.int r276), .val (.int (0 : Int32))] [(.int (2 : Int32)), (.int (2 : Int32))])) _
            refine XS.icmpNo X331.here hx rfl (hb hby at_173) rfl (flt (by decide : ¬ ((2 : Int32) < (2 : Int32)))).1 ?_
            show Steps p.tables e below (T331.setTop (mkF m 176 #[.val (.int p0), .val (.int p1), .val (.int p2), .val (.int p3), .val (.int p4), .val (.int p5), .val (.int v162), .val (.ref b164), .val (.int r271), .val (.int r276), .val (.int r281), .val (.int (2 : Int32)), .val (.int r276), .val (.int (0 : Int32))] [])) _
            refine XS.aload X331.here hx rfl (hb hby at_176) rfl rfl ?_
            show Steps p.tables e below (T331.setTop (mkF m 178 #[.val (.int p0), .val (.int p1), .val (.int p2), .val (.int p3), .val (.int p4), .val (.int p5), .val (.int v162), .val (.ref b164), .val (.int r271), .val (.int r276), .val (.int r281), .val (.int (2 : Int32)), .val (.int r276), .val (.int (0 : Int32))] [(.ref b164)])) _
            refine st335.trans ?_
            show Steps p.tables e below (T335.setTop (mkF m 181 #[.val (.int p0), .val (.int p1), .val (.int p2), .val (.int p3), .val (.int p4), .val (.int p5), .val (.int v162), .val (.ref b164), .val (.int r271), .val (.int r276), .val (.int r281), .val (.int (2 : Int32)), .val (.int r276), .val (.int (0 : Int32))] [(.int r276)])) _
            refine XS.iload X335.here hx rfl (hb hby at_181) rfl ?_
            show Steps p.tables e below (T335.setTop (mkF m 183 #[.val (.int p0), .val (.int p1), .val (.int p2), .val (.int p3), .val (.int p4), .val (.int p5), .val (.int v162), .val (.ref b164), .val (.int r271), .val (.int r276), .val (.int r281), .val (.int (2 : Int32)), .val (.int r276), .val (.int (0 : Int32))] [(.int r276), (.int r276)])) _
            refine XS.icmpYes X335.here hx rfl (pc0 := 183) (pc' := 188) rfl (hb hby at_183) rfl (teq hc183_336).1 (by decide) (by decide) ?_
            show Steps p.tables e below (T335.setTop (mkF m 188 #[.val (.int p0), .val (.int p1), .val (.int p2), .val (.int p3), .val (.int p4), .val (.int p5), .val (.int v162), .val (.ref b164), .val (.int r271), .val (.int r276), .val (.int r281), .val (.int (2 : Int32)), .val (.int r276), .val (.int (0 : Int32))] [])) _
            refine XS.iload X335.here hx rfl (hb hby at_188) rfl ?_
            show Steps p.tables e below (T335.setTop (mkF m 190 #[.val (.int p0), .val (.int p1), .val (.int p2), .val (.int p3), .val (.int p4), .val (.int p5), .val (.int v162), .val (.ref b164), .val (.int r271), .val (.int r276), .val (.int r281), .val (.int (2 : Int32)), .val (.int r276), .val (.int (0 : Int32))] [(.int (2 : Int32))])) _
            refine XS.iconst X335.here hx rfl (hb hby at_190) ?_
            show Steps p.tables e below (T335.setTop (mkF m 191 #[.val (.int p0), .val (.int p1), .val (.int p2), .val (.int p3), .val (.int p4), .val (.int p5), .val (.int v162), .val (.ref b164), .val (.int r271), .val (.int r276), .val (.int r281), .val (.int (2 : Int32)), .val (.int r276), .val (.int (0 : Int32))] [(.int (3 : Int32)), (.int (2 : Int32))])) _
            refine XS.icmpYes X335.here hx rfl (pc0 := 191) (pc' := 206) rfl (hb hby at_191) rfl (tlt (by decide : (2 : Int32) < (3 : Int32))).1 (by decide) (by decide) ?_
            show Steps p.tables e below (T335.setTop (mkF m 206 #[.val (.int p0), .val (.int p1), .val (.int p2), .val (.int p3), .val (.int p4), .val (.int p5), .val (.int v162), .val (.ref b164), .val (.int r271), .val (.int r276), .val (.int r281), .val (.int (2 : Int32)), .val (.int r276), .val (.int (0 : Int32))] [])) _
            refine XS.aload X335.here hx rfl (hb hby at_206) rfl rfl ?_
            show Steps p.tables e below (T335.setTop (mkF m 208 #[.val (.int p0), .val (.int p1), .val (.int p2), .val (.int p3), .val (.int p4), .val (.int p5), .val (.int v162), .val (.ref b164), .val (.int r271), .val (.int r276), .val (.int r281), .val (.int (2 : Int32)), .val (.int r276), .val (.int (0 : Int32))] [(.ref b164)])) _
            refine st337.trans ?_
            show Steps p.tables e below (T337.setTop (mkF m 211 #[.val (.int p0), .val (.int p1), .val (.int p2), .val (.int p3), .val (.int p4), .val (.int p5), .val (.int v162), .val (.ref b164), .val (.int r271), .val (.int r276), .val (.int r281), .val (.int (2 : Int32)), .val (.int r276), .val (.int (0 : Int32))] [(.int (if ([] : List Int32).length = 0 then (1 : Int32) else (0 : Int32)))])) _
            exact kt
          obtain ⟨fs, hr, hrun, hended, hW, hsame⟩ := X337.leave (v := some (.int (nar .boolean (if ([] : List Int32).length = 0 then (1 : Int32) else (0 : Int32))))) (fun h => by rw [Bd.returns] at h; cases h)
          refine ⟨_, _, k338 _ (retN X337 hx (t := .boolean) Bd.returns (by simp) (hb hby at_211) hr), hrun, hended, _, _, rfl, ?_, ⟨_, rfl⟩, hW, hsame.mono (by decide) (by decide)⟩
          show Q0 Z p0 p1 p2 p3 p4 p5 h0 n0 _ T337.heap _
          rw [eq337]
          exact ⟨rfl, N337⟩
        · have hq339 : (own_add (own_add (own_add ([] : List Int32) r271) r276) r281) = [r271, r276, r281] := by
            simp [own_add, hc111_291, hc125_314, hc132_327]
          have Rt340 : own_Ring Z T289.heap b164 ra170 wa170 v162 n (r271 :: [r276, r281]) := (by have q := R289; rw [hq339] at q; exact q)
          have f341 := (Nat.le_trans f288 oK289.1)
          obtain ⟨cq342, kq342, q342a, q342b, q342c⟩ := isOf hZ rfl R289.exa
          obtain ⟨_, _, ⟨T342, L342, kc342, nc342⟩, -, X342, ⟨Lc342, hQ342, l342, y342, z342⟩, st342⟩ := X289.virtualBack hx (y := (⟨"com/example/tablewise/tablewise/propagation/WaitingRing", "take", "()I"⟩ : MethodName)) (z := (⟨"com/example/tablewise/tablewise/propagation/WaitingRing", "take", "()I"⟩ : MethodName)) hown (mvT hZ (hw _ (List.mem_of_getElem? (i := 29) rfl))) (mvT hZ (hw _ (List.mem_of_getElem? (i := 30) rfl))) (notFace_of_selects (args := #[]) (mvT hZ (hw _ (List.mem_of_getElem? (i := 32) rfl)))) (mvT hZ (hw _ (List.mem_of_getElem? (i := 32) rfl))) (mvT hZ (hw _ (List.mem_of_getElem? (i := 31) rfl))) (by decide) (backOf (W := 0) (rm5 l Z a0 hw [] b164 ra170 wa170 v162 n r271 ([r276, r281]) T289.heap n0 f341 ge_b164 gra170 gwa170 Rt340) hZ (hw _ (List.mem_of_getElem? (i := 33) rfl)) (hw _ (List.mem_of_getElem? (i := 2) rfl)) (by decide) (by decide)) q342a q342c (g := (mkF m 160 #[.val (.int p0), .val (.int p1), .val (.int p2), .val (.int p3), .val (.int p4), .val (.int p5), .val (.int v162), .val (.ref b164), .val (.int r271), .val (.int r276), .val (.int r281), .val (.int (3 : Int32)), .val (.int r276), .val (.int r281)] [(.ref b164)])) rfl (by rw [hml]; rfl) (Steps.refl _) (argsL := []) (rest := []) (lenOf pd_3 rfl) rfl (by show 2 * 0 + _ ≤ _; exact Nat.le_of_eq rfl) (hb hby at_160) (fun _ _ => ⟨rfl, rfl, (by decide : 3 + 0 ≤ _), (by decide : 12 + 0 ≤ _)⟩)
          dsimp only [Pt.U, Pt.locs, Pt.cells, Pt.slots] at X342 l342 y342 z342 st342 hQ342
          subst l342 y342 z342
          obtain ⟨rfl, Nq342, oK342, m0_342⟩ := hQ342
          have N342 := Fr.app N289 Nq342
          have R342 := m0_342
          have hc165_343 : r271 = r271 := rfl
          have Rt344 : own_Ring Z T342.heap b164 ra170 wa170 v162 n (r276 :: [r281]) := (by have q := R342; rw [show [r276, r281] = [r276, r281] from rfl] at q; exact q)
          have f345 := (Nat.le_trans f341 oK342.1)
          obtain ⟨cq346, kq346, q346a, q346b, q346c⟩ := isOf hZ rfl R342.exa
          obtain ⟨_, _, ⟨T346, L346, kc346, nc346⟩, -, X346, ⟨Lc346, hQ346, l346, y346, z346⟩, st346⟩ := X342.virtualBack hx (y := (⟨"com/example/tablewise/tablewise/propagation/WaitingRing", "take", "()I"⟩ : MethodName)) (z := (⟨"com/example/tablewise/tablewise/propagation/WaitingRing", "take", "()I"⟩ : MethodName)) hown (mvT hZ (hw _ (List.mem_of_getElem? (i := 29) rfl))) (mvT hZ (hw _ (List.mem_of_getElem? (i := 30) rfl))) (notFace_of_selects (args := #[]) (mvT hZ (hw _ (List.mem_of_getElem? (i := 32) rfl)))) (mvT hZ (hw _ (List.mem_of_getElem? (i := 32) rfl))) (mvT hZ (hw _ (List.mem_of_getElem? (i := 31) rfl))) (by decide) (backOf (W := 0) (rm5 l Z a0 hw [] b164 ra170 wa170 v162 n r276 ([r281]) T342.heap n0 f345 ge_b164 gra170 gwa170 Rt344) hZ (hw _ (List.mem_of_getElem? (i := 33) rfl)) (hw _ (List.mem_of_getElem? (i := 2) rfl)) (by decide) (by decide)) q346a q346c (g := (mkF m 178 #[.val (.int p0), .val (.int p1), .val (.int p2), .val (.int p3), .val (.int p4), .val (.int p5), .val (.int v162), .val (.ref b164), .val (.int r271), .val (.int r276), .val (.int r281), .val (.int (3 : Int32)), .val (.int r276), .val (.int r281)] [(.ref b164)])) rfl (by rw [hml]; rfl) (Steps.refl _) (argsL := []) (rest := []) (lenOf pd_3 rfl) rfl (by show 2 * 0 + _ ≤ _; exact Nat.le_of_eq rfl) (hb hby at_178) (fun _ _ => ⟨rfl, rfl, (by decide : 3 + 0 ≤ _), (by decide : 12 + 0 ≤ _)⟩)
          dsimp only [Pt.U, Pt.locs, Pt.cells, Pt.slots] at X346 l346 y346 z346 st346 hQ346
          subst l346 y346 z346
          obtain ⟨rfl, Nq346, oK346, m0_346⟩ := hQ346
          have N346 := Fr.app N342 Nq346
          have R346 := m0_346
          have hc183_347 : r276 = r276 := rfl
          have Rt348 : own_Ring Z T346.heap b164 ra170 wa170 v162 n (r281 :: ([] : List Int32)) := (by have q := R346; rw [show [r281] = [r281] from rfl] at q; exact q)
          have f349 := (Nat.le_trans f345 oK346.1)
          obtain ⟨cq350, kq350, q350a, q350b, q350c⟩ := isOf hZ rfl R346.exa
          obtain ⟨_, _, ⟨T350, L350, kc350, nc350⟩, -, X350, ⟨Lc350, hQ350, l350, y350, z350⟩, st350⟩ := X346.virtualBack hx (y := (⟨"com/example/tablewise/tablewise/propagation/WaitingRing", "take", "()I"⟩ : MethodName)) (z := (⟨"com/example/tablewise/tablewise/propagation/WaitingRing", "take", "()I"⟩ : MethodName)) hown (mvT hZ (hw _ (List.mem_of_getElem? (i := 29) rfl))) (mvT hZ (hw _ (List.mem_of_getElem? (i := 30) rfl))) (notFace_of_selects (args := #[]) (mvT hZ (hw _ (List.mem_of_getElem? (i := 32) rfl)))) (mvT hZ (hw _ (List.mem_of_getElem? (i := 32) rfl))) (mvT hZ (hw _ (List.mem_of_getElem? (i := 31) rfl))) (by decide) (backOf (W := 0) (rm5 l Z a0 hw [] b164 ra170 wa170 v162 n r281 ([] : List Int32) T346.heap n0 f349 ge_b164 gra170 gwa170 Rt348) hZ (hw _ (List.mem_of_getElem? (i := 33) rfl)) (hw _ (List.mem_of_getElem? (i := 2) rfl)) (by decide) (by decide)) q350a q350c (g := (mkF m 196 #[.val (.int p0), .val (.int p1), .val (.int p2), .val (.int p3), .val (.int p4), .val (.int p5), .val (.int v162), .val (.ref b164), .val (.int r271), .val (.int r276), .val (.int r281), .val (.int (3 : Int32)), .val (.int r276), .val (.int r281)] [(.ref b164)])) rfl (by rw [hml]; rfl) (Steps.refl _) (argsL := []) (rest := []) (lenOf pd_3 rfl) rfl (by show 2 * 0 + _ ≤ _; exact Nat.le_of_eq rfl) (hb hby at_196) (fun _ _ => ⟨rfl, rfl, (by decide : 3 + 0 ≤ _), (by decide : 12 + 0 ≤ _)⟩)
          dsimp only [Pt.U, Pt.locs, Pt.cells, Pt.slots] at X350 l350 y350 z350 st350 hQ350
          subst l350 y350 z350
          obtain ⟨rfl, Nq350, oK350, m0_350⟩ := hQ350
          have N350 := Fr.app N346 Nq350
          have R350 := m0_350
          have hc201_351 : r281 = r281 := rfl
          obtain ⟨cq352, kq352, q352a, q352b, q352c⟩ := isOf hZ rfl R350.exa
          obtain ⟨_, _, ⟨T352, L352, kc352, nc352⟩, -, X352, ⟨Lc352, hQ352, l352, y352, z352⟩, st352⟩ := X350.virtualBack hx (y := (⟨"com/example/tablewise/tablewise/propagation/WaitingRing", "isEmpty", "()Z"⟩ : MethodName)) (z := (⟨"com/example/tablewise/tablewise/propagation/WaitingRing", "isEmpty", "()Z"⟩ : MethodName)) hown (mvT hZ (hw _ (List.mem_of_getElem? (i := 34) rfl))) (mvT hZ (hw _ (List.mem_of_getElem? (i := 35) rfl))) (notFace_of_selects (args := #[]) (mvT hZ (hw _ (List.mem_of_getElem? (i := 37) rfl)))) (mvT hZ (hw _ (List.mem_of_getElem? (i := 37) rfl))) (mvT hZ (hw _ (List.mem_of_getElem? (i := 36) rfl))) (by decide) (backOf (W := 0) (rm6 l Z a0 hw [] b164 ra170 wa170 v162 n ([] : List Int32) T350.heap n0 R350) hZ (hw _ (List.mem_of_getElem? (i := 38) rfl)) (hw _ (List.mem_of_getElem? (i := 2) rfl)) (by decide) (by decide)) q352a q352c (g := (mkF m 208 #[.val (.int p0), .val (.int p1), .val (.int p2), .val (.int p3), .val (.int p4), .val (.int p5), .val (.int v162), .val (.ref b164), .val (.int r271), .val (.int r276), .val (.int r281), .val (.int (3 : Int32)), .val (.int r276), .val (.int r281)] [(.ref b164)])) rfl (by rw [hml]; rfl) (Steps.refl _) (argsL := []) (rest := []) (lenOf pd_4 rfl) rfl (by show 2 * 0 + _ ≤ _; exact Nat.le_of_eq rfl) (hb hby at_208) (fun _ _ => ⟨rfl, rfl, (by decide : 3 + 0 ≤ _), (by decide : 12 + 0 ≤ _)⟩)
          dsimp only [Pt.U, Pt.locs, Pt.cells, Pt.slots] at X352 l352 y352 z352 st352 hQ352
          subst l352 y352 z352
          obtain ⟨rfl, Nq352, eq352⟩ := hQ352
          have N352 := Fr.app N350 Nq352
          have k353 : ∀ tg_, Steps p.tables e below (T352.setTop (mkF m 211 #[.val (.int p0), .val (.int p1), .val (.int p2), .val (.int p3), .val (.int p4), .val (.int p5), .val (.int v162), .val (.ref b164), .val (.int r271), .val (.int r276), .val (.int r281), .val (.int (3 : Int32)), .val (.int r276), .val (.int r281)] [(.int (if ([] : List Int32).length = 0 then (1 : Int32) else (0 : Int32)))])) tg_ → Steps p.tables e below (s₁.setTop (entryFrame m #[(.int p0), (.int p1), (.int p2), (.int p3), (.int p4), (.int p5)] maxLocals)) tg_ := by
            intro tg_ kt
            refine k326 tg_ ?_
            refine XS.icmpNo X289.here hx rfl (hb hby at_132) rfl (feq hc132_327).1 ?_
            show Steps p.tables e below (T289.setTop (mkF m 135 #[.val (.int p0), .val (.int p1), .val (.int p2), .val (.int p3), .val (.int p4), .val (.int p5), .val (.int v162), .val (.ref b164), .val (.int r271), .val (.int r276), .val (.int r281), .val (.int (2 : Int32)), .val (.int r276), .val (.int (0 : Int32))] [])) _
            refine XS.iload X289.here hx rfl (hb hby at_135) rfl ?_
            show Steps p.tables e below (T289.setTop (mkF m 137 #[.val (.int p0), .val (.int p1), .val (.int p2), .val (.int p3), .val (.int p4), .val (.int p5), .val (.int v162), .val (.ref b164), .val (.int r271), .val (.int r276), .val (.int r281), .val (.int (2 : Int32)), .val (.int r276), .val (.int (0 : Int32))] [(.int (2 : Int32))])) _
            refine XS.iconst X289.here hx rfl (hb hby at_137) ?_
            show Steps p.tables e below (T289.setTop (mkF m 138 #[.val (.int p0), .val (.int p1), .val (.int p2), .val (.int p3), .val (.int p4), .val (.int p5), .val (.int v162), .val (.ref b164), .val (.int r271), .val (.int r276), .val (.int r281), .val (.int (2 : Int32)), .val (.int r276), .val (.int (0 : Int32))] [(.int (1 : Int32)), (.int (2 : Int32))])) _
            refine XS.icmpYes X289.here hx rfl (pc0 := 138) (pc' := 148) rfl (hb hby at_138) rfl (feq (by decide : ¬ ((2 : Int32) = (1 : Int32)))).2 (by decide) (by decide) ?_
            show Steps p.tables e below (T289.setTop (mkF m 148 #[.val (.int p0), .val (.int p1), .val (.int p2), .val (.int p3), .val (.int p4), .val (.int p5), .val (.int v162), .val (.ref b164), .val (.int r271), .val (.int r276), .val (.int r281), .val (.int (2 : Int32)), .val (.int r276), .val (.int (0 : Int32))] [])) _
            refine XS.iload X289.here hx rfl (hb hby at_148) rfl ?_
            show Steps p.tables e below (T289.setTop (mkF m 150 #[.val (.int p0), .val (.int p1), .val (.int p2), .val (.int p3), .val (.int p4), .val (.int p5), .val (.int v162), .val (.ref b164), .val (.int r271), .val (.int r276), .val (.int r281), .val (.int (2 : Int32)), .val (.int r276), .val (.int (0 : Int32))] [(.int r281)])) _
            refine XS.istore X289.here hx rfl (hb hby at_150) rfl (l' := #[.val (.int p0), .val (.int p1), .val (.int p2), .val (.int p3), .val (.int p4), .val (.int p5), .val (.int v162), .val (.ref b164), .val (.int r271), .val (.int r276), .val (.int r281), .val (.int (2 : Int32)), .val (.int r276), .val (.int r281)]) rfl ?_
            show Steps p.tables e below (T289.setTop (mkF m 152 #[.val (.int p0), .val (.int p1), .val (.int p2), .val (.int p3), .val (.int p4), .val (.int p5), .val (.int v162), .val (.ref b164), .val (.int r271), .val (.int r276), .val (.int r281), .val (.int (2 : Int32)), .val (.int r276), .val (.int r281)] [])) _
            refine XS.iload X289.here hx rfl (hb hby at_152) rfl ?_
            show Steps p.tables e below (T289.setTop (mkF m 154 #[.val (.int p0), .val (.int p1), .val (.int p2), .val (.int p3), .val (.int p4), .val (.int p5), .val (.int v162), .val (.ref b164), .val (.int r271), .val (.int r276), .val (.int r281), .val (.int (2 : Int32)), .val (.int r276), .val (.int r281)] [(.int (2 : Int32))])) _
            refine XS.iconst X289.here hx rfl (hb hby at_154) ?_
            show Steps p.tables e below (T289.setTop (mkF m 155 #[.val (.int p0), .val (.int p1), .val (.int p2), .val (.int p3), .val (.int p4), .val (.int p5), .val (.int v162), .val (.ref b164), .val (.int r271), .val (.int r276), .val (.int r281), .val (.int (2 : Int32)), .val (.int r276), .val (.int r281)] [(.int (1 : Int32)), (.int (2 : Int32))])) _
            refine XS.iadd X289.here hx rfl (hb hby at_155) rfl ?_
            show Steps p.tables e below (T289.setTop (mkF m 156 #[.val (.int p0), .val (.int p1), .val (.int p2), .val (.int p3), .val (.int p4), .val (.int p5), .val (.int v162), .val (.ref b164), .val (.int r271), .val (.int r276), .val (.int r281), .val (.int (2 : Int32)), .val (.int r276), .val (.int r281)] [(.int (3 : Int32))])) _
            refine XS.istore X289.here hx rfl (hb hby at_156) rfl (l' := #[.val (.int p0), .val (.int p1), .val (.int p2), .val (.int p3), .val (.int p4), .val (.int p5), .val (.int v162), .val (.ref b164), .val (.int r271), .val (.int r276), .val (.int r281), .val (.int (3 : Int32)), .val (.int r276), .val (.int r281)]) rfl ?_
            show Steps p.tables e below (T289.setTop (mkF m 158 #[.val (.int p0), .val (.int p1), .val (.int p2), .val (.int p3), .val (.int p4), .val (.int p5), .val (.int v162), .val (.ref b164), .val (.int r271), .val (.int r276), .val (.int r281), .val (.int (3 : Int32)), .val (.int r276), .val (.int r281)] [])) _
            refine XS.aload X289.here hx rfl (hb hby at_158) rfl rfl ?_
            show Steps p.tables e below (T289.setTop (mkF m 160 #[.val (.int p0), .val (.int p1), .val (.int p2), .val (.int p3), .val (.int p4), .val (.int p5), .val (.int v162), .val (.ref b164), .val (.int r271), .val (.int r276), .val (.int r281), .val (.int (3 : Int32)), .val (.int r276), .val (.int r281)] [(.ref b164)])) _
            refine st342.trans ?_
            show Steps p.tables e below (T342.setTop (mkF m 163 #[.val (.int p0), .val (.int p1), .val (.int p2), .val (.int p3), .val (.int p4), .val (.int p5), .val (.int v162), .val (.ref b164), .val (.int r271), .val (.int r276), .val (.int r281), .val (.int (3 : Int32)), .val (.int r276), .val (.int r281)] [(.int r271)])) _
            refine XS.iload X342.here hx rfl (hb hby at_163) rfl ?_
            show Steps p.tables e below (T342.setTop (mkF m 165 #[.val (.int p0), .val (.int p1), .val (.int p2), .val (.int p3), .val (.int p4), .val (.int p5), .val (.int v162), .val (.ref b164), .val (.int r271), .val (.int r276), .val (.int r281), .val (.int (3 : Int32)), .val (.int r276), .val (.int r281)] [(.int r271), (.int r271)])) _
            refine XS.icmpYes X342.here hx rfl (pc0 := 165) (pc' := 170) rfl (hb hby at_165) rfl (teq hc165_343).1 (by decide) (by decide) ?_
            show Steps p.tables e below (T342.setTop (mkF m 170 #[.val (.int p0), .val (.int p1), .val (.int p2), .val (.int p3), .val (.int p4), .val (.int p5), .val (.int v162), .val (.ref b164), .val (.int r271), .val (.int r276), .val (.int r281), .val (.int (3 : Int32)), .val (.int r276), .val (.int r281)] [])) _
            refine XS.iload X342.here hx rfl (hb hby at_170) rfl ?_
            show Steps p.tables e below (T342.setTop (mkF m 172 #[.val (.int p0), .val (.int p1), .val (.int p2), .val (.int p3), .val (.int p4), .val (.int p5), .val (.int v162), .val (.ref b164), .val (.int r271), .val (.int r276), .val (.int r281), .val (.int (3 : Int32)), .val (.int r276), .val (.int r281)] [(.int (3 : Int32))])) _
            refine XS.iconst X342.here hx rfl (hb hby at_172) ?_
            show Steps p.tables e below (T342.setTop (mkF m 173 #[.val (.int p0), .val (.int p1), .val (.int p2), .val (.int p3), .val (.int p4), .val (.int p5), .val (.int v162), .val (.ref b164), .val (.int r271), .val (.int r276), .val (.int r281), .val (.int (3 : Int32)), .val (.int r276), .val (.int r281)] [(.int (2 : Int32)), (.int (3 : Int32))])) _
            refine XS.icmpNo X342.here hx rfl (hb hby at_173) rfl (flt (by decide : ¬ ((3 : Int32) < (2 : Int32)))).1 ?_
            show Steps p.tables e below (T342.setTop (mkF m 176 #[.val (.int p0), .val (.int p1), .val (.int p2), .val (.int p3), .val (.int p4), .val (.int p5), .val (.int v162), .val (.ref b164), .val (.int r271), .val (.int r276), .val (.int r281), .val (.int (3 : Int32)), .val (.int r276), .val (.int r281)] [])) _
            refine XS.aload X342.here hx rfl (hb hby at_176) rfl rfl ?_
            show Steps p.tables e below (T342.setTop (mkF m 178 #[.val (.int p0), .val (.int p1), .val (.int p2), .val (.int p3), .val (.int p4), .val (.int p5), .val (.int v162), .val (.ref b164), .val (.int r271), .val (.int r276), .val (.int r281), .val (.int (3 : Int32)), .val (.int r276), .val (.int r281)] [(.ref b164)])) _
            refine st346.trans ?_
            show Steps p.tables e below (T346.setTop (mkF m 181 #[.val (.int p0), .val (.int p1), .val (.int p2), .val (.int p3), .val (.int p4), .val (.int p5), .val (.int v162), .val (.ref b164), .val (.int r271), .val (.int r276), .val (.int r281), .val (.int (3 : Int32)), .val (.int r276), .val (.int r281)] [(.int r276)])) _
            refine XS.iload X346.here hx rfl (hb hby at_181) rfl ?_
            show Steps p.tables e below (T346.setTop (mkF m 183 #[.val (.int p0), .val (.int p1), .val (.int p2), .val (.int p3), .val (.int p4), .val (.int p5), .val (.int v162), .val (.ref b164), .val (.int r271), .val (.int r276), .val (.int r281), .val (.int (3 : Int32)), .val (.int r276), .val (.int r281)] [(.int r276), (.int r276)])) _
            refine XS.icmpYes X346.here hx rfl (pc0 := 183) (pc' := 188) rfl (hb hby at_183) rfl (teq hc183_347).1 (by decide) (by decide) ?_
            show Steps p.tables e below (T346.setTop (mkF m 188 #[.val (.int p0), .val (.int p1), .val (.int p2), .val (.int p3), .val (.int p4), .val (.int p5), .val (.int v162), .val (.ref b164), .val (.int r271), .val (.int r276), .val (.int r281), .val (.int (3 : Int32)), .val (.int r276), .val (.int r281)] [])) _
            refine XS.iload X346.here hx rfl (hb hby at_188) rfl ?_
            show Steps p.tables e below (T346.setTop (mkF m 190 #[.val (.int p0), .val (.int p1), .val (.int p2), .val (.int p3), .val (.int p4), .val (.int p5), .val (.int v162), .val (.ref b164), .val (.int r271), .val (.int r276), .val (.int r281), .val (.int (3 : Int32)), .val (.int r276), .val (.int r281)] [(.int (3 : Int32))])) _
            refine XS.iconst X346.here hx rfl (hb hby at_190) ?_
            show Steps p.tables e below (T346.setTop (mkF m 191 #[.val (.int p0), .val (.int p1), .val (.int p2), .val (.int p3), .val (.int p4), .val (.int p5), .val (.int v162), .val (.ref b164), .val (.int r271), .val (.int r276), .val (.int r281), .val (.int (3 : Int32)), .val (.int r276), .val (.int r281)] [(.int (3 : Int32)), (.int (3 : Int32))])) _
            refine XS.icmpNo X346.here hx rfl (hb hby at_191) rfl (flt (by decide : ¬ ((3 : Int32) < (3 : Int32)))).1 ?_
            show Steps p.tables e below (T346.setTop (mkF m 194 #[.val (.int p0), .val (.int p1), .val (.int p2), .val (.int p3), .val (.int p4), .val (.int p5), .val (.int v162), .val (.ref b164), .val (.int r271), .val (.int r276), .val (.int r281), .val (.int (3 : Int32)), .val (.int r276), .val (.int r281)] [])) _
            refine XS.aload X346.here hx rfl (hb hby at_194) rfl rfl ?_
            show Steps p.tables e below (T346.setTop (mkF m 196 #[.val (.int p0), .val (.int p1), .val (.int p2), .val (.int p3), .val (.int p4), .val (.int p5), .val (.int v162), .val (.ref b164), .val (.int r271), .val (.int r276), .val (.int r281), .val (.int (3 : Int32)), .val (.int r276), .val (.int r281)] [(.ref b164)])) _
            refine st350.trans ?_
            show Steps p.tables e below (T350.setTop (mkF m 199 #[.val (.int p0), .val (.int p1), .val (.int p2), .val (.int p3), .val (.int p4), .val (.int p5), .val (.int v162), .val (.ref b164), .val (.int r271), .val (.int r276), .val (.int r281), .val (.int (3 : Int32)), .val (.int r276), .val (.int r281)] [(.int r281)])) _
            refine XS.iload X350.here hx rfl (hb hby at_199) rfl ?_
            show Steps p.tables e below (T350.setTop (mkF m 201 #[.val (.int p0), .val (.int p1), .val (.int p2), .val (.int p3), .val (.int p4), .val (.int p5), .val (.int v162), .val (.ref b164), .val (.int r271), .val (.int r276), .val (.int r281), .val (.int (3 : Int32)), .val (.int r276), .val (.int r281)] [(.int r281), (.int r281)])) _
            refine XS.icmpYes X350.here hx rfl (pc0 := 201) (pc' := 206) rfl (hb hby at_201) rfl (teq hc201_351).1 (by decide) (by decide) ?_
            show Steps p.tables e below (T350.setTop (mkF m 206 #[.val (.int p0), .val (.int p1), .val (.int p2), .val (.int p3), .val (.int p4), .val (.int p5), .val (.int v162), .val (.ref b164), .val (.int r271), .val (.int r276), .val (.int r281), .val (.int (3 : Int32)), .val (.int r276), .val (.int r281)] [])) _
            refine XS.aload X350.here hx rfl (hb hby at_206) rfl rfl ?_
            show Steps p.tables e below (T350.setTop (mkF m 208 #[.val (.int p0), .val (.int p1), .val (.int p2), .val (.int p3), .val (.int p4), .val (.int p5), .val (.int v162), .val (.ref b164), .val (.int r271), .val (.int r276), .val (.int r281), .val (.int (3 : Int32)), .val (.int r276), .val (.int r281)] [(.ref b164)])) _
            refine st352.trans ?_
            show Steps p.tables e below (T352.setTop (mkF m 211 #[.val (.int p0), .val (.int p1), .val (.int p2), .val (.int p3), .val (.int p4), .val (.int p5), .val (.int v162), .val (.ref b164), .val (.int r271), .val (.int r276), .val (.int r281), .val (.int (3 : Int32)), .val (.int r276), .val (.int r281)] [(.int (if ([] : List Int32).length = 0 then (1 : Int32) else (0 : Int32)))])) _
            exact kt
          obtain ⟨fs, hr, hrun, hended, hW, hsame⟩ := X352.leave (v := some (.int (nar .boolean (if ([] : List Int32).length = 0 then (1 : Int32) else (0 : Int32))))) (fun h => by rw [Bd.returns] at h; cases h)
          refine ⟨_, _, k353 _ (retN X352 hx (t := .boolean) Bd.returns (by simp) (hb hby at_211) hr), hrun, hended, _, _, rfl, ?_, ⟨_, rfl⟩, hW, hsame.mono (by decide) (by decide)⟩
          show Q0 Z p0 p1 p2 p3 p4 p5 h0 n0 _ T352.heap _
          rw [eq352]
          exact ⟨rfl, N352⟩
set_option maxRecDepth 65536 in
set_option maxHeartbeats 40000000 in
theorem comes_1 {Post : Tables → Env → Array Value → State → Outcome → State → Prop} (hpost : ∀ tb e args s v u, (limb_1_1.after args s (.returned v) u = true ∧ limb_1_2.after args s (.returned v) u = true ∧ True) → FrameEnd s (.returned v) u (Jvm.fieldLocs frame_1_writes args s ++ Jvm.arrayLocs frame_1_arrays args s ++ Jvm.staticLocs frame_1_statics s) 16 128 → Post tb e args s (.returned v) u) :
    ArmFor flags0 classFile x code maxLocals ret World_1 tables_1 room_1 Calls_1 rest_1 Pre_1 Post := by
  intro l hfl _ _ p e ha hc hk s m args below hf hA hF happ hP
  obtain ⟨hcalls, hrest, hpre⟩ := hP
  obtain ⟨-, -, -, hnamed, -, -, -, hat⟩ := (Spec.applies_iff hf).mp happ
  obtain ⟨hg, hn⟩ := and_e (Cond.before_iff.mp (show (Jvm.Cond.and given_1 narrow_1).before args s = true from hpre))
  have hcount := (and_e hg).1
  have hgs0 := (and_e hg).2
  have hi0 := (and_e hgs0).1
  have hgs1 := (and_e hgs0).2
  have hi1 := (and_e hgs1).1
  have hgs2 := (and_e hgs1).2
  have hi2 := (and_e hgs2).1
  have hgs3 := (and_e hgs2).2
  have hi3 := (and_e hgs3).1
  have hgs4 := (and_e hgs3).2
  have hi4 := (and_e hgs4).1
  have hgs5 := (and_e hgs4).2
  have hi5 := hgs5
  obtain ⟨w0, w1, w2, w3, w4, w5, rfl⟩ : ∃ w0 w1 w2 w3 w4 w5 : Value, args = #[w0, w1, w2, w3, w4, w5] := by
    have hs : args.size = 6 := by simpa [Cond.value, given_1] using hcount
    obtain ⟨L⟩ := args
    match L, hs with
    | [w0, w1, w2, w3, w4, w5], _ => exact ⟨w0, w1, w2, w3, w4, w5, rfl⟩
  have hw := fun d (hd : d ∈ tables_1) => atoms_spec (ws := Jvm.Cond.code x code maxLocals ret :: tables_1) hat d (List.mem_cons_of_mem _ hd)
  have hfit : Fit s := fun {y c} hc i hi => by
    obtain ⟨ha, rfl⟩ := Array.getElem?_eq_some_iff.mp hc
    have q := List.all_eq_true.mp ((Array.all_eq_true_iff_forall_mem.mp hF) _ (Array.getElem_mem ha)) i (List.mem_range.mpr hi)
    simpa [Array.getElem?_eq_getElem hi] using q
  obtain ⟨i0, ei0⟩ := is_v hi0
  obtain rfl : w0 = (.int i0) := Option.some.inj ei0
  obtain ⟨i1, ei1⟩ := is_v hi1
  obtain rfl : w1 = (.int i1) := Option.some.inj ei1
  obtain ⟨i2, ei2⟩ := is_v hi2
  obtain rfl : w2 = (.int i2) := Option.some.inj ei2
  obtain ⟨i3, ei3⟩ := is_v hi3
  obtain rfl : w3 = (.int i3) := Option.some.inj ei3
  obtain ⟨i4, ei4⟩ := is_v hi4
  obtain rfl : w4 = (.int i4) := Option.some.inj ei4
  obtain ⟨i5, ei5⟩ := is_v hi5
  obtain rfl : w5 = (.int i5) := Option.some.inj ei5
  obtain ⟨n, o, h1, h2, h3, _, L, rfl, ⟨rfl, N⟩, hq⟩ := rm0 l s _ hw tables_1 i0 i1 i2 i3 i4 i5 s.heap s.heap.size (Nat.le_refl _)  p e ha hc hk s m _ below hf ((Spec.applies_iff_loose hf).mp happ).1 ⟨rfl, State.Warmed39.refl s, rfl⟩ trivial
  refine ⟨n, _, h1, h2, h3, hpost _ _ _ _ _ _ ⟨Cond.after_iff.mpr rfl, Cond.after_iff.mpr (eq_i res_at (Term.int_eval (1)) rfl), trivial⟩ ⟨hq.1, hq.2.1, (hq.2.2.sift fun y hy => Or.inr (N y hy)).mono (by decide) (by decide)⟩⟩
theorem main_1_1 : Claimed_1_1 := comes_1 fun _ _ _ _ _ _ h hF => ⟨h.1, hF⟩
theorem main_1_2 : Claimed_1_2 := comes_1 fun _ _ _ _ _ _ h hF => ⟨h.2.1, hF⟩
end Jvm.Pilot.@@N@@
namespace Jvm.Pilot.@@N@@
open Jvm Jvm.ClassFile Sem Op Lib Jvm.Free Jvm.Stand Jvm.Pilot.@@N@@.Jvm.D
/-! MADE BY PROGRAM (witnessworld.py) out of the Statement's table words and the real class files: 11 classes; the members and pool entries that the words name. The judged class is class 1, her method 2. -/
namespace start1
open Jvm.ClassFile
def u (s : String) : CpInfo := .utf8 (stringToUtf16 s)
/-- a pool by its gaps: so many unusable entries, then the entry; so many at the end -/
def gap : Nat → List CpInfo → List CpInfo
  | 0, r => r
  | n + 1, r => .unusable :: gap n r
def poolList (es : List (Nat × CpInfo)) (last : Nat) : List CpInfo := es.foldr (fun e r => gap e.1 (e.2 :: r)) (gap last [])
def pool (es : List (Nat × CpInfo)) (last : Nat) : Array CpInfo := ⟨poolList es last⟩
def fileOf (pool : Array CpInfo) (this : Nat) (attrs : Array Attribute := #[]) (ms : Array MethodInfo := #[]) (fl : Nat := 33) (sup : Nat := 0) (ifs : Array Nat := #[]) (fds : Array FieldInfo := #[]) : ClassFile where
  minorVersion := 0
  majorVersion := 65
  constantPool := pool
  accessFlags := fl
  thisClass := this
  superClass := sup
  interfaces := ifs
  fields := fds
  methods := ms
  attributes := attrs
def plain (name : String) (sup : Option ClassId) : Class where
  name := name
  kind := .ordinary
  loader := none
  accessFlags := 33
  super := sup
  interfaces := #[]
  cf := none
  fields := #[]
  methods := #[]
  instanceTypes := #[]
  staticTypes := #[]
  resolved := #[]
  callSites := []
  init := .initialized
  statics := none
  mirror := none

def pool0 : Array CpInfo := pool [(5, u "<init>"), (0, u "()V"), (1, .class_ 10), (1, u "java/lang/Object")] 113

def k0c0 : Code := { maxStack := 0, maxLocals := 1, code := object_method_1_code, exceptionTable := #[], attributes := #[] }
def k0m0 : Method := { name := "<init>", desc := "()V", sig := { parameters := [], returnType := none }, accessFlags := 1, code := some k0c0 }
/-- java/lang/Object -/
def k0 : Class := { plain "java/lang/Object" none with
  accessFlags := 33
  interfaces := #[]
  cf := some (fileOf pool0 8 #[] #[{ accessFlags := 1, nameIndex := 5, descriptorIndex := 6, attributes := #[] }] 33 0 #[] #[])
  fields := #[]
  methods := #[k0m0]
  instanceTypes := #[]
  staticTypes := #[]
  resolved := Array.replicate 124 none
  statics := none }

def pool1 : Array CpInfo := pool [(2, .class_ 4), (1, u "java/lang/Object"), (0, u "<init>"), (0, u "()V"), (0, .integer 2147483647), (0, .class_ 9), (0, u "com/example/tablewise/tablewise/propagation/WaitingRing"), (0, .methodref 8 11), (0, .nameAndType 5 12), (0, u "(I)V"), (0, .methodref 14 15), (0, .class_ 16), (0, .nameAndType 17 18), (0, u "com/example/tablewise/tablewise/propagation/WaitingRingAddPinLaw"), (0, u "mod"), (0, u "(II)I"), (0, .methodref 8 20), (0, .nameAndType 21 12), (0, u "add"), (0, .methodref 8 23), (0, .nameAndType 24 25), (0, u "take"), (0, u "()I"), (0, .methodref 8 27), (0, .nameAndType 28 29), (0, u "isEmpty"), (0, u "()Z"), (2, u "law"), (0, u "(IIIIII)Z")] 3

def k1m0 : Method := { name := "<init>", desc := "()V", sig := { parameters := [], returnType := none }, accessFlags := 1, code := none }
def k1c1 : Code := { maxStack := 2, maxLocals := 2, code := method_2_code, exceptionTable := #[], attributes := #[] }
def k1m1 : Method := { name := "mod", desc := "(II)I", sig := { parameters := [.int, .int], returnType := some .int }, accessFlags := 10, code := some k1c1 }
def k1c2 : Code := { maxStack := 3, maxLocals := 14, code := code, exceptionTable := #[], attributes := #[] }
def k1m2 : Method := { name := "law", desc := "(IIIIII)Z", sig := { parameters := [.int, .int, .int, .int, .int, .int], returnType := some .boolean }, accessFlags := 9, code := some k1c2 }
/-- com/example/tablewise/tablewise/propagation/WaitingRingAddPinLaw -/
def k1 : Class := { plain "com/example/tablewise/tablewise/propagation/WaitingRingAddPinLaw" (some 0) with
  accessFlags := 49
  interfaces := #[]
  cf := some (fileOf pool1 14 #[] #[{ accessFlags := 1, nameIndex := 5, descriptorIndex := 6, attributes := #[] }, { accessFlags := 10, nameIndex := 17, descriptorIndex := 18, attributes := #[] }, { accessFlags := 9, nameIndex := 32, descriptorIndex := 33, attributes := #[] }] 49 2 #[] #[])
  fields := #[]
  methods := #[k1m0, k1m1, k1m2]
  instanceTypes := #[]
  staticTypes := #[]
  resolved := Array.replicate 37 none
  statics := none }

def pool2 : Array CpInfo := pool [(1, .methodref 2 3), (0, .class_ 4), (0, .nameAndType 5 6), (0, u "java/lang/Object"), (0, u "<init>"), (0, u "()V"), (0, .fieldref 8 9), (0, .class_ 10), (0, .nameAndType 11 12), (0, u "com/example/tablewise/tablewise/propagation/WaitingRing"), (0, u "ring"), (0, u "[I"), (0, .fieldref 8 14), (0, .nameAndType 15 16), (0, u "waiting"), (0, u "[Z"), (0, .fieldref 8 18), (0, .nameAndType 19 20), (0, u "count"), (0, u "I"), (0, .fieldref 8 22), (0, .nameAndType 23 20), (0, u "head"), (2, u "take"), (0, u "()I"), (0, u "(I)V"), (2, u "isEmpty"), (0, u "()Z"), (1, u "add")] 4

def k2c0 : Code := { maxStack := 2, maxLocals := 2, code := prog_25_method_1_code, exceptionTable := #[], attributes := #[] }
def k2m0 : Method := { name := "<init>", desc := "(I)V", sig := { parameters := [.int], returnType := none }, accessFlags := 0, code := some k2c0 }
def k2c1 : Code := { maxStack := 1, maxLocals := 1, code := prog_25_method_2_code, exceptionTable := #[], attributes := #[] }
def k2m1 : Method := { name := "isEmpty", desc := "()Z", sig := { parameters := [], returnType := some .boolean }, accessFlags := 0, code := some k2c1 }
def k2c2 : Code := { maxStack := 3, maxLocals := 3, code := prog_25_method_3_code, exceptionTable := #[], attributes := #[] }
def k2m2 : Method := { name := "add", desc := "(I)V", sig := { parameters := [.int], returnType := none }, accessFlags := 0, code := some k2c2 }
def k2c3 : Code := { maxStack := 3, maxLocals := 2, code := prog_25_method_4_code, exceptionTable := #[], attributes := #[] }
def k2m3 : Method := { name := "take", desc := "()I", sig := { parameters := [], returnType := some .int }, accessFlags := 0, code := some k2c3 }
/-- com/example/tablewise/tablewise/propagation/WaitingRing -/
def k2 : Class := { plain "com/example/tablewise/tablewise/propagation/WaitingRing" (some 0) with
  accessFlags := 32
  interfaces := #[]
  cf := some (fileOf pool2 8 #[] #[{ accessFlags := 0, nameIndex := 5, descriptorIndex := 28, attributes := #[] }, { accessFlags := 0, nameIndex := 31, descriptorIndex := 32, attributes := #[] }, { accessFlags := 0, nameIndex := 34, descriptorIndex := 28, attributes := #[] }, { accessFlags := 0, nameIndex := 26, descriptorIndex := 27, attributes := #[] }] 32 2 #[] #[{ accessFlags := 18, nameIndex := 11, descriptorIndex := 12, attributes := #[] }, { accessFlags := 18, nameIndex := 15, descriptorIndex := 16, attributes := #[] }, { accessFlags := 2, nameIndex := 23, descriptorIndex := 20, attributes := #[] }, { accessFlags := 2, nameIndex := 19, descriptorIndex := 20, attributes := #[] }])
  fields := #[{ name := "ring", type := (.array .int), accessFlags := 18, slot := 0, constantValue := 0 }, { name := "waiting", type := (.array .boolean), accessFlags := 18, slot := 1, constantValue := 0 }, { name := "head", type := .int, accessFlags := 2, slot := 2, constantValue := 0 }, { name := "count", type := .int, accessFlags := 2, slot := 3, constantValue := 0 }]
  methods := #[k2m0, k2m1, k2m2, k2m3]
  instanceTypes := #[(.array .int), (.array .boolean), .int, .int]
  staticTypes := #[]
  resolved := Array.replicate 39 none
  statics := none }

def pool3 : Array CpInfo := pool [(1, u "java/lang/Cloneable"), (0, .class_ 1), (0, u "java/lang/Object"), (0, .class_ 3)] 3

/-- java/lang/Cloneable -/
def k3 : Class := { plain "java/lang/Cloneable" (some 0) with
  accessFlags := 1537
  interfaces := #[]
  cf := some (fileOf pool3 2 #[] #[] 1537 4 #[] #[])
  fields := #[]
  methods := #[]
  instanceTypes := #[]
  staticTypes := #[]
  resolved := Array.replicate 8 none
  statics := none }

def pool4 : Array CpInfo := pool [(1, u "java/io/Serializable"), (0, .class_ 1), (0, u "java/lang/Object"), (0, .class_ 3)] 3

/-- java/io/Serializable -/
def k4 : Class := { plain "java/io/Serializable" (some 0) with
  accessFlags := 1537
  interfaces := #[]
  cf := some (fileOf pool4 2 #[] #[] 1537 4 #[] #[])
  fields := #[]
  methods := #[]
  instanceTypes := #[]
  staticTypes := #[]
  resolved := Array.replicate 8 none
  statics := none }

/-- the primitive boolean -/
def k5 : Class := { plain "boolean" none with kind := .primitive 'Z', accessFlags := 0x411 }
/-- [Z -/
def k6 : Class := { plain "[Z" (some 0) with kind := .array 5 .boolean, interfaces := #[3, 4], accessFlags := 1041 }

/-- the primitive byte -/
def k7 : Class := { plain "byte" none with kind := .primitive 'B', accessFlags := 0x411 }
/-- [B -/
def k8 : Class := { plain "[B" (some 0) with kind := .array 7 .byte, interfaces := #[3, 4], accessFlags := 1041 }

/-- the primitive int -/
def k9 : Class := { plain "int" none with kind := .primitive 'I', accessFlags := 0x411 }
/-- [I -/
def k10 : Class := { plain "[I" (some 0) with kind := .array 9 .int, interfaces := #[3, 4], accessFlags := 1041 }

def heap : Heap := #[]
def classes : Array Class := #[k0, k1, k2, k3, k4, k5, k6, k7, k8, k9, k10]
def interned : List (Array UInt16 × Addr) := []
def slotsUsed : Nat := 0
def theMethod : MethodId := ⟨1, 2⟩
def args0 : Array Value := #[.int 1, .int 2, .int 3, .int 4, .int 5, .int 6]
def aboutOver (below : List Frame) : State where
  vm := { classes := classes, interned := interned.toArray }
  heap := heap
  slotsUsed := slotsUsed
  threads := #[{ frames := .invoking theMethod args0 :: below }]
def below0 : List Frame := [.native { method := ⟨0, 0⟩, args := #[] }]
def about1 : State := aboutOver below0
def p0 : Program := .bare "" "" ""
def e0 : Env := launch0.env 0 0 0
theorem w_frames : about1.frames = Frame.invoking theMethod args0 :: below0 := rfl
set_option maxRecDepth 65536 in
theorem w_args : argsFit about1.vm theMethod args0 = true := by decide +kernel
set_option maxRecDepth 65536 in
theorem w_heap : heapFits about1 = true := by decide +kernel
set_option maxRecDepth 65536 in
theorem w_runnable : about1.curStatus? = some .runnable := by decide +kernel
set_option maxRecDepth 65536 in
theorem w_alone : about1.alone = true := by decide +kernel
set_option maxRecDepth 65536 in
theorem w_named : about1.methodNamed? x = some theMethod := by decide +kernel
set_option maxRecDepth 65536 in
theorem w_hears : about1.hears theMethod below0 = true := by decide +kernel
set_option maxRecDepth 65536 in
theorem w_ripe : about1.ripe theMethod args0 below0 = true := by decide +kernel
theorem w_running : about1.status = .running := rfl
set_option maxRecDepth 65536 in
theorem w_room : about1.hasRoom e0.platform room_1 = true :=
  launch0.hasRoom_least _ room_1 (by decide +kernel) (by decide +kernel) (by decide +kernel) (by decide +kernel) (by decide +kernel) (by decide +kernel)
theorem allAtoms_all (ts : List Jvm.Cond) (a : Array Jvm.Value) (st : Jvm.State) : (allAtoms ts).before a st = ts.all (fun c => c.before a st) := by
  induction ts with
  | nil => rfl
  | cons c t ih =>
    show (Jvm.Cond.and c (allAtoms t)).before a st = _
    rw [Jvm.Cond.before_and, ih, List.all_cons]
def words1 : List Jvm.Cond := Jvm.Cond.code x code maxLocals ret :: tables_1
/-- a 'code' word, met by the world's own term for the bytes: nothing is compared byte by byte -/
theorem code_word {y : MethodName} {bytes : ByteArray} {mx : Nat} {rt : Option FieldType} {a : Array Value} {s : State} {m : MethodId} {meth : Method} {c : Code} (h1 : s.methodNamed? y = some m) (h2 : s.vm.method? m = some meth) (h3 : meth.code = some c) (h4 : c.code = bytes)
    (h5 : (c.maxLocals == mx && c.exceptionTable.isEmpty && decide (c.maxStack ≤ mostOperands) && decide (meth.sig.returnType = rt) && !meth.locks && decide (parseMethodDescriptor y.desc = some meth.sig)) = true) : (Jvm.Cond.code y bytes mx rt).before a s = true := by
  simp only [Bool.and_eq_true, beq_iff_eq, Bool.not_eq_true', decide_eq_true_eq] at h5
  obtain ⟨⟨⟨⟨⟨g1, g2⟩, g3⟩, g4⟩, g5⟩, g6⟩ := h5
  simp [Cond.before, Cond.holds, Cond.value, h1, h2, h3, h4, g1, g2, g3, g4, g5, g6]
def isCode : Jvm.Cond → Bool
  | .code _ _ _ _ => true
  | _ => false
theorem all_split {L : List Jvm.Cond} {P : Jvm.Cond → Bool} (h1 : L.all (fun c => isCode c || P c) = true) (h2 : ∀ c ∈ L.filter isCode, P c = true) : L.all P = true := by
  refine List.all_eq_true.mpr fun c hc => ?_
  have h := List.all_eq_true.mp h1 c hc
  rcases Bool.eq_false_or_eq_true (isCode c) with hi | hi
  · exact h2 c (List.mem_filter.mpr ⟨hc, hi⟩)
  · simpa [hi] using h
set_option maxRecDepth 65536 in
theorem w_c0 : (Jvm.Cond.code x code maxLocals ret).before args0 about1 = true := code_word (m := ⟨1, 2⟩) (meth := k1m2) (c := k1c2) (by decide +kernel) rfl rfl rfl (by decide +kernel)
set_option maxRecDepth 65536 in
theorem w_c1 : (Jvm.Cond.code ({ cls := "com/example/tablewise/tablewise/propagation/WaitingRing", name := "<init>", desc := "(I)V" } : Jvm.MethodName) prog_25_method_1_code (2 : Nat) (Option.none : Option Jvm.ClassFile.FieldType)).before args0 about1 = true := code_word (m := ⟨2, 0⟩) (meth := k2m0) (c := k2c0) (by decide +kernel) rfl rfl rfl (by decide +kernel)
set_option maxRecDepth 65536 in
theorem w_c2 : (Jvm.Cond.code ({ cls := "java/lang/Object", name := "<init>", desc := "()V" } : Jvm.MethodName) object_method_1_code (1 : Nat) (Option.none : Option Jvm.ClassFile.FieldType)).before args0 about1 = true := code_word (m := ⟨0, 0⟩) (meth := k0m0) (c := k0c0) (by decide +kernel) rfl rfl rfl (by decide +kernel)
set_option maxRecDepth 65536 in
theorem w_c3 : (Jvm.Cond.code ({ cls := "com/example/tablewise/tablewise/propagation/WaitingRingAddPinLaw", name := "mod", desc := "(II)I" } : Jvm.MethodName) method_2_code (2 : Nat) (Option.some Jvm.ClassFile.FieldType.int)).before args0 about1 = true := code_word (m := ⟨1, 1⟩) (meth := k1m1) (c := k1c1) (by decide +kernel) rfl rfl rfl (by decide +kernel)
set_option maxRecDepth 65536 in
theorem w_c4 : (Jvm.Cond.code ({ cls := "com/example/tablewise/tablewise/propagation/WaitingRing", name := "add", desc := "(I)V" } : Jvm.MethodName) prog_25_method_3_code (3 : Nat) (Option.none : Option Jvm.ClassFile.FieldType)).before args0 about1 = true := code_word (m := ⟨2, 2⟩) (meth := k2m2) (c := k2c2) (by decide +kernel) rfl rfl rfl (by decide +kernel)
set_option maxRecDepth 65536 in
theorem w_c5 : (Jvm.Cond.code ({ cls := "com/example/tablewise/tablewise/propagation/WaitingRing", name := "take", desc := "()I" } : Jvm.MethodName) prog_25_method_4_code (2 : Nat) (Option.some Jvm.ClassFile.FieldType.int)).before args0 about1 = true := code_word (m := ⟨2, 3⟩) (meth := k2m3) (c := k2c3) (by decide +kernel) rfl rfl rfl (by decide +kernel)
set_option maxRecDepth 65536 in
theorem w_c6 : (Jvm.Cond.code ({ cls := "com/example/tablewise/tablewise/propagation/WaitingRing", name := "isEmpty", desc := "()Z" } : Jvm.MethodName) prog_25_method_2_code (1 : Nat) (Option.some Jvm.ClassFile.FieldType.boolean)).before args0 about1 = true := code_word (m := ⟨2, 1⟩) (meth := k2m1) (c := k2c1) (by decide +kernel) rfl rfl rfl (by decide +kernel)
def codes1 : List Jvm.Cond := [Jvm.Cond.code x code maxLocals ret, Jvm.Cond.code ({ cls := "com/example/tablewise/tablewise/propagation/WaitingRing", name := "<init>", desc := "(I)V" } : Jvm.MethodName) prog_25_method_1_code (2 : Nat) (Option.none : Option Jvm.ClassFile.FieldType), Jvm.Cond.code ({ cls := "java/lang/Object", name := "<init>", desc := "()V" } : Jvm.MethodName) object_method_1_code (1 : Nat) (Option.none : Option Jvm.ClassFile.FieldType), Jvm.Cond.code ({ cls := "com/example/tablewise/tablewise/propagation/WaitingRingAddPinLaw", name := "mod", desc := "(II)I" } : Jvm.MethodName) method_2_code (2 : Nat) (Option.some Jvm.ClassFile.FieldType.int), Jvm.Cond.code ({ cls := "com/example/tablewise/tablewise/propagation/WaitingRing", name := "add", desc := "(I)V" } : Jvm.MethodName) prog_25_method_3_code (3 : Nat) (Option.none : Option Jvm.ClassFile.FieldType), Jvm.Cond.code ({ cls := "com/example/tablewise/tablewise/propagation/WaitingRing", name := "take", desc := "()I" } : Jvm.MethodName) prog_25_method_4_code (2 : Nat) (Option.some Jvm.ClassFile.FieldType.int), Jvm.Cond.code ({ cls := "com/example/tablewise/tablewise/propagation/WaitingRing", name := "isEmpty", desc := "()Z" } : Jvm.MethodName) prog_25_method_2_code (1 : Nat) (Option.some Jvm.ClassFile.FieldType.boolean)]
set_option maxRecDepth 65536 in
theorem codes_eq : words1.filter isCode = codes1 := rfl
theorem w_codes : ∀ c ∈ words1.filter isCode, c.before args0 about1 = true := by
  rw [codes_eq]
  intro c hc
  simp only [codes1, List.mem_cons, List.not_mem_nil, or_false] at hc
  rcases hc with rfl | rfl | rfl | rfl | rfl | rfl | rfl
  · exact w_c0
  · exact w_c1
  · exact w_c2
  · exact w_c3
  · exact w_c4
  · exact w_c5
  · exact w_c6
set_option maxRecDepth 65536 in
theorem w_t1 : (words1.take 24).all (fun c => isCode c || c.before args0 about1) = true := by decide +kernel
set_option maxRecDepth 65536 in
theorem w_t2 : (words1.drop 24).all (fun c => isCode c || c.before args0 about1) = true := by decide +kernel
theorem w_tables : (allAtoms (Jvm.Cond.code x code maxLocals ret :: tables_1)).before args0 about1 = true := by
  rw [allAtoms_all]
  show words1.all (fun c => c.before args0 about1) = true
  refine all_split ?_ w_codes
  rw [← List.take_append_drop 24 words1, List.all_append, w_t1, w_t2]
  rfl
set_option maxRecDepth 65536 in
theorem w_case : (Jvm.Cond.and given_1 narrow_1).before args0 about1 = true := by decide +kernel
theorem w_applies : (headSpec (Jvm.Cond.code x code maxLocals ret :: tables_1) room_1).applies x e0.platform about1 = true :=
  (Spec.applies_iff w_frames).mpr ⟨w_running, w_runnable, w_alone, w_named, w_hears, w_ripe, w_room, w_tables⟩
theorem atStart : AtStart classFile x code maxLocals ret World_1 tables_1 room_1 Calls_1 rest_1 Pre_1 launch0 p0 e0 about1 theMethod args0 below0 :=
  ⟨lists_1, trivial, launch0.admits_env _ _ _, launch0.least_env, fairChoices_fair.cas, fairChoices_fair.clock, w_frames, w_args, w_heap, w_applies, trivial, trivial, w_case⟩
end start1
theorem witness_1 : WitnessClaimed_1 := ⟨start1.p0, start1.e0, start1.about1, start1.theMethod, start1.args0, start1.below0, start1.atStart⟩
end Jvm.Pilot.@@N@@
