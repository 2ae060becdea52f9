import JvmDerived
import JvmDerived.Pilot.@@N@@Statement
import JvmDerived.Pilot.@@N@@Code
set_option linter.unusedVariables false
set_option linter.unusedSimpArgs false
namespace Jvm.RoadKit
open Sem ClassFile Op Lib Jvm.Stand Jvm.Free Jvm.LawKit
section New
variable {p : Program} {l : Launch} {e : Env} {R : Room} {s : State} {m : MethodId} {args : Array Value} {below : List Frame} {meth : Method} {c : Code} {T : State} {locs : List Loc} {cells slots : Nat}
theorem retI (X : Stand p l e R s m args below meth c T locs cells slots) (hx : p.tables.exec = Jvm.exec) {pc : Nat} {Ls : Array Slot} {z : Int32} {rest : List Value} (hret : meth.sig.returnType = some .int) (hd : decode c.code pc = .ok (.ireturn, 1)) {fs : List Frame}
    (hl : ∀ (f : JFrame) (acts : List Action), f.method = m → f.locked = none → f.entered = [] → (doReturn e (T.setTop f) acts (some (.int z))).1 = T.setFrames fs) : Steps p.tables e below (T.setTop (mkF m pc Ls (.int z :: rest))) (T.setFrames fs) := by
  have hm' : T.vm.method? m = some meth := X.method'
  have hn : narrow .int (.int z) = .int z := rfl
  show Steps p.tables e below (T.setTop { method := m, pc := pc, locals := Ls, stack := _ :: rest, locked := none }) _
  jvm_step X.here [X.here.top, hx, hd, hm', hret, hn]
  first | (intro acts; rw [hl _ acts rfl rfl rfl]) | rw [hl _ _ rfl rfl rfl]
  exact Steps.refl _
end New
end Jvm.RoadKit
namespace Jvm.Pilot.@@N@@
open Jvm Jvm.ClassFile Sem Op Lib Jvm.Free Jvm.Stand Jvm.LawKit Jvm.RoadKit Bundle Jvm.Pilot.@@N@@.Jvm.D
section Own
variable {p : Program} {l : Launch} {e : Env} {R : Room} {s : State} {m : MethodId} {args : Array Value} {below : List Frame} {meth : Method} {c : Code} {T : State} {locs : List Loc} {cells slots : Nat} {Z : State} {a0 : Array Value} {h h' : Heap}
/-- an array of n places, whose j-th holds f j -/
def own_AF (Z : State) (h : Heap) (a : Addr) (ty : FieldType) (n : Nat) (f : Nat → Value) : Prop := n < 2147483648 ∧ ∃ c : Cell, Arr Z h a c ty ∧ c.slots.size = n ∧ ∀ j, j < n → c.slots[j]? = some (f j)
/-- an array of ints, bytes, chars, booleans -/
def own_AI (Z : State) (h : Heap) (a : Addr) (ty : FieldType) (n : Nat) (f : Nat → Int32) : Prop := own_AF Z h a ty n (fun j => .int (f j))
def own_AL (Z : State) (h : Heap) (a : Addr) (n : Nat) (f : Nat → Int64) : Prop := own_AF Z h a .long n (fun j => .long (f j))
def own_upd {α : Type} (f : Nat → α) (i : Nat) (x : α) : Nat → α := fun j => if j = i then x else f j
theorem own_AF.lt {a : Addr} {ty : FieldType} {n : Nat} {f : Nat → Value} (F : own_AF Z h a ty n f) : a < h.size := by obtain ⟨_, c, A, -⟩ := F; exact A.lt
theorem own_AI.lt {a : Addr} {ty : FieldType} {n : Nat} {f : Nat → Int32} (F : own_AI Z h a ty n f) : a < h.size := own_AF.lt F
theorem own_AL.lt {a : Addr} {n : Nat} {f : Nat → Int64} (F : own_AL Z h a n f) : a < h.size := own_AF.lt F
theorem own_AF.keep {a : Addr} {ty : FieldType} {n : Nat} {f : Nat → Value} {ws : List Addr} (F : own_AF Z h a ty n f) (K : Keep h h' ws) (q : a ∉ ws) : own_AF Z h' a ty n f := by
  obtain ⟨b, c, A, r⟩ := F; exact ⟨b, c, ⟨K.2.1 a c A.1 q, A.2⟩, r⟩
theorem own_AI.keep {a : Addr} {ty : FieldType} {n : Nat} {f : Nat → Int32} {ws : List Addr} (F : own_AI Z h a ty n f) (K : Keep h h' ws) (q : a ∉ ws) : own_AI Z h' a ty n f := own_AF.keep F K q
theorem own_AL.keep {a : Addr} {n : Nat} {f : Nat → Int64} {ws : List Addr} (F : own_AL Z h a n f) (K : Keep h h' ws) (q : a ∉ ws) : own_AL Z h' a n f := own_AF.keep F K q
theorem own_AF.congr {a : Addr} {ty : FieldType} {n : Nat} {f g : Nat → Value} (F : own_AF Z h a ty n f) (q : ∀ j, j < n → f j = g j) : own_AF Z h a ty n g := by
  obtain ⟨b, c, A, s, r⟩ := F; exact ⟨b, c, A, s, fun j hj => by rw [r j hj, q j hj]⟩
theorem own_AI.congr {a : Addr} {ty : FieldType} {n : Nat} {f g : Nat → Int32} (F : own_AI Z h a ty n f) (q : ∀ j, j < n → f j = g j) : own_AI Z h a ty n g := own_AF.congr F fun j hj => by show Value.int (f j) = .int (g j); rw [q j hj]
theorem own_AF.wr {a : Addr} {ty : FieldType} {n i : Nat} {f : Nat → Value} {v : Value} (F : own_AF Z h a ty n f) (hi : i < n) (W : Wr h h' a i v) : own_AF Z h' a ty n (own_upd f i v) := by
  obtain ⟨b, c, A, s, r⟩ := F
  refine ⟨b, _, A.same W, by rw [sz_set]; exact s, fun j hj => ?_⟩
  simp only [Cell.setSlot, own_upd, Array.getElem?_setIfInBounds]
  by_cases q : i = j
  · subst q; simp [s, hi]
  · have q' : ¬ j = i := fun e => q e.symm
    simp [q, q', r j hj]
theorem own_AI.wr {a : Addr} {ty : FieldType} {n i : Nat} {f : Nat → Int32} {x : Int32} (F : own_AI Z h a ty n f) (hi : i < n) (W : Wr h h' a i (.int x)) : own_AI Z h' a ty n (own_upd f i x) :=
  (own_AF.wr F hi W).congr fun j hj => by simp only [own_upd]; split <;> rfl
theorem own_AL.wr {a : Addr} {n i : Nat} {f : Nat → Int64} {x : Int64} (F : own_AL Z h a n f) (hi : i < n) (W : Wr h h' a i (.long x)) : own_AL Z h' a n (own_upd f i x) :=
  (own_AF.wr F hi W).congr fun j hj => by simp only [own_upd]; split <;> rfl
theorem own_idx {j : Int32} {i : Nat} (hj : j.toInt = i) : ¬ j < 0 ∧ j.toNatClampNeg = i := by
  refine ⟨by rw [Int32.lt_iff_toInt_lt, Int32.toInt_zero]; omega, ?_⟩
  have := nat_of (j := j) (by rw [Int32.lt_iff_toInt_lt, Int32.toInt_zero]; omega)
  omega
theorem own_inb {j : Int32} {i n : Nat} {cl : Cell} (hj : j.toInt = i) (hi : i < n) (hs : cl.slots.size = n) : ¬ (j < 0 ∨ cl.slots.size ≤ j.toNatClampNeg) := by
  obtain ⟨h1, h2⟩ := own_idx hj
  rintro (q | q)
  · exact h1 q
  · rw [h2, hs] at q; omega
theorem own_ldF {a : Addr} {n i : Nat} {ty : FieldType} {f : Nat → Value} {j : Int32} {v : Value} (A : own_AF Z h a ty n f) (hj : j.toInt = i) (hi : i < n) (hv : f i = v) : ∃ cl : Cell, Arr Z h a cl ty ∧ ¬ (j < 0 ∨ cl.slots.size ≤ j.toNatClampNeg) ∧ cl.slots[j.toNatClampNeg]? = some v := by
  obtain ⟨b, cl, Ar, hs, hf⟩ := A
  exact ⟨cl, Ar, own_inb hj hi hs, by rw [(own_idx hj).2, hf i hi, hv]⟩
theorem own_ldI (X : Stand p l e R s m args below meth c T locs cells slots) (hx : p.tables.exec = Jvm.exec) (hZ : Z.Warmed39 s.vm) (eT : T.heap = h) {a : Addr} {n i : Nat} {f : Nat → Int32} {j x : Int32} (A : own_AI Z h a .int n f) (hj : j.toInt = i) (hi : i < n) (hv : f i = x) {g : JFrame} (hg : g.method = m) {rest : List Value} (hs : g.stack = .int j :: .ref a :: rest) (hd : decode c.code g.pc = .ok (.iaload, 1)) :
    ∀ target, Steps p.tables e below (T.setTop { g with pc := g.pc + 1, stack := .int x :: rest }) target → Steps p.tables e below (T.setTop g) target := by
  obtain ⟨cl, Ar, h1, h2⟩ := own_ldF A hj hi (by rw [hv])
  exact X.iaload hx (by rw [eT]; exact Ar.1) (State.isArrayOf_alike hZ.alike Ar.2.1) Ar.2.2 h1 h2 hg hs hd
theorem own_ldC (X : Stand p l e R s m args below meth c T locs cells slots) (hx : p.tables.exec = Jvm.exec) (hZ : Z.Warmed39 s.vm) (eT : T.heap = h) {a : Addr} {n i : Nat} {f : Nat → Int32} {j x : Int32} (A : own_AI Z h a .char n f) (hj : j.toInt = i) (hi : i < n) (hv : f i = x) {g : JFrame} (hg : g.method = m) {rest : List Value} (hs : g.stack = .int j :: .ref a :: rest) (hd : decode c.code g.pc = .ok (.caload, 1)) :
    ∀ target, Steps p.tables e below (T.setTop { g with pc := g.pc + 1, stack := .int x :: rest }) target → Steps p.tables e below (T.setTop g) target := by
  obtain ⟨cl, Ar, h1, h2⟩ := own_ldF A hj hi (by rw [hv])
  exact X.caload hx (by rw [eT]; exact Ar.1) (State.isArrayOf_alike hZ.alike Ar.2.1) Ar.2.2 h1 h2 hg hs hd
theorem own_ldB (X : Stand p l e R s m args below meth c T locs cells slots) (hx : p.tables.exec = Jvm.exec) (hZ : Z.Warmed39 s.vm) (eT : T.heap = h) {a : Addr} {n i : Nat} {f : Nat → Int32} {j x : Int32} (A : own_AI Z h a .byte n f) (hj : j.toInt = i) (hi : i < n) (hv : f i = x) {g : JFrame} (hg : g.method = m) {rest : List Value} (hs : g.stack = .int j :: .ref a :: rest) (hd : decode c.code g.pc = .ok (.baload, 1)) :
    ∀ target, Steps p.tables e below (T.setTop { g with pc := g.pc + 1, stack := .int x :: rest }) target → Steps p.tables e below (T.setTop g) target := by
  obtain ⟨cl, Ar, h1, h2⟩ := own_ldF A hj hi (by rw [hv])
  exact X.baloadBytes hx (by rw [eT]; exact Ar.1) (State.isArrayOf_alike hZ.alike Ar.2.1) Ar.2.2 h1 h2 hg hs hd
theorem own_ldZ (X : Stand p l e R s m args below meth c T locs cells slots) (hx : p.tables.exec = Jvm.exec) (hZ : Z.Warmed39 s.vm) (eT : T.heap = h) {a : Addr} {n i : Nat} {f : Nat → Int32} {j x : Int32} (A : own_AI Z h a .boolean n f) (hj : j.toInt = i) (hi : i < n) (hv : f i = x) {g : JFrame} (hg : g.method = m) {rest : List Value} (hs : g.stack = .int j :: .ref a :: rest) (hd : decode c.code g.pc = .ok (.baload, 1)) :
    ∀ target, Steps p.tables e below (T.setTop { g with pc := g.pc + 1, stack := .int x :: rest }) target → Steps p.tables e below (T.setTop g) target := by
  obtain ⟨cl, Ar, h1, h2⟩ := own_ldF A hj hi (by rw [hv])
  exact X.baloadBooleans hx (by rw [eT]; exact Ar.1) (State.isArrayOf_alike hZ.alike Ar.2.1) Ar.2.2 h1 h2 hg hs hd
theorem own_ldJ (X : Stand p l e R s m args below meth c T locs cells slots) (hx : p.tables.exec = Jvm.exec) (hZ : Z.Warmed39 s.vm) (eT : T.heap = h) {a : Addr} {n i : Nat} {f : Nat → Int64} {j : Int32} {x : Int64} (A : own_AL Z h a n f) (hj : j.toInt = i) (hi : i < n) (hv : f i = x) {g : JFrame} (hg : g.method = m) {rest : List Value} (hs : g.stack = .int j :: .ref a :: rest) (hd : decode c.code g.pc = .ok (.laload, 1)) :
    ∀ target, Steps p.tables e below (T.setTop { g with pc := g.pc + 1, stack := .long x :: rest }) target → Steps p.tables e below (T.setTop g) target := by
  obtain ⟨cl, Ar, h1, h2⟩ := own_ldF A hj hi (by rw [hv])
  exact X.laload hx (by rw [eT]; exact Ar.1) (State.isArrayOf_alike hZ.alike Ar.2.1) Ar.2.2 h1 h2 hg hs hd
theorem own_ldR (X : Stand p l e R s m args below meth c T locs cells slots) (hx : p.tables.exec = Jvm.exec) (hZ : Z.Warmed39 s.vm) (eT : T.heap = h) {a : Addr} {n i : Nat} {ty : FieldType} {f : Nat → Value} {j : Int32} {v : Value} (hty : ty.isReference = true) (A : own_AF Z h a ty n f) (hj : j.toInt = i) (hi : i < n) (hv : f i = v) {g : JFrame} (hg : g.method = m) {rest : List Value} (hs : g.stack = .int j :: .ref a :: rest) (hd : decode c.code g.pc = .ok (.aaload, 1)) :
    ∀ target, Steps p.tables e below (T.setTop { g with pc := g.pc + 1, stack := v :: rest }) target → Steps p.tables e below (T.setTop g) target := by
  obtain ⟨cl, Ar, h1, h2⟩ := own_ldF A hj hi hv
  exact X.aaload hx (by rw [eT]; exact Ar.1) (State.isArrayOf_alike hZ.alike Ar.2.1) hty Ar.2.2 h1 h2 hg hs hd
theorem own_len (X : Stand p l e R s m args below meth c T locs cells slots) (hx : p.tables.exec = Jvm.exec) (hZ : Z.Warmed39 s.vm) (eT : T.heap = h) {a : Addr} {n : Nat} {ty : FieldType} {f : Nat → Value} {z : Int32} (A : own_AF Z h a ty n f) (hz : z.toInt = n) {g : JFrame} (hg : g.method = m) {rest : List Value} (hs : g.stack = .ref a :: rest) (hd : decode c.code g.pc = .ok (.arraylength, 1)) :
    ∀ target, Steps p.tables e below (T.setTop { g with pc := g.pc + 1, stack := .int z :: rest }) target → Steps p.tables e below (T.setTop g) target := by
  obtain ⟨b, cl, Ar, hs', hf⟩ := A
  intro target k
  refine X.arraylength hx (by rw [eT]; exact Ar.1) (State.isArrayOf_alike hZ.alike Ar.2.1) hg hs hd target ?_
  have q : cl.slots.size.toInt32 = z := by
    apply Int32.toInt_inj.mp
    rw [hs', len_toInt (by omega), hz]
  rw [q]; exact k
theorem own_stI (X : Stand p l e R s m args below meth c T locs cells slots) (hx : p.tables.exec = Jvm.exec) (hZ : Z.Warmed39 s.vm) (eT : T.heap = h) {a : Addr} {n i : Nat} {f : Nat → Int32} {j x : Int32} (A : own_AI Z h a .int n f) (hj : j.toInt = i) (hi : i < n) {g : JFrame} (hg : g.method = m) {rest : List Value} (hs : g.stack = .int x :: .int j :: .ref a :: rest) (hd : decode c.code g.pc = .ok (.iastore, 1)) :
    ∃ T' h', Stand p l e R s m args below meth c T' (locs ++ [⟨a, i⟩]) cells slots ∧ T'.heap = h' ∧ Wr h h' a i (.int x) ∧ own_AI Z h' a .int n (own_upd f i x) ∧ ∀ target, Steps p.tables e below (T'.setTop { g with pc := g.pc + 1, stack := rest }) target → Steps p.tables e below (T.setTop g) target := by
  obtain ⟨cl, Ar, h1, -⟩ := own_ldF A hj hi rfl
  obtain ⟨T', h', X', e', W, st⟩ := stI X hx hZ eT Ar h1 hg hs hd
  rw [(own_idx hj).2] at X' W
  exact ⟨T', h', X', e', W, A.wr hi W, st⟩
theorem own_stB (X : Stand p l e R s m args below meth c T locs cells slots) (hx : p.tables.exec = Jvm.exec) (hZ : Z.Warmed39 s.vm) (eT : T.heap = h) {a : Addr} {n i : Nat} {f : Nat → Int32} {j x : Int32} (A : own_AI Z h a .byte n f) (hj : j.toInt = i) (hi : i < n) {g : JFrame} (hg : g.method = m) {rest : List Value} (hs : g.stack = .int x :: .int j :: .ref a :: rest) (hd : decode c.code g.pc = .ok (.bastore, 1)) :
    ∃ T' h', Stand p l e R s m args below meth c T' (locs ++ [⟨a, i⟩]) cells slots ∧ T'.heap = h' ∧ Wr h h' a i (.int (x.toInt8.toInt32)) ∧ own_AI Z h' a .byte n (own_upd f i (x.toInt8.toInt32)) ∧ ∀ target, Steps p.tables e below (T'.setTop { g with pc := g.pc + 1, stack := rest }) target → Steps p.tables e below (T.setTop g) target := by
  obtain ⟨cl, Ar, h1, -⟩ := own_ldF A hj hi rfl
  obtain ⟨T', h', X', e', W, st⟩ := stB X hx hZ eT Ar h1 hg hs hd
  rw [(own_idx hj).2] at X' W
  exact ⟨T', h', X', e', W, A.wr hi W, st⟩
theorem own_stZ (X : Stand p l e R s m args below meth c T locs cells slots) (hx : p.tables.exec = Jvm.exec) (hZ : Z.Warmed39 s.vm) (eT : T.heap = h) {a : Addr} {n i : Nat} {f : Nat → Int32} {j x : Int32} (A : own_AI Z h a .boolean n f) (hj : j.toInt = i) (hi : i < n) {g : JFrame} (hg : g.method = m) {rest : List Value} (hs : g.stack = .int x :: .int j :: .ref a :: rest) (hd : decode c.code g.pc = .ok (.bastore, 1)) :
    ∃ T' h', Stand p l e R s m args below meth c T' (locs ++ [⟨a, i⟩]) cells slots ∧ T'.heap = h' ∧ Wr h h' a i (.int (x &&& 1)) ∧ own_AI Z h' a .boolean n (own_upd f i (x &&& 1)) ∧ ∀ target, Steps p.tables e below (T'.setTop { g with pc := g.pc + 1, stack := rest }) target → Steps p.tables e below (T.setTop g) target := by
  obtain ⟨cl, Ar, h1, -⟩ := own_ldF A hj hi rfl
  obtain ⟨T', h', X', e', W, st⟩ := stZ X hx hZ eT Ar h1 hg hs hd
  rw [(own_idx hj).2] at X' W
  exact ⟨T', h', X', e', W, A.wr hi W, st⟩
theorem own_stC (X : Stand p l e R s m args below meth c T locs cells slots) (hx : p.tables.exec = Jvm.exec) (hZ : Z.Warmed39 s.vm) (eT : T.heap = h) {a : Addr} {n i : Nat} {f : Nat → Int32} {j x : Int32} (A : own_AI Z h a .char n f) (hj : j.toInt = i) (hi : i < n) {g : JFrame} (hg : g.method = m) {rest : List Value} (hs : g.stack = .int x :: .int j :: .ref a :: rest) (hd : decode c.code g.pc = .ok (.castore, 1)) :
    ∃ T' h', Stand p l e R s m args below meth c T' (locs ++ [⟨a, i⟩]) cells slots ∧ T'.heap = h' ∧ Wr h h' a i (.int (x.toUInt32.toUInt16.toUInt32.toInt32)) ∧ own_AI Z h' a .char n (own_upd f i (x.toUInt32.toUInt16.toUInt32.toInt32)) ∧ ∀ target, Steps p.tables e below (T'.setTop { g with pc := g.pc + 1, stack := rest }) target → Steps p.tables e below (T.setTop g) target := by
  obtain ⟨cl, Ar, h1, -⟩ := own_ldF A hj hi rfl
  obtain ⟨T', h', X', e', W, st⟩ := stC X hx hZ eT Ar h1 hg hs hd
  rw [(own_idx hj).2] at X' W
  exact ⟨T', h', X', e', W, A.wr hi W, st⟩
theorem own_stJ (X : Stand p l e R s m args below meth c T locs cells slots) (hx : p.tables.exec = Jvm.exec) (hZ : Z.Warmed39 s.vm) (eT : T.heap = h) {a : Addr} {n i : Nat} {f : Nat → Int64} {j : Int32} {x : Int64} (A : own_AL Z h a n f) (hj : j.toInt = i) (hi : i < n) {g : JFrame} (hg : g.method = m) {rest : List Value} (hs : g.stack = .long x :: .int j :: .ref a :: rest) (hd : decode c.code g.pc = .ok (.lastore, 1)) :
    ∃ T' h', Stand p l e R s m args below meth c T' (locs ++ [⟨a, i⟩]) cells slots ∧ T'.heap = h' ∧ Wr h h' a i (.long x) ∧ own_AL Z h' a n (own_upd f i x) ∧ ∀ target, Steps p.tables e below (T'.setTop { g with pc := g.pc + 1, stack := rest }) target → Steps p.tables e below (T.setTop g) target := by
  obtain ⟨cl, Ar, h1, -⟩ := own_ldF A hj hi rfl
  obtain ⟨T', h', X', e', W, st⟩ := stJ X hx hZ eT Ar h1 hg hs hd
  rw [(own_idx hj).2] at X' W
  exact ⟨T', h', X', e', W, A.wr hi W, st⟩
theorem own_newF {a : Addr} {cA : ClassId} {ty : FieldType} {n : Int32} {i : Nat} (hn : n.toInt = i) (A : Arr Z h a (newA cA ty n) ty) : own_AF Z h a ty i (fun _ => defaultValue ty) := by
  obtain ⟨h1, h2⟩ := own_idx hn
  have := n.toInt_lt
  refine ⟨by omega, _, A, by rw [sz_new, h2], fun j hj => ?_⟩
  simp [newA, h2, hj]
theorem own_newI {a : Addr} {cA : ClassId} {ty : FieldType} {n : Int32} {i : Nat} (hn : n.toInt = i) (A : Arr Z h a (newA cA ty n) ty) (hd : defaultValue ty = .int 0) : own_AI Z h a ty i (fun _ => 0) :=
  (own_newF hn A).congr fun _ _ => hd
theorem own_newL {a : Addr} {cA : ClassId} {n : Int32} {i : Nat} (hn : n.toInt = i) (A : Arr Z h a (newA cA .long n) .long) : own_AL Z h a i (fun _ => 0) :=
  (own_newF hn A).congr fun _ _ => rfl
theorem own_Sta.keep {C n d : String} {v : Value} {ws : List Addr} (F : Sta Z h C n d v) (K : Keep h h' ws) (q : ∀ x ∈ ws, ∀ cl : Cell, h[x]? = some cl → cl.vm.isStatics = false) : Sta Z h' C n d v := by
  obtain ⟨cf, i, k, f, st, cell, h1, h2, h3, h4, h5, h6, h7⟩ := F
  refine ⟨cf, i, k, f, st, cell, h1, h2, h3, h4, K.2.1 st cell h5 (fun q' => ?_), h6, h7⟩
  have := q st q' cell h5
  rw [h6] at this; cases this
theorem own_selP {args : Array Value} {C : String} {y y' : MethodName} (hcls : y'.cls = y.cls) (hs : (Jvm.Cond.selects C y' y').before args s = true) (hi' : (Jvm.Cond.instanceMethod y').before args s = true) (hp : (Jvm.Cond.privateMethod y).before args s = true) (hi : (Jvm.Cond.instanceMethod y).before args s = true) (hy : y.cls ≠ "java/lang/invoke/MethodHandle" ∧ y.cls ≠ "java/lang/invoke/VarHandle") : (Jvm.Cond.selects y.cls y y).before args s = true := by
  obtain ⟨mk, methM, hnamed, -⟩ := Cond.instanceMethod_spec hi'
  obtain ⟨kr, hk, hni⟩ := notFace_of_selects hs mk hnamed
  have hc := findClass_of_methodNamed hnamed
  rw [hcls] at hc
  exact selects_self_of_private hc hk hni (Cond.privateMethod_at hp) hi hy
end Own

def own_wrap (n k : Nat) : Nat := if k < n then k else k - n
def own_inv (n : Nat) (q : List Int32) (H : Nat) (fr fw : Nat → Int32) : Prop :=
  H < n ∧ q.length ≤ n ∧ q.Nodup ∧ (∀ x ∈ q, ∃ i : Nat, x.toInt = (i : Int) ∧ i < n) ∧ (∀ i, i < q.length → fr (own_wrap n (H + i)) = q.getD i 0) ∧ (∀ (x : Int32) (i : Nat), x.toInt = (i : Int) → i < n → fw i = if x ∈ q then 1 else 0)
def own_add (q : List Int32) (v : Int32) : List Int32 := if v ∈ q then q else q ++ [v]
theorem own_pig : ∀ (n : Nat) (q : List Int32), q.Nodup → (∀ x ∈ q, ∃ i : Nat, x.toInt = (i : Int) ∧ i < n) → q.length ≤ n
  | 0, q, _, h => by
    cases q with
    | nil => simp
    | cons x r => obtain ⟨i, _, hi⟩ := h x (by simp); omega
  | n + 1, q, hd, h => by
    by_cases hx : ∃ x ∈ q, x.toInt = (n : Int)
    · obtain ⟨x, hx, ex⟩ := hx
      have := own_pig n (q.erase x) (hd.erase x) (fun y hy => by
        obtain ⟨i, e, hi⟩ := h y (List.mem_of_mem_erase hy)
        refine ⟨i, e, ?_⟩
        have h1 : y ≠ x := fun z => by subst z; exact (List.Nodup.not_mem_erase hd) hy
        have h2 : i ≠ n := fun z => h1 (Int32.toInt_inj.mp (by omega))
        omega)
      rw [List.length_erase_of_mem hx] at this
      omega
    · have := own_pig n q hd (fun y hy => by
        obtain ⟨i, e, hi⟩ := h y hy
        exact ⟨i, e, by have : i ≠ n := fun z => hx ⟨y, hy, by omega⟩
                        omega⟩)
      omega
theorem own_nin {n : Nat} {q : List Int32} {H : Nat} {fr fw : Nat → Int32} (I : own_inv n q H fr fw) {v : Int32} {k : Nat} (hv : v.toInt = (k : Int)) (hk : k < n) (h : fw k = 0) : v ∉ q := fun hq => by
  have := I.2.2.2.2.2 v k hv hk
  rw [if_pos hq, h] at this
  exact absurd this (by decide)
theorem own_mem {n : Nat} {q : List Int32} {H : Nat} {fr fw : Nat → Int32} (I : own_inv n q H fr fw) {v : Int32} {k : Nat} (hv : v.toInt = (k : Int)) (hk : k < n) (h : ¬ fw k = 0) : v ∈ q := Classical.byContradiction fun hq => by
  have := I.2.2.2.2.2 v k hv hk
  rw [if_neg hq] at this
  exact h this
theorem own_wlt {n H j : Nat} (h1 : H < n) (h2 : j ≤ n) : own_wrap n (H + j) < n := by unfold own_wrap; split <;> omega
theorem own_inv_add {n : Nat} {q : List Int32} {H : Nat} {fr fw : Nat → Int32} (I : own_inv n q H fr fw) {v : Int32} {k : Nat} (hv : v.toInt = (k : Int)) (hk : k < n) (hq : v ∉ q) : q.length < n ∧ own_inv n (q ++ [v]) H (own_upd fr (own_wrap n (H + q.length)) v) (own_upd fw k 1) := by
  obtain ⟨h1, h2, h3, h4, h5, h6⟩ := I
  have nd : (q ++ [v]).Nodup := by
    rw [List.nodup_append]
    refine ⟨h3, by simp, fun a ha b hb => ?_⟩
    rw [List.mem_singleton] at hb
    subst hb
    exact fun e => hq (e ▸ ha)
  have al : ∀ x ∈ q ++ [v], ∃ i : Nat, x.toInt = (i : Int) ∧ i < n := fun x hx => by
    rcases List.mem_append.mp hx with hx | hx
    · exact h4 x hx
    · rw [List.mem_singleton] at hx; subst hx; exact ⟨k, hv, hk⟩
  have hl := own_pig n _ nd al
  have hl' : q.length < n := by simp at hl; omega
  refine ⟨hl', h1, hl, nd, al, fun i hi => ?_, fun x i hx hin => ?_⟩
  · simp only [List.length_append, List.length_cons, List.length_nil] at hi
    by_cases e : i = q.length
    · subst e
      simp [own_upd]
    · have ne : ¬ own_wrap n (H + i) = own_wrap n (H + q.length) := by
        unfold own_wrap
        split <;> split <;> omega
      have hi' : i < q.length := by omega
      simp only [own_upd, if_neg ne, h5 i hi']
      simp [List.getD, List.getElem?_append, hi']
  · by_cases e : i = k
    · subst e
      have : x = v := Int32.toInt_inj.mp (by omega)
      subst this
      simp [own_upd]
    · have ne : ¬ x = v := fun z => e (by subst z; omega)
      simp only [own_upd, if_neg e, h6 x i hx hin, List.mem_append, List.mem_singleton, ne, or_false]
theorem own_inv_take {n : Nat} {x : Int32} {q : List Int32} {H : Nat} {fr fw : Nat → Int32} (I : own_inv n (x :: q) H fr fw) : fr H = x ∧ ∃ k : Nat, x.toInt = (k : Int) ∧ k < n ∧ own_inv n q (own_wrap n (H + 1)) fr (own_upd fw k 0) := by
  obtain ⟨h1, h2, h3, h4, h5, h6⟩ := I
  have e0 := h5 0 (by simp)
  have w0 : own_wrap n (H + 0) = H := by unfold own_wrap; split <;> omega
  rw [w0] at e0
  obtain ⟨k, hk, hkn⟩ := h4 x (by simp)
  rw [List.nodup_cons] at h3
  simp only [List.length_cons] at h2
  refine ⟨by simpa using e0, k, hk, hkn, own_wlt h1 (by omega), by omega, h3.2, fun y hy => h4 y (List.mem_cons_of_mem _ hy), fun i hi => ?_, fun y i hy hin => ?_⟩
  · have := h5 (i + 1) (by simp; omega)
    have w1 : own_wrap n (own_wrap n (H + 1) + i) = own_wrap n (H + (i + 1)) := by
      unfold own_wrap
      split <;> split <;> split <;> omega
    rw [w1, this]
    simp
  · by_cases e : i = k
    · subst e
      have : y = x := Int32.toInt_inj.mp (by omega)
      subst this
      simp [own_upd, h3.1]
    · have ne : ¬ y = x := fun z => e (by subst z; omega)
      simp only [own_upd, if_neg e, h6 y i hy hin, List.mem_cons, ne, false_or]
def own_Ring (Z : State) (h : Heap) (r ra wa : Addr) (nn : Int32) (n : Nat) (q : List Int32) : Prop := ∃ (H : Nat) (hd cnt : Int32) (fr fw : Nat → Int32), Exa Z h r "com/example/tablewise/tablewise/propagation/WaitingRing" ∧ Fld Z h r "com/example/tablewise/tablewise/propagation/WaitingRing" "ring" "[I" (.ref ra) ∧ Fld Z h r "com/example/tablewise/tablewise/propagation/WaitingRing" "waiting" "[Z" (.ref wa) ∧ Fld Z h r "com/example/tablewise/tablewise/propagation/WaitingRing" "head" "I" (.int hd) ∧ Fld Z h r "com/example/tablewise/tablewise/propagation/WaitingRing" "count" "I" (.int cnt) ∧ own_AI Z h ra .int n fr ∧ own_AI Z h wa .boolean n fw ∧ r ≠ ra ∧ r ≠ wa ∧ ra ≠ wa ∧ nn.toInt = (n : Int) ∧ n ≤ 4 ∧ hd.toInt = (H : Int) ∧ cnt.toInt = (q.length : Int) ∧ own_inv n q H fr fw
theorem own_Ring.keep {Z : State} {h h' : Heap} {r ra wa : Addr} {nn : Int32} {n : Nat} {q : List Int32} {ws : List Addr} (F : own_Ring Z h r ra wa nn n q) (Kp : Keep h h' ws) (q1 : r ∉ ws) (q2 : ra ∉ ws) (q3 : wa ∉ ws) : own_Ring Z h' r ra wa nn n q := by
  obtain ⟨H, hd, cnt, fr, fw, E, F1, F2, F3, F4, V1, V2, rest⟩ := F
  exact ⟨H, hd, cnt, fr, fw, E.keep Kp, F1.keep Kp q1, F2.keep Kp q1, F3.keep Kp q1, F4.keep Kp q1, V1.keep Kp q2, V2.keep Kp q3, rest⟩
theorem own_Ring.lt {Z : State} {h : Heap} {r ra wa : Addr} {nn : Int32} {n : Nat} {q : List Int32} (F : own_Ring Z h r ra wa nn n q) : r < h.size := by
  obtain ⟨H, hd, cnt, fr, fw, E, rest⟩ := F; exact E.lt
theorem own_Ring.lt2 {Z : State} {h : Heap} {r ra wa : Addr} {nn : Int32} {n : Nat} {q : List Int32} (F : own_Ring Z h r ra wa nn n q) : ra < h.size := by
  obtain ⟨H, hd, cnt, fr, fw, E, F1, F2, F3, F4, V1, V2, rest⟩ := F; exact V1.lt
theorem own_Ring.lt3 {Z : State} {h : Heap} {r ra wa : Addr} {nn : Int32} {n : Nat} {q : List Int32} (F : own_Ring Z h r ra wa nn n q) : wa < h.size := by
  obtain ⟨H, hd, cnt, fr, fw, E, F1, F2, F3, F4, V1, V2, rest⟩ := F; exact V2.lt
theorem own_Ring.exa {Z : State} {h : Heap} {r ra wa : Addr} {nn : Int32} {n : Nat} {q : List Int32} (F : own_Ring Z h r ra wa nn n q) : Exa Z h r "com/example/tablewise/tablewise/propagation/WaitingRing" := by
  obtain ⟨H, hd, cnt, fr, fw, E, rest⟩ := F; exact E
theorem own_inv_nil {n : Nat} (h : 0 < n) : own_inv n [] 0 (fun _ => 0) (fun _ => 0) := ⟨h, by simp, by simp, by simp, by simp, by simp⟩

theorem d1_0 : decode prog_25_method_1_code 0 = .ok (.aload_n 0, 1) := by decide +kernel
theorem d1_1 : decode prog_25_method_1_code 1 = .ok (.invokespecial 1, 3) := by decide +kernel
theorem d1_4 : decode prog_25_method_1_code 4 = .ok (.aload_n 0, 1) := by decide +kernel
theorem d1_5 : decode prog_25_method_1_code 5 = .ok (.iload_n 1, 1) := by decide +kernel
theorem d1_6 : decode prog_25_method_1_code 6 = .ok (.newarray .int, 2) := by decide +kernel
theorem d1_8 : decode prog_25_method_1_code 8 = .ok (.putfield 7, 3) := by decide +kernel
theorem d1_11 : decode prog_25_method_1_code 11 = .ok (.aload_n 0, 1) := by decide +kernel
theorem d1_12 : decode prog_25_method_1_code 12 = .ok (.iload_n 1, 1) := by decide +kernel
theorem d1_13 : decode prog_25_method_1_code 13 = .ok (.newarray .boolean, 2) := by decide +kernel
theorem d1_15 : decode prog_25_method_1_code 15 = .ok (.putfield 13, 3) := by decide +kernel
theorem d1_18 : decode prog_25_method_1_code 18 = .ok (.return_, 1) := by decide +kernel
theorem pn_1 : plainName "com/example/tablewise/tablewise/propagation/WaitingRing" = true := by first | (simp [plainName, overriddenIn]; done) | decide +kernel
theorem ef_1 (m : MethodId) (x0 : Addr) (x1 : Int32) : entryFrame m #[(.ref x0), (.int x1)] 2 = mkF m 0 #[.val (.ref x0), .val (.int x1)] [] := by first | (simp [entryFrame, mkF, argsToLocals, Value.category]; done) | rfl
def Q1 (Z : State) (r : Addr) (nn : Int32) (n : Nat) (h0 : Heap) (n0 : Nat) (rv_ : Option Value) (h : Heap) (LL_ : List Loc) : Prop := rv_ = none ∧ Fr n0 LL_ ∧ Keep h0 h [r] ∧ (∃ ra wa : Addr, own_Ring Z h r ra wa nn n [] ∧ n0 ≤ ra ∧ n0 ≤ wa)
set_option maxRecDepth 65536 in
set_option maxHeartbeats 40000000 in
theorem rm1 (l : Launch) (Z : State) (a0 : Array Value) (hw : ∀ d ∈ tables_1, d.before a0 Z = true) (ws : List Jvm.Cond) (r : Addr) (nn : Int32) (n : Nat) (h0 : Heap) (n0 : Nat) (Z0 : n0 ≤ h0.size) (E_r : Exa Z h0 r "com/example/tablewise/tablewise/propagation/WaitingRing") (F_r_ring : Fld Z h0 r "com/example/tablewise/tablewise/propagation/WaitingRing" "ring" "[I" .null) (F_r_waiting : Fld Z h0 r "com/example/tablewise/tablewise/propagation/WaitingRing" "waiting" "[Z" .null) (F_r_head : Fld Z h0 r "com/example/tablewise/tablewise/propagation/WaitingRing" "head" "I" (.int (0 : Int32))) (F_r_count : Fld Z h0 r "com/example/tablewise/tablewise/propagation/WaitingRing" "count" "I" (.int (0 : Int32))) (g_r : n0 ≤ r) (hnn : nn.toInt = (n : Int)) (hn1 : 0 < n) (hn4 : n ≤ 4) :
    MetFree l (⟨"com/example/tablewise/tablewise/propagation/WaitingRing", "<init>", "(I)V"⟩ : MethodName) (head1 (Jvm.Cond.code (⟨"com/example/tablewise/tablewise/propagation/WaitingRing", "<init>", "(I)V"⟩ : MethodName) prog_25_method_1_code 2 none :: ws) ({ frames := 1, cells := 2, slots := 8, locals := 12 } : Room)) (fun aa UU => aa = #[(.ref r), (.int nn)] ∧ Z.Warmed39 UU.vm ∧ UU.heap = h0) (fun _ _ _ _ _ => True) (fun _ UU oo UV => ∃ vv LL, oo = .returned vv ∧ Q1 Z r nn n h0 n0 vv UV.heap LL ∧ FrameEnd UU oo UV LL ({ frames := 1, cells := 2, slots := 8, locals := 12 } : Room).cells ({ frames := 1, cells := 2, slots := 8, locals := 12 } : Room).slots) := by
  refine MetFree.of_bodySF (plainFor_of_name pn_1) hisR ?_
  intro p e s m args below meth c s₁ Bd hml0 hP hK
  obtain ⟨rfl, hZ, hh⟩ := hP
  have hx := Bd.exec
  have hby := Bd.bytes
  have hml : c.maxLocals = 2 := hml0
  have hown : s.vm.findClass "com/example/tablewise/tablewise/propagation/WaitingRing" = some m.cls := findClass_of_methodNamed Bd.named
  have hnm := (name_of_methodNamed Bd.named Bd.method).1
  have X0 : Stand p l e ({ frames := 1, cells := 2, slots := 8, locals := 12 } : Room) s m #[(.ref r), (.int nn)] below meth c s₁ [] 0 0 := Stand.of_body Bd
  have e0 : s₁.heap = h0 := by rw [← hh, Bd.state]; rfl
  have N0 := Fr.nil n0
  have k0 : ∀ tg_, Steps p.tables e below (s₁.setTop (mkF m 0 #[.val (.ref r), .val (.int nn)] [])) tg_ → Steps p.tables e below (s₁.setTop (entryFrame m #[(.ref r), (.int nn)] 2)) tg_ := fun tg_ k => castTop (ef_1 m r nn) k
  obtain ⟨T1, X1, e1, st1⟩ := initO X0 hx hZ hown (hw _ (List.mem_of_getElem? (i := 6) rfl)) (hw _ (List.mem_of_getElem? (i := 7) rfl)) (hw _ (List.mem_of_getElem? (i := 8) rfl)) e0 (g := (mkF m 1 #[.val (.ref r), .val (.int nn)] [(.ref r)])) rfl (by rw [hml]; rfl) rfl (hb hby d1_1) (by decide) (W := 0) (by show 2 * 0 + _ ≤ _; exact Nat.le_of_eq rfl) (by decide)
  obtain ⟨T2, h2, kA2, X2, e2, E2, A2, st2⟩ := newP X1 hx hZ (hw _ (List.mem_of_getElem? (i := 9) rfl)) e1 (g := (mkF m 6 #[.val (.ref r), .val (.int nn)] [(.int nn), (.ref r)])) rfl (hb hby d1_6) rfl (own_idx hnn).1 (cap := 4) (by rw [(own_idx hnn).2]; omega) (by decide) (by decide) (by decide)
  obtain ⟨b2, g2⟩ : ∃ z, z = h0.size := ⟨_, rfl⟩
  rw [← g2] at A2 st2
  have ne_r_b2 : r ≠ b2 := Nat.ne_of_lt (Nat.lt_of_lt_of_le (E_r).lt (Nat.le_of_eq g2.symm))
  have ge_b2 : n0 ≤ b2 := Nat.le_trans Z0 (Nat.le_of_eq g2.symm)
  have sz_b2 : h0.size ≤ b2 := Nat.le_trans (Keep.refl h0 [r]).1 (Nat.le_of_eq g2.symm)
  have V2 : own_AI Z h2 b2 .int n (fun _ => 0) := own_newI hnn A2 rfl
  have f3 := (F_r_ring.keep ((Keep.refl _ []).ext E2) nin0)
  have f4 := (E_r.keep ((Keep.refl _ []).ext E2))
  obtain ⟨T5, h5, X5, e5, W5, st5⟩ := putF X2 hx hZ hown (host := "") (Or.inl (hw _ (List.mem_of_getElem? (i := 10) rfl))) Via.refl e2 f3 f4 (Or.inr ⟨(hw _ (List.mem_of_getElem? (i := 11) rfl)), rfl, hnm⟩) (hw _ (List.mem_of_getElem? (i := 1) rfl)) (ty := (.array .int)) (by decide) rfl rfl (g := (mkF m 8 #[.val (.ref r), .val (.int nn)] [(.ref b2), (.ref r)])) rfl rfl (hb hby d1_8)
  have N5 := Fr.snoc X5 N0 g_r
  have F5 := Fld.same W5 f3
  obtain ⟨T6, h6, kA6, X6, e6, E6, A6, st6⟩ := newP X5 hx hZ (hw _ (List.mem_of_getElem? (i := 12) rfl)) e5 (g := (mkF m 13 #[.val (.ref r), .val (.int nn)] [(.int nn), (.ref r)])) rfl (hb hby d1_13) rfl (own_idx hnn).1 (cap := 4) (by rw [(own_idx hnn).2]; omega) (by decide) (by decide) (by decide)
  obtain ⟨b6, g6⟩ : ∃ z, z = h5.size := ⟨_, rfl⟩
  rw [← g6] at A6 st6
  have f7 := (f4.keep (Keep.of_wr W5))
  have ne_r_b6 : r ≠ b6 := Nat.ne_of_lt (Nat.lt_of_lt_of_le (f7).lt (Nat.le_of_eq g6.symm))
  have f8 := (V2.keep (Keep.of_wr W5) (ninS (Ne.symm ne_r_b2) nin0))
  have ne_b2_b6 : b2 ≠ b6 := Nat.ne_of_lt (Nat.lt_of_lt_of_le (f8).lt (Nat.le_of_eq g6.symm))
  have f9 := (Nat.le_trans (Nat.le_trans Z0 ((Keep.refl _ []).ext E2).1) (Keep.of_wr W5).1)
  have ge_b6 : n0 ≤ b6 := Nat.le_trans f9 (Nat.le_of_eq g6.symm)
  have f10 := (((Keep.refl h0 [r]).trans ((Keep.refl _ []).ext E2) all0).trans (Keep.of_wr W5) (allS (Or.inl (List.mem_of_getElem? (i := 0) rfl)) all0))
  have sz_b6 : h0.size ≤ b6 := Nat.le_trans f10.1 (Nat.le_of_eq g6.symm)
  have V6 : own_AI Z h6 b6 .boolean n (fun _ => 0) := own_newI hnn A6 rfl
  have f11 := ((Fld.other W5 (F_r_waiting.keep ((Keep.refl _ []).ext E2) nin0) (Or.inr (slot_ne (Or.inr (hw _ (List.mem_of_getElem? (i := 14) rfl))) (Or.inr (hw _ (List.mem_of_getElem? (i := 11) rfl))) (by decide) (t := (.array .boolean)) (t' := (.array .int)) (by decide) (by decide)))).keep ((Keep.refl _ []).ext E6) nin0)
  have f12 := (f7.keep ((Keep.refl _ []).ext E6))
  obtain ⟨T13, h13, X13, e13, W13, st13⟩ := putF X6 hx hZ hown (host := "") (Or.inl (hw _ (List.mem_of_getElem? (i := 13) rfl))) Via.refl e6 f11 f12 (Or.inr ⟨(hw _ (List.mem_of_getElem? (i := 14) rfl)), rfl, hnm⟩) (hw _ (List.mem_of_getElem? (i := 1) rfl)) (ty := (.array .boolean)) (by decide) rfl rfl (g := (mkF m 15 #[.val (.ref r), .val (.int nn)] [(.ref b6), (.ref r)])) rfl rfl (hb hby d1_15)
  have N13 := Fr.snoc X13 N5 g_r
  have F13 := Fld.same W13 f11
  have k14 : ∀ tg_, Steps p.tables e below (T13.setTop (mkF m 18 #[.val (.ref r), .val (.int nn)] [])) tg_ → Steps p.tables e below (s₁.setTop (entryFrame m #[(.ref r), (.int nn)] 2)) tg_ := by
    intro tg_ kt
    refine k0 tg_ ?_
    refine XS.aloadN X0.here hx rfl (hb hby d1_0) rfl rfl ?_
    show Steps p.tables e below (s₁.setTop (mkF m 1 #[.val (.ref r), .val (.int nn)] [(.ref r)])) _
    refine st1 _ ?_
    show Steps p.tables e below (T1.setTop (mkF m 4 #[.val (.ref r), .val (.int nn)] [])) _
    refine XS.aloadN X1.here hx rfl (hb hby d1_4) rfl rfl ?_
    show Steps p.tables e below (T1.setTop (mkF m 5 #[.val (.ref r), .val (.int nn)] [(.ref r)])) _
    refine XS.iloadN X1.here hx rfl (hb hby d1_5) rfl ?_
    show Steps p.tables e below (T1.setTop (mkF m 6 #[.val (.ref r), .val (.int nn)] [(.int nn), (.ref r)])) _
    refine st2 _ ?_
    show Steps p.tables e below (T2.setTop (mkF m 8 #[.val (.ref r), .val (.int nn)] [(.ref b2), (.ref r)])) _
    refine st5 _ ?_
    show Steps p.tables e below (T5.setTop (mkF m 11 #[.val (.ref r), .val (.int nn)] [])) _
    refine XS.aloadN X5.here hx rfl (hb hby d1_11) rfl rfl ?_
    show Steps p.tables e below (T5.setTop (mkF m 12 #[.val (.ref r), .val (.int nn)] [(.ref r)])) _
    refine XS.iloadN X5.here hx rfl (hb hby d1_12) rfl ?_
    show Steps p.tables e below (T5.setTop (mkF m 13 #[.val (.ref r), .val (.int nn)] [(.int nn), (.ref r)])) _
    refine st6 _ ?_
    show Steps p.tables e below (T6.setTop (mkF m 15 #[.val (.ref r), .val (.int nn)] [(.ref b6), (.ref r)])) _
    refine st13 _ ?_
    show Steps p.tables e below (T13.setTop (mkF m 18 #[.val (.ref r), .val (.int nn)] [])) _
    exact kt
  have f15 := ((f10.trans ((Keep.refl _ []).ext E6) all0).trans (Keep.of_wr W13) (allS (Or.inl (List.mem_of_getElem? (i := 0) rfl)) all0))
  have f16 := (f12.keep (Keep.of_wr W13))
  have f17 := (Fld.other W13 (F5.keep ((Keep.refl _ []).ext E6) nin0) (Or.inr (slot_ne (Or.inr (hw _ (List.mem_of_getElem? (i := 11) rfl))) (Or.inr (hw _ (List.mem_of_getElem? (i := 14) rfl))) (by decide) (t := (.array .int)) (t' := (.array .boolean)) (by decide) (by decide))))
  have f18 := (Fld.other W13 ((Fld.other W5 (F_r_head.keep ((Keep.refl _ []).ext E2) nin0) (Or.inr (slot_ne (Or.inl (hw _ (List.mem_of_getElem? (i := 25) rfl))) (Or.inr (hw _ (List.mem_of_getElem? (i := 11) rfl))) (by decide) (t := .int) (t' := (.array .int)) (by decide) (by decide)))).keep ((Keep.refl _ []).ext E6) nin0) (Or.inr (slot_ne (Or.inl (hw _ (List.mem_of_getElem? (i := 25) rfl))) (Or.inr (hw _ (List.mem_of_getElem? (i := 14) rfl))) (by decide) (t := .int) (t' := (.array .boolean)) (by decide) (by decide))))
  have f19 := (Fld.other W13 ((Fld.other W5 (F_r_count.keep ((Keep.refl _ []).ext E2) nin0) (Or.inr (slot_ne (Or.inl (hw _ (List.mem_of_getElem? (i := 27) rfl))) (Or.inr (hw _ (List.mem_of_getElem? (i := 11) rfl))) (by decide) (t := .int) (t' := (.array .int)) (by decide) (by decide)))).keep ((Keep.refl _ []).ext E6) nin0) (Or.inr (slot_ne (Or.inl (hw _ (List.mem_of_getElem? (i := 27) rfl))) (Or.inr (hw _ (List.mem_of_getElem? (i := 14) rfl))) (by decide) (t := .int) (t' := (.array .boolean)) (by decide) (by decide))))
  have f20 := ((f8.keep ((Keep.refl _ []).ext E6) nin0).keep (Keep.of_wr W13) (ninS (Ne.symm ne_r_b2) nin0))
  have f21 := (V6.keep (Keep.of_wr W13) (ninS (Ne.symm ne_r_b6) nin0))
  obtain ⟨fs, hr, hrun, hended, hW, hsame⟩ := X13.leave (v := none) (fun _ => rfl)
  refine ⟨_, _, k14 _ (X13.returnOut hx Bd.returns (hb hby d1_18) hr), hrun, hended, _, _, rfl, ?_, ⟨_, rfl⟩, hW, hsame.mono (by decide) (by decide)⟩
  show Q1 Z r nn n h0 n0 _ T13.heap _
  rw [e13]
  exact ⟨rfl, N13, f15, ⟨b2, b6, ⟨0, 0, 0, _, _, f16, f17, F13, f18, f19, f20, f21, ne_r_b2, ne_r_b6, ne_b2_b6, hnn, hn4, by decide, by decide, own_inv_nil hn1⟩, ge_b2, ge_b6⟩⟩
theorem d4_0 : decode prog_25_method_3_code 0 = .ok (.aload_n 0, 1) := by decide +kernel
theorem d4_1 : decode prog_25_method_3_code 1 = .ok (.getfield 13, 3) := by decide +kernel
theorem d4_4 : decode prog_25_method_3_code 4 = .ok (.iload_n 1, 1) := by decide +kernel
theorem d4_5 : decode prog_25_method_3_code 5 = .ok (.baload, 1) := by decide +kernel
theorem d4_6 : decode prog_25_method_3_code 6 = .ok (.ifCond .ne 56, 3) := by decide +kernel
theorem d4_9 : decode prog_25_method_3_code 9 = .ok (.aload_n 0, 1) := by decide +kernel
theorem d4_10 : decode prog_25_method_3_code 10 = .ok (.getfield 13, 3) := by decide +kernel
theorem d4_13 : decode prog_25_method_3_code 13 = .ok (.iload_n 1, 1) := by decide +kernel
theorem d4_14 : decode prog_25_method_3_code 14 = .ok (.iconst 1, 1) := by decide +kernel
theorem d4_15 : decode prog_25_method_3_code 15 = .ok (.bastore, 1) := by decide +kernel
theorem d4_16 : decode prog_25_method_3_code 16 = .ok (.aload_n 0, 1) := by decide +kernel
theorem d4_17 : decode prog_25_method_3_code 17 = .ok (.getfield 21, 3) := by decide +kernel
theorem d4_20 : decode prog_25_method_3_code 20 = .ok (.aload_n 0, 1) := by decide +kernel
theorem d4_21 : decode prog_25_method_3_code 21 = .ok (.getfield 17, 3) := by decide +kernel
theorem d4_24 : decode prog_25_method_3_code 24 = .ok (.iadd, 1) := by decide +kernel
theorem d4_25 : decode prog_25_method_3_code 25 = .ok (.istore_n 2, 1) := by decide +kernel
theorem d4_26 : decode prog_25_method_3_code 26 = .ok (.aload_n 0, 1) := by decide +kernel
theorem d4_27 : decode prog_25_method_3_code 27 = .ok (.getfield 7, 3) := by decide +kernel
theorem d4_30 : decode prog_25_method_3_code 30 = .ok (.iload_n 2, 1) := by decide +kernel
theorem d4_31 : decode prog_25_method_3_code 31 = .ok (.aload_n 0, 1) := by decide +kernel
theorem d4_32 : decode prog_25_method_3_code 32 = .ok (.getfield 7, 3) := by decide +kernel
theorem d4_35 : decode prog_25_method_3_code 35 = .ok (.arraylength, 1) := by decide +kernel
theorem d4_36 : decode prog_25_method_3_code 36 = .ok (.if_icmp .ge 7, 3) := by decide +kernel
theorem d4_39 : decode prog_25_method_3_code 39 = .ok (.iload_n 2, 1) := by decide +kernel
theorem d4_40 : decode prog_25_method_3_code 40 = .ok (.goto 10, 3) := by decide +kernel
theorem d4_43 : decode prog_25_method_3_code 43 = .ok (.iload_n 2, 1) := by decide +kernel
theorem d4_44 : decode prog_25_method_3_code 44 = .ok (.aload_n 0, 1) := by decide +kernel
theorem d4_45 : decode prog_25_method_3_code 45 = .ok (.getfield 7, 3) := by decide +kernel
theorem d4_48 : decode prog_25_method_3_code 48 = .ok (.arraylength, 1) := by decide +kernel
theorem d4_49 : decode prog_25_method_3_code 49 = .ok (.isub, 1) := by decide +kernel
theorem d4_50 : decode prog_25_method_3_code 50 = .ok (.iload_n 1, 1) := by decide +kernel
theorem d4_51 : decode prog_25_method_3_code 51 = .ok (.iastore, 1) := by decide +kernel
theorem d4_52 : decode prog_25_method_3_code 52 = .ok (.aload_n 0, 1) := by decide +kernel
theorem d4_53 : decode prog_25_method_3_code 53 = .ok (.dup, 1) := by decide +kernel
theorem d4_54 : decode prog_25_method_3_code 54 = .ok (.getfield 17, 3) := by decide +kernel
theorem d4_57 : decode prog_25_method_3_code 57 = .ok (.iconst 1, 1) := by decide +kernel
theorem d4_58 : decode prog_25_method_3_code 58 = .ok (.iadd, 1) := by decide +kernel
theorem d4_59 : decode prog_25_method_3_code 59 = .ok (.putfield 17, 3) := by decide +kernel
theorem d4_62 : decode prog_25_method_3_code 62 = .ok (.return_, 1) := by decide +kernel
theorem pn_4 : plainName "com/example/tablewise/tablewise/propagation/WaitingRing" = true := by first | (simp [plainName, overriddenIn]; done) | decide +kernel
theorem ef_4 (m : MethodId) (x0 : Addr) (x1 : Int32) : entryFrame m #[(.ref x0), (.int x1)] 3 = mkF m 0 #[.val (.ref x0), .val (.int x1), .unset] [] := by first | (simp [entryFrame, mkF, argsToLocals, Value.category]; done) | rfl
def Q4 (Z : State) (r : Addr) (v : Int32) (ra : Addr) (wa : Addr) (nn : Int32) (n : Nat) (q : List Int32) (k : Nat) (h0 : Heap) (n0 : Nat) (rv_ : Option Value) (h : Heap) (LL_ : List Loc) : Prop := rv_ = none ∧ Fr n0 LL_ ∧ Keep h0 h [r, ra, wa] ∧ own_Ring Z h r ra wa nn n (own_add q v)
set_option maxRecDepth 65536 in
set_option maxHeartbeats 40000000 in
theorem rm4 (l : Launch) (Z : State) (a0 : Array Value) (hw : ∀ d ∈ tables_1, d.before a0 Z = true) (ws : List Jvm.Cond) (r : Addr) (v : Int32) (ra : Addr) (wa : Addr) (nn : Int32) (n : Nat) (q : List Int32) (k : Nat) (h0 : Heap) (n0 : Nat) (Z0 : n0 ≤ h0.size) (g_r : n0 ≤ r) (g_ra : n0 ≤ ra) (g_wa : n0 ≤ wa) (R : own_Ring Z h0 r ra wa nn n q) (hv : v.toInt = (k : Int)) (hk : k < n) :
    MetFree l (⟨"com/example/tablewise/tablewise/propagation/WaitingRing", "add", "(I)V"⟩ : MethodName) (head1 (Jvm.Cond.code (⟨"com/example/tablewise/tablewise/propagation/WaitingRing", "add", "(I)V"⟩ : MethodName) prog_25_method_3_code 3 none :: ws) ({ frames := 0, cells := 0, slots := 0, locals := 0 } : Room)) (fun aa UU => aa = #[(.ref r), (.int v)] ∧ Z.Warmed39 UU.vm ∧ UU.heap = h0) (fun _ _ _ _ _ => True) (fun _ UU oo UV => ∃ vv LL, oo = .returned vv ∧ Q4 Z r v ra wa nn n q k h0 n0 vv UV.heap LL ∧ FrameEnd UU oo UV LL ({ frames := 0, cells := 0, slots := 0, locals := 0 } : Room).cells ({ frames := 0, cells := 0, slots := 0, locals := 0 } : Room).slots) := by
  refine MetFree.of_bodySF (plainFor_of_name pn_4) hisR ?_
  intro p e s m args below meth c s₁ Bd hml0 hP hK
  obtain ⟨rfl, hZ, hh⟩ := hP
  have hx := Bd.exec
  have hby := Bd.bytes
  have hml : c.maxLocals = 3 := hml0
  have hown : s.vm.findClass "com/example/tablewise/tablewise/propagation/WaitingRing" = some m.cls := findClass_of_methodNamed Bd.named
  have hnm := (name_of_methodNamed Bd.named Bd.method).1
  have X0 : Stand p l e ({ frames := 0, cells := 0, slots := 0, locals := 0 } : Room) s m #[(.ref r), (.int v)] below meth c s₁ [] 0 0 := Stand.of_body Bd
  have e0 : s₁.heap = h0 := by rw [← hh, Bd.state]; rfl
  have N0 := Fr.nil n0
  have k0 : ∀ tg_, Steps p.tables e below (s₁.setTop (mkF m 0 #[.val (.ref r), .val (.int v), .unset] [])) tg_ → Steps p.tables e below (s₁.setTop (entryFrame m #[(.ref r), (.int v)] 3)) tg_ := fun tg_ k => castTop (ef_4 m r v) k
  obtain ⟨H, hd, cnt, fr, fw, E, F1, F2, F3, F4, V1, V2, ne1, ne2, ne3, hnn, hn4, hhd, hcnt, I⟩ := R
  obtain ⟨T22, X22, e22, st22⟩ := getF X0 hx hZ hown (host := "") (Or.inl (hw _ (List.mem_of_getElem? (i := 13) rfl))) Via.refl e0 F2 (g := (mkF m 1 #[.val (.ref r), .val (.int v), .unset] [(.ref r)])) rfl rfl (hb hby d4_1)
  have k23 : ∀ tg_, Steps p.tables e below (T22.setTop (mkF m 6 #[.val (.ref r), .val (.int v), .unset] [(.int (fw k))])) tg_ → Steps p.tables e below (s₁.setTop (entryFrame m #[(.ref r), (.int v)] 3)) tg_ := by
    intro tg_ kt
    refine k0 tg_ ?_
    refine XS.aloadN X0.here hx rfl (hb hby d4_0) rfl rfl ?_
    show Steps p.tables e below (s₁.setTop (mkF m 1 #[.val (.ref r), .val (.int v), .unset] [(.ref r)])) _
    refine st22 _ ?_
    show Steps p.tables e below (T22.setTop (mkF m 4 #[.val (.ref r), .val (.int v), .unset] [(.ref wa)])) _
    refine XS.iloadN X22.here hx rfl (hb hby d4_4) rfl ?_
    show Steps p.tables e below (T22.setTop (mkF m 5 #[.val (.ref r), .val (.int v), .unset] [(.int v), (.ref wa)])) _
    refine own_ldZ X22 hx hZ e22 V2 (i := k) hv hk rfl (g := (mkF m 5 #[.val (.ref r), .val (.int v), .unset] [(.int v), (.ref wa)])) rfl rfl (hb hby d4_5) _ ?_
    show Steps p.tables e below (T22.setTop (mkF m 6 #[.val (.ref r), .val (.int v), .unset] [(.int (fw k))])) _
    exact kt
  by_cases hc6_24 : (fw k) = (0 : Int32)
  · obtain ⟨T25, X25, e25, st25⟩ := getF X22 hx hZ hown (host := "") (Or.inl (hw _ (List.mem_of_getElem? (i := 13) rfl))) Via.refl e22 F2 (g := (mkF m 10 #[.val (.ref r), .val (.int v), .unset] [(.ref r)])) rfl rfl (hb hby d4_10)
    obtain ⟨T26, h26, X26, e26, W26, V26, st26⟩ := own_stZ X25 hx hZ e25 V2 (i := k) hv hk (g := (mkF m 15 #[.val (.ref r), .val (.int v), .unset] [(.int (1 : Int32)), (.int v), (.ref wa)])) rfl rfl (hb hby d4_15)
    have N26 := Fr.snoc X26 N0 g_wa
    have V26 : own_AI Z h26 wa .boolean n (own_upd fw k (1 : Int32)) := V26
    have f27 := (F3.keep (Keep.of_wr W26) (ninS ne2 nin0))
    obtain ⟨T28, X28, e28, st28⟩ := getF X26 hx hZ hown (host := "") (Or.inl (hw _ (List.mem_of_getElem? (i := 24) rfl))) Via.refl e26 f27 (g := (mkF m 17 #[.val (.ref r), .val (.int v), .unset] [(.ref r)])) rfl rfl (hb hby d4_17)
    have f29 := (F4.keep (Keep.of_wr W26) (ninS ne2 nin0))
    obtain ⟨T30, X30, e30, st30⟩ := getF X28 hx hZ hown (host := "") (Or.inl (hw _ (List.mem_of_getElem? (i := 26) rfl))) Via.refl e28 f29 (g := (mkF m 21 #[.val (.ref r), .val (.int v), .unset] [(.ref r), (.int hd)])) rfl rfl (hb hby d4_21)
    have f31 := (F1.keep (Keep.of_wr W26) (ninS ne2 nin0))
    obtain ⟨T32, X32, e32, st32⟩ := getF X30 hx hZ hown (host := "") (Or.inl (hw _ (List.mem_of_getElem? (i := 10) rfl))) Via.refl e30 f31 (g := (mkF m 27 #[.val (.ref r), .val (.int v), .val (.int (hd + cnt))] [(.ref r)])) rfl rfl (hb hby d4_27)
    obtain ⟨T33, X33, e33, st33⟩ := getF X32 hx hZ hown (host := "") (Or.inl (hw _ (List.mem_of_getElem? (i := 10) rfl))) Via.refl e32 f31 (g := (mkF m 32 #[.val (.ref r), .val (.int v), .val (.int (hd + cnt))] [(.ref r), (.int (hd + cnt)), (.ref ra)])) rfl rfl (hb hby d4_32)
    have f34 := (V1.keep (Keep.of_wr W26) (ninS ne3 nin0))
    have k35 : ∀ tg_, Steps p.tables e below (T33.setTop (mkF m 36 #[.val (.ref r), .val (.int v), .val (.int (hd + cnt))] [(.int nn), (.int (hd + cnt)), (.ref ra)])) tg_ → Steps p.tables e below (s₁.setTop (entryFrame m #[(.ref r), (.int v)] 3)) tg_ := by
      intro tg_ kt
      refine k23 tg_ ?_
      refine XS.ifNo X22.here hx rfl (hb hby d4_6) rfl ((if0 _ _).trans (teq hc6_24).2) ?_
      show Steps p.tables e below (T22.setTop (mkF m 9 #[.val (.ref r), .val (.int v), .unset] [])) _
      refine XS.aloadN X22.here hx rfl (hb hby d4_9) rfl rfl ?_
      show Steps p.tables e below (T22.setTop (mkF m 10 #[.val (.ref r), .val (.int v), .unset] [(.ref r)])) _
      refine st25 _ ?_
      show Steps p.tables e below (T25.setTop (mkF m 13 #[.val (.ref r), .val (.int v), .unset] [(.ref wa)])) _
      refine XS.iloadN X25.here hx rfl (hb hby d4_13) rfl ?_
      show Steps p.tables e below (T25.setTop (mkF m 14 #[.val (.ref r), .val (.int v), .unset] [(.int v), (.ref wa)])) _
      refine XS.iconst X25.here hx rfl (hb hby d4_14) ?_
      show Steps p.tables e below (T25.setTop (mkF m 15 #[.val (.ref r), .val (.int v), .unset] [(.int (1 : Int32)), (.int v), (.ref wa)])) _
      refine st26 _ ?_
      show Steps p.tables e below (T26.setTop (mkF m 16 #[.val (.ref r), .val (.int v), .unset] [])) _
      refine XS.aloadN X26.here hx rfl (hb hby d4_16) rfl rfl ?_
      show Steps p.tables e below (T26.setTop (mkF m 17 #[.val (.ref r), .val (.int v), .unset] [(.ref r)])) _
      refine st28 _ ?_
      show Steps p.tables e below (T28.setTop (mkF m 20 #[.val (.ref r), .val (.int v), .unset] [(.int hd)])) _
      refine XS.aloadN X28.here hx rfl (hb hby d4_20) rfl rfl ?_
      show Steps p.tables e below (T28.setTop (mkF m 21 #[.val (.ref r), .val (.int v), .unset] [(.ref r), (.int hd)])) _
      refine st30 _ ?_
      show Steps p.tables e below (T30.setTop (mkF m 24 #[.val (.ref r), .val (.int v), .unset] [(.int cnt), (.int hd)])) _
      refine XS.iadd X30.here hx rfl (hb hby d4_24) rfl ?_
      show Steps p.tables e below (T30.setTop (mkF m 25 #[.val (.ref r), .val (.int v), .unset] [(.int (hd + cnt))])) _
      refine XS.istoreN X30.here hx rfl (hb hby d4_25) rfl (l' := #[.val (.ref r), .val (.int v), .val (.int (hd + cnt))]) rfl ?_
      show Steps p.tables e below (T30.setTop (mkF m 26 #[.val (.ref r), .val (.int v), .val (.int (hd + cnt))] [])) _
      refine XS.aloadN X30.here hx rfl (hb hby d4_26) rfl rfl ?_
      show Steps p.tables e below (T30.setTop (mkF m 27 #[.val (.ref r), .val (.int v), .val (.int (hd + cnt))] [(.ref r)])) _
      refine st32 _ ?_
      show Steps p.tables e below (T32.setTop (mkF m 30 #[.val (.ref r), .val (.int v), .val (.int (hd + cnt))] [(.ref ra)])) _
      refine XS.iloadN X32.here hx rfl (hb hby d4_30) rfl ?_
      show Steps p.tables e below (T32.setTop (mkF m 31 #[.val (.ref r), .val (.int v), .val (.int (hd + cnt))] [(.int (hd + cnt)), (.ref ra)])) _
      refine XS.aloadN X32.here hx rfl (hb hby d4_31) rfl rfl ?_
      show Steps p.tables e below (T32.setTop (mkF m 32 #[.val (.ref r), .val (.int v), .val (.int (hd + cnt))] [(.ref r), (.int (hd + cnt)), (.ref ra)])) _
      refine st33 _ ?_
      show Steps p.tables e below (T33.setTop (mkF m 35 #[.val (.ref r), .val (.int v), .val (.int (hd + cnt))] [(.ref ra), (.int (hd + cnt)), (.ref ra)])) _
      refine own_len X33 hx hZ e33 f34 (z := nn) hnn (g := (mkF m 35 #[.val (.ref r), .val (.int v), .val (.int (hd + cnt))] [(.ref ra), (.int (hd + cnt)), (.ref ra)])) rfl rfl (hb hby d4_35) _ ?_
      show Steps p.tables e below (T33.setTop (mkF m 36 #[.val (.ref r), .val (.int v), .val (.int (hd + cnt))] [(.int nn), (.int (hd + cnt)), (.ref ra)])) _
      exact kt
    by_cases hc36_36 : (hd + cnt) < nn
    · have hlt37 := (own_inv_add I hv hk (own_nin I hv hk hc6_24)).1
      have hI37 := I.1
      have hj37 : (hd + cnt).toInt = ((own_wrap n (H + q.length) : Nat) : Int) := by
        have ar38 := rng32 hd
        have ar39 := rng32 cnt
        have ar40 := rng32 (hd + cnt)
        first | have ar41 : (hd + cnt).toInt = hd.toInt + cnt.toInt := (by have qw := c_iadd hd cnt; omega) | (have ar41 := c_iadd hd cnt; skip)
        have ar42 := rng32 nn
        have ar43 : (hd + cnt).toInt < nn.toInt := Int32.lt_iff_toInt_lt.mp hc36_36
        unfold own_wrap
        split <;> omega
      obtain ⟨T44, h44, X44, e44, W44, V44, st44⟩ := own_stI X33 hx hZ e33 f34 (i := (own_wrap n (H + q.length))) hj37 (own_wlt I.1 (Nat.le_of_lt hlt37)) (g := (mkF m 51 #[.val (.ref r), .val (.int v), .val (.int (hd + cnt))] [(.int v), (.int (hd + cnt)), (.ref ra)])) rfl rfl (hb hby d4_51)
      have N44 := Fr.snoc X44 N26 g_ra
      have f45 := (f29.keep (Keep.of_wr W44) (ninS ne1 nin0))
      obtain ⟨T46, X46, e46, st46⟩ := getF X44 hx hZ hown (host := "") (Or.inl (hw _ (List.mem_of_getElem? (i := 26) rfl))) Via.refl e44 f45 (g := (mkF m 54 #[.val (.ref r), .val (.int v), .val (.int (hd + cnt))] [(.ref r), (.ref r)])) rfl rfl (hb hby d4_54)
      have f47 := ((E.keep (Keep.of_wr W26)).keep (Keep.of_wr W44))
      obtain ⟨T48, h48, X48, e48, W48, st48⟩ := putF X46 hx hZ hown (host := "") (Or.inl (hw _ (List.mem_of_getElem? (i := 26) rfl))) Via.refl e46 f45 f47 (Or.inl (hw _ (List.mem_of_getElem? (i := 27) rfl))) (hw _ (List.mem_of_getElem? (i := 1) rfl)) (ty := .int) (by decide) rfl rfl (g := (mkF m 59 #[.val (.ref r), .val (.int v), .val (.int (hd + cnt))] [(.int (cnt + (1 : Int32))), (.ref r)])) rfl rfl (hb hby d4_59)
      have N48 := Fr.snoc X48 N44 g_r
      have F48 := Fld.same W48 f45
      have k49 : ∀ tg_, Steps p.tables e below (T48.setTop (mkF m 62 #[.val (.ref r), .val (.int v), .val (.int (hd + cnt))] [])) tg_ → Steps p.tables e below (s₁.setTop (entryFrame m #[(.ref r), (.int v)] 3)) tg_ := by
        intro tg_ kt
        refine k35 tg_ ?_
        refine XS.icmpNo X33.here hx rfl (hb hby d4_36) rfl (tlt hc36_36).2.1 ?_
        show Steps p.tables e below (T33.setTop (mkF m 39 #[.val (.ref r), .val (.int v), .val (.int (hd + cnt))] [(.ref ra)])) _
        refine XS.iloadN X33.here hx rfl (hb hby d4_39) rfl ?_
        show Steps p.tables e below (T33.setTop (mkF m 40 #[.val (.ref r), .val (.int v), .val (.int (hd + cnt))] [(.int (hd + cnt)), (.ref ra)])) _
        refine XS.goto X33.here hx rfl (pc0 := 40) (pc' := 50) rfl (hb hby d4_40) (by decide) (by decide) ?_
        show Steps p.tables e below (T33.setTop (mkF m 50 #[.val (.ref r), .val (.int v), .val (.int (hd + cnt))] [(.int (hd + cnt)), (.ref ra)])) _
        refine XS.iloadN X33.here hx rfl (hb hby d4_50) rfl ?_
        show Steps p.tables e below (T33.setTop (mkF m 51 #[.val (.ref r), .val (.int v), .val (.int (hd + cnt))] [(.int v), (.int (hd + cnt)), (.ref ra)])) _
        refine st44 _ ?_
        show Steps p.tables e below (T44.setTop (mkF m 52 #[.val (.ref r), .val (.int v), .val (.int (hd + cnt))] [])) _
        refine XS.aloadN X44.here hx rfl (hb hby d4_52) rfl rfl ?_
        show Steps p.tables e below (T44.setTop (mkF m 53 #[.val (.ref r), .val (.int v), .val (.int (hd + cnt))] [(.ref r)])) _
        refine XS.dup X44.here hx rfl (hb hby d4_53) rfl rfl ?_
        show Steps p.tables e below (T44.setTop (mkF m 54 #[.val (.ref r), .val (.int v), .val (.int (hd + cnt))] [(.ref r), (.ref r)])) _
        refine st46 _ ?_
        show Steps p.tables e below (T46.setTop (mkF m 57 #[.val (.ref r), .val (.int v), .val (.int (hd + cnt))] [(.int cnt), (.ref r)])) _
        refine XS.iconst X46.here hx rfl (hb hby d4_57) ?_
        show Steps p.tables e below (T46.setTop (mkF m 58 #[.val (.ref r), .val (.int v), .val (.int (hd + cnt))] [(.int (1 : Int32)), (.int cnt), (.ref r)])) _
        refine XS.iadd X46.here hx rfl (hb hby d4_58) rfl ?_
        show Steps p.tables e below (T46.setTop (mkF m 59 #[.val (.ref r), .val (.int v), .val (.int (hd + cnt))] [(.int (cnt + (1 : Int32))), (.ref r)])) _
        refine st48 _ ?_
        show Steps p.tables e below (T48.setTop (mkF m 62 #[.val (.ref r), .val (.int v), .val (.int (hd + cnt))] [])) _
        exact kt
      have f50 := ((((Keep.refl h0 [r, ra, wa]).trans (Keep.of_wr W26) (allS (Or.inl (List.mem_of_getElem? (i := 2) rfl)) all0)).trans (Keep.of_wr W44) (allS (Or.inl (List.mem_of_getElem? (i := 1) rfl)) all0)).trans (Keep.of_wr W48) (allS (Or.inl (List.mem_of_getElem? (i := 0) rfl)) all0))
      have hcn51 : (cnt + (1 : Int32)).toInt = ((q ++ [v]).length : Int) := by
        have hlt := (own_inv_add I hv hk (own_nin I hv hk hc6_24)).1
        rw [List.length_append, List.length_singleton]
        have ar52 := rng32 cnt
        have ar53 : (1 : Int32).toInt = 1 := by decide
        have ar54 := rng32 (cnt + (1 : Int32))
        first | have ar55 : (cnt + (1 : Int32)).toInt = cnt.toInt + 1 := (by have qw := c_iadd cnt (1 : Int32); omega) | (have ar55 := c_iadd cnt (1 : Int32); skip)
        omega
      have hIn51 := (own_inv_add I hv hk (own_nin I hv hk hc6_24)).2
      have f56 := (f47.keep (Keep.of_wr W48))
      have f57 := (Fld.other W48 (f31.keep (Keep.of_wr W44) (ninS ne1 nin0)) (Or.inr (slot_ne (Or.inr (hw _ (List.mem_of_getElem? (i := 11) rfl))) (Or.inl (hw _ (List.mem_of_getElem? (i := 27) rfl))) (by decide) (t := (.array .int)) (t' := .int) (by decide) (by decide))))
      have f58 := (Fld.other W48 ((F2.keep (Keep.of_wr W26) (ninS ne2 nin0)).keep (Keep.of_wr W44) (ninS ne1 nin0)) (Or.inr (slot_ne (Or.inr (hw _ (List.mem_of_getElem? (i := 14) rfl))) (Or.inl (hw _ (List.mem_of_getElem? (i := 27) rfl))) (by decide) (t := (.array .boolean)) (t' := .int) (by decide) (by decide))))
      have f59 := (Fld.other W48 (f27.keep (Keep.of_wr W44) (ninS ne1 nin0)) (Or.inr (slot_ne (Or.inl (hw _ (List.mem_of_getElem? (i := 25) rfl))) (Or.inl (hw _ (List.mem_of_getElem? (i := 27) rfl))) (by decide) (t := .int) (t' := .int) (by decide) (by decide))))
      have f60 := (V44.keep (Keep.of_wr W48) (ninS (Ne.symm ne1) nin0))
      have f61 := ((V26.keep (Keep.of_wr W44) (ninS (Ne.symm ne3) nin0)).keep (Keep.of_wr W48) (ninS (Ne.symm ne2) nin0))
      obtain ⟨fs, hr, hrun, hended, hW, hsame⟩ := X48.leave (v := none) (fun _ => rfl)
      refine ⟨_, _, k49 _ (X48.returnOut hx Bd.returns (hb hby d4_62) hr), hrun, hended, _, _, rfl, ?_, ⟨_, rfl⟩, hW, hsame.mono (by decide) (by decide)⟩
      show Q4 Z r v ra wa nn n q k h0 n0 _ T48.heap _
      rw [e48]
      exact ⟨rfl, N48, f50, (by rw [own_add, if_neg (own_nin I hv hk hc6_24)]; exact ⟨H, hd, (cnt + (1 : Int32)), _, _, f56, f57, f58, f59, F48, f60, f61, ne1, ne2, ne3, hnn, hn4, hhd, hcn51, hIn51⟩)⟩
    · obtain ⟨T62, X62, e62, st62⟩ := getF X33 hx hZ hown (host := "") (Or.inl (hw _ (List.mem_of_getElem? (i := 10) rfl))) Via.refl e33 f31 (g := (mkF m 45 #[.val (.ref r), .val (.int v), .val (.int (hd + cnt))] [(.ref r), (.int (hd + cnt)), (.ref ra)])) rfl rfl (hb hby d4_45)
      have hlt63 := (own_inv_add I hv hk (own_nin I hv hk hc6_24)).1
      have hI63 := I.1
      have hj63 : ((hd + cnt) - nn).toInt = ((own_wrap n (H + q.length) : Nat) : Int) := by
        have ar64 := rng32 hd
        have ar65 := rng32 cnt
        have ar66 := rng32 (hd + cnt)
        first | have ar67 : (hd + cnt).toInt = hd.toInt + cnt.toInt := (by have qw := c_iadd hd cnt; omega) | (have ar67 := c_iadd hd cnt; skip)
        have ar68 := rng32 nn
        have ar69 : ¬ ((hd + cnt).toInt < nn.toInt) := fun qq_ => hc36_36 (Int32.lt_iff_toInt_lt.mpr qq_)
        have ar70 := rng32 ((hd + cnt) - nn)
        first | have ar71 : ((hd + cnt) - nn).toInt = (hd + cnt).toInt - nn.toInt := (by have qw := c_isub (hd + cnt) nn; omega) | (have ar71 := c_isub (hd + cnt) nn; skip)
        unfold own_wrap
        split <;> omega
      obtain ⟨T72, h72, X72, e72, W72, V72, st72⟩ := own_stI X62 hx hZ e62 f34 (i := (own_wrap n (H + q.length))) hj63 (own_wlt I.1 (Nat.le_of_lt hlt63)) (g := (mkF m 51 #[.val (.ref r), .val (.int v), .val (.int (hd + cnt))] [(.int v), (.int ((hd + cnt) - nn)), (.ref ra)])) rfl rfl (hb hby d4_51)
      have N72 := Fr.snoc X72 N26 g_ra
      have f73 := (f29.keep (Keep.of_wr W72) (ninS ne1 nin0))
      obtain ⟨T74, X74, e74, st74⟩ := getF X72 hx hZ hown (host := "") (Or.inl (hw _ (List.mem_of_getElem? (i := 26) rfl))) Via.refl e72 f73 (g := (mkF m 54 #[.val (.ref r), .val (.int v), .val (.int (hd + cnt))] [(.ref r), (.ref r)])) rfl rfl (hb hby d4_54)
      have f75 := ((E.keep (Keep.of_wr W26)).keep (Keep.of_wr W72))
      obtain ⟨T76, h76, X76, e76, W76, st76⟩ := putF X74 hx hZ hown (host := "") (Or.inl (hw _ (List.mem_of_getElem? (i := 26) rfl))) Via.refl e74 f73 f75 (Or.inl (hw _ (List.mem_of_getElem? (i := 27) rfl))) (hw _ (List.mem_of_getElem? (i := 1) rfl)) (ty := .int) (by decide) rfl rfl (g := (mkF m 59 #[.val (.ref r), .val (.int v), .val (.int (hd + cnt))] [(.int (cnt + (1 : Int32))), (.ref r)])) rfl rfl (hb hby d4_59)
      have N76 := Fr.snoc X76 N72 g_r
      have F76 := Fld.same W76 f73
      have k77 : ∀ tg_, Steps p.tables e below (T76.setTop (mkF m 62 #[.val (.ref r), .val (.int v), .val (.int (hd + cnt))] [])) tg_ → Steps p.tables e below (s₁.setTop (entryFrame m #[(.ref r), (.int v)] 3)) tg_ := by
        intro tg_ kt
        refine k35 tg_ ?_
        refine XS.icmpYes X33.here hx rfl (pc0 := 36) (pc' := 43) rfl (hb hby d4_36) rfl (flt hc36_36).2.1 (by decide) (by decide) ?_
        show Steps p.tables e below (T33.setTop (mkF m 43 #[.val (.ref r), .val (.int v), .val (.int (hd + cnt))] [(.ref ra)])) _
        refine XS.iloadN X33.here hx rfl (hb hby d4_43) rfl ?_
        show Steps p.tables e below (T33.setTop (mkF m 44 #[.val (.ref r), .val (.int v), .val (.int (hd + cnt))] [(.int (hd + cnt)), (.ref ra)])) _
        refine XS.aloadN X33.here hx rfl (hb hby d4_44) rfl rfl ?_
        show Steps p.tables e below (T33.setTop (mkF m 45 #[.val (.ref r), .val (.int v), .val (.int (hd + cnt))] [(.ref r), (.int (hd + cnt)), (.ref ra)])) _
        refine st62 _ ?_
        show Steps p.tables e below (T62.setTop (mkF m 48 #[.val (.ref r), .val (.int v), .val (.int (hd + cnt))] [(.ref ra), (.int (hd + cnt)), (.ref ra)])) _
        refine own_len X62 hx hZ e62 f34 (z := nn) hnn (g := (mkF m 48 #[.val (.ref r), .val (.int v), .val (.int (hd + cnt))] [(.ref ra), (.int (hd + cnt)), (.ref ra)])) rfl rfl (hb hby d4_48) _ ?_
        show Steps p.tables e below (T62.setTop (mkF m 49 #[.val (.ref r), .val (.int v), .val (.int (hd + cnt))] [(.int nn), (.int (hd + cnt)), (.ref ra)])) _
        refine XS.isub X62.here hx rfl (hb hby d4_49) rfl ?_
        show Steps p.tables e below (T62.setTop (mkF m 50 #[.val (.ref r), .val (.int v), .val (.int (hd + cnt))] [(.int ((hd + cnt) - nn)), (.ref ra)])) _
        refine XS.iloadN X62.here hx rfl (hb hby d4_50) rfl ?_
        show Steps p.tables e below (T62.setTop (mkF m 51 #[.val (.ref r), .val (.int v), .val (.int (hd + cnt))] [(.int v), (.int ((hd + cnt) - nn)), (.ref ra)])) _
        refine st72 _ ?_
        show Steps p.tables e below (T72.setTop (mkF m 52 #[.val (.ref r), .val (.int v), .val (.int (hd + cnt))] [])) _
        refine XS.aloadN X72.here hx rfl (hb hby d4_52) rfl rfl ?_
        show Steps p.tables e below (T72.setTop (mkF m 53 #[.val (.ref r), .val (.int v), .val (.int (hd + cnt))] [(.ref r)])) _
        refine XS.dup X72.here hx rfl (hb hby d4_53) rfl rfl ?_
        show Steps p.tables e below (T72.setTop (mkF m 54 #[.val (.ref r), .val (.int v), .val (.int (hd + cnt))] [(.ref r), (.ref r)])) _
        refine st74 _ ?_
        show Steps p.tables e below (T74.setTop (mkF m 57 #[.val (.ref r), .val (.int v), .val (.int (hd + cnt))] [(.int cnt), (.ref r)])) _
        refine XS.iconst X74.here hx rfl (hb hby d4_57) ?_
        show Steps p.tables e below (T74.setTop (mkF m 58 #[.val (.ref r), .val (.int v), .val (.int (hd + cnt))] [(.int (1 : Int32)), (.int cnt), (.ref r)])) _
        refine XS.iadd X74.here hx rfl (hb hby d4_58) rfl ?_
        show Steps p.tables e below (T74.setTop (mkF m 59 #[.val (.ref r), .val (.int v), .val (.int (hd + cnt))] [(.int (cnt + (1 : Int32))), (.ref r)])) _
        refine st76 _ ?_
        show Steps p.tables e below (T76.setTop (mkF m 62 #[.val (.ref r), .val (.int v), .val (.int (hd + cnt))] [])) _
        exact kt
      have f78 := ((((Keep.refl h0 [r, ra, wa]).trans (Keep.of_wr W26) (allS (Or.inl (List.mem_of_getElem? (i := 2) rfl)) all0)).trans (Keep.of_wr W72) (allS (Or.inl (List.mem_of_getElem? (i := 1) rfl)) all0)).trans (Keep.of_wr W76) (allS (Or.inl (List.mem_of_getElem? (i := 0) rfl)) all0))
      have hcn79 : (cnt + (1 : Int32)).toInt = ((q ++ [v]).length : Int) := by
        have hlt := (own_inv_add I hv hk (own_nin I hv hk hc6_24)).1
        rw [List.length_append, List.length_singleton]
        have ar80 := rng32 cnt
        have ar81 : (1 : Int32).toInt = 1 := by decide
        have ar82 := rng32 (cnt + (1 : Int32))
        first | have ar83 : (cnt + (1 : Int32)).toInt = cnt.toInt + 1 := (by have qw := c_iadd cnt (1 : Int32); omega) | (have ar83 := c_iadd cnt (1 : Int32); skip)
        omega
      have hIn79 := (own_inv_add I hv hk (own_nin I hv hk hc6_24)).2
      have f84 := (f75.keep (Keep.of_wr W76))
      have f85 := (Fld.other W76 (f31.keep (Keep.of_wr W72) (ninS ne1 nin0)) (Or.inr (slot_ne (Or.inr (hw _ (List.mem_of_getElem? (i := 11) rfl))) (Or.inl (hw _ (List.mem_of_getElem? (i := 27) rfl))) (by decide) (t := (.array .int)) (t' := .int) (by decide) (by decide))))
      have f86 := (Fld.other W76 ((F2.keep (Keep.of_wr W26) (ninS ne2 nin0)).keep (Keep.of_wr W72) (ninS ne1 nin0)) (Or.inr (slot_ne (Or.inr (hw _ (List.mem_of_getElem? (i := 14) rfl))) (Or.inl (hw _ (List.mem_of_getElem? (i := 27) rfl))) (by decide) (t := (.array .boolean)) (t' := .int) (by decide) (by decide))))
      have f87 := (Fld.other W76 (f27.keep (Keep.of_wr W72) (ninS ne1 nin0)) (Or.inr (slot_ne (Or.inl (hw _ (List.mem_of_getElem? (i := 25) rfl))) (Or.inl (hw _ (List.mem_of_getElem? (i := 27) rfl))) (by decide) (t := .int) (t' := .int) (by decide) (by decide))))
      have f88 := (V72.keep (Keep.of_wr W76) (ninS (Ne.symm ne1) nin0))
      have f89 := ((V26.keep (Keep.of_wr W72) (ninS (Ne.symm ne3) nin0)).keep (Keep.of_wr W76) (ninS (Ne.symm ne2) nin0))
      obtain ⟨fs, hr, hrun, hended, hW, hsame⟩ := X76.leave (v := none) (fun _ => rfl)
      refine ⟨_, _, k77 _ (X76.returnOut hx Bd.returns (hb hby d4_62) hr), hrun, hended, _, _, rfl, ?_, ⟨_, rfl⟩, hW, hsame.mono (by decide) (by decide)⟩
      show Q4 Z r v ra wa nn n q k h0 n0 _ T76.heap _
      rw [e76]
      exact ⟨rfl, N76, f78, (by rw [own_add, if_neg (own_nin I hv hk hc6_24)]; exact ⟨H, hd, (cnt + (1 : Int32)), _, _, f84, f85, f86, f87, F76, f88, f89, ne1, ne2, ne3, hnn, hn4, hhd, hcn79, hIn79⟩)⟩
  · have k90 : ∀ tg_, Steps p.tables e below (T22.setTop (mkF m 62 #[.val (.ref r), .val (.int v), .unset] [])) tg_ → Steps p.tables e below (s₁.setTop (entryFrame m #[(.ref r), (.int v)] 3)) tg_ := by
      intro tg_ kt
      refine k23 tg_ ?_
      refine XS.ifYes X22.here hx rfl (pc0 := 6) (pc' := 62) rfl (hb hby d4_6) rfl ((if0 _ _).trans (feq hc6_24).2) (by decide) (by decide) ?_
      show Steps p.tables e below (T22.setTop (mkF m 62 #[.val (.ref r), .val (.int v), .unset] [])) _
      exact kt
    obtain ⟨fs, hr, hrun, hended, hW, hsame⟩ := X22.leave (v := none) (fun _ => rfl)
    refine ⟨_, _, k90 _ (X22.returnOut hx Bd.returns (hb hby d4_62) hr), hrun, hended, _, _, rfl, ?_, ⟨_, rfl⟩, hW, hsame.mono (by decide) (by decide)⟩
    show Q4 Z r v ra wa nn n q k h0 n0 _ T22.heap _
    rw [e22]
    exact ⟨rfl, N0, (Keep.refl h0 [r, ra, wa]), (by rw [own_add, if_pos (own_mem I hv hk hc6_24)]; exact ⟨H, hd, cnt, _, _, E, F1, F2, F3, F4, V1, V2, ne1, ne2, ne3, hnn, hn4, hhd, hcnt, I⟩)⟩
theorem d6_0 : decode prog_25_method_4_code 0 = .ok (.aload_n 0, 1) := by decide +kernel
theorem d6_1 : decode prog_25_method_4_code 1 = .ok (.getfield 7, 3) := by decide +kernel
theorem d6_4 : decode prog_25_method_4_code 4 = .ok (.aload_n 0, 1) := by decide +kernel
theorem d6_5 : decode prog_25_method_4_code 5 = .ok (.getfield 21, 3) := by decide +kernel
theorem d6_8 : decode prog_25_method_4_code 8 = .ok (.iaload, 1) := by decide +kernel
theorem d6_9 : decode prog_25_method_4_code 9 = .ok (.istore_n 1, 1) := by decide +kernel
theorem d6_10 : decode prog_25_method_4_code 10 = .ok (.aload_n 0, 1) := by decide +kernel
theorem d6_11 : decode prog_25_method_4_code 11 = .ok (.aload_n 0, 1) := by decide +kernel
theorem d6_12 : decode prog_25_method_4_code 12 = .ok (.getfield 21, 3) := by decide +kernel
theorem d6_15 : decode prog_25_method_4_code 15 = .ok (.iconst 1, 1) := by decide +kernel
theorem d6_16 : decode prog_25_method_4_code 16 = .ok (.iadd, 1) := by decide +kernel
theorem d6_17 : decode prog_25_method_4_code 17 = .ok (.aload_n 0, 1) := by decide +kernel
theorem d6_18 : decode prog_25_method_4_code 18 = .ok (.getfield 7, 3) := by decide +kernel
theorem d6_21 : decode prog_25_method_4_code 21 = .ok (.arraylength, 1) := by decide +kernel
theorem d6_22 : decode prog_25_method_4_code 22 = .ok (.if_icmp .ge 12, 3) := by decide +kernel
theorem d6_25 : decode prog_25_method_4_code 25 = .ok (.aload_n 0, 1) := by decide +kernel
theorem d6_26 : decode prog_25_method_4_code 26 = .ok (.getfield 21, 3) := by decide +kernel
theorem d6_29 : decode prog_25_method_4_code 29 = .ok (.iconst 1, 1) := by decide +kernel
theorem d6_30 : decode prog_25_method_4_code 30 = .ok (.iadd, 1) := by decide +kernel
theorem d6_31 : decode prog_25_method_4_code 31 = .ok (.goto 4, 3) := by decide +kernel
theorem d6_34 : decode prog_25_method_4_code 34 = .ok (.iconst 0, 1) := by decide +kernel
theorem d6_35 : decode prog_25_method_4_code 35 = .ok (.putfield 21, 3) := by decide +kernel
theorem d6_38 : decode prog_25_method_4_code 38 = .ok (.aload_n 0, 1) := by decide +kernel
theorem d6_39 : decode prog_25_method_4_code 39 = .ok (.dup, 1) := by decide +kernel
theorem d6_40 : decode prog_25_method_4_code 40 = .ok (.getfield 17, 3) := by decide +kernel
theorem d6_43 : decode prog_25_method_4_code 43 = .ok (.iconst 1, 1) := by decide +kernel
theorem d6_44 : decode prog_25_method_4_code 44 = .ok (.isub, 1) := by decide +kernel
theorem d6_45 : decode prog_25_method_4_code 45 = .ok (.putfield 17, 3) := by decide +kernel
theorem d6_48 : decode prog_25_method_4_code 48 = .ok (.aload_n 0, 1) := by decide +kernel
theorem d6_49 : decode prog_25_method_4_code 49 = .ok (.getfield 13, 3) := by decide +kernel
theorem d6_52 : decode prog_25_method_4_code 52 = .ok (.iload_n 1, 1) := by decide +kernel
theorem d6_53 : decode prog_25_method_4_code 53 = .ok (.iconst 0, 1) := by decide +kernel
theorem d6_54 : decode prog_25_method_4_code 54 = .ok (.bastore, 1) := by decide +kernel
theorem d6_55 : decode prog_25_method_4_code 55 = .ok (.iload_n 1, 1) := by decide +kernel
theorem d6_56 : decode prog_25_method_4_code 56 = .ok (.ireturn, 1) := by decide +kernel
theorem pn_6 : plainName "com/example/tablewise/tablewise/propagation/WaitingRing" = true := by first | (simp [plainName, overriddenIn]; done) | decide +kernel
theorem ef_6 (m : MethodId) (x0 : Addr) : entryFrame m #[(.ref x0)] 2 = mkF m 0 #[.val (.ref x0), .unset] [] := by first | (simp [entryFrame, mkF, argsToLocals, Value.category]; done) | rfl
def Q6 (Z : State) (r : Addr) (ra : Addr) (wa : Addr) (nn : Int32) (n : Nat) (x : Int32) (q : List Int32) (h0 : Heap) (n0 : Nat) (rv_ : Option Value) (h : Heap) (LL_ : List Loc) : Prop := rv_ = some (.int x) ∧ Fr n0 LL_ ∧ Keep h0 h [r, ra, wa] ∧ own_Ring Z h r ra wa nn n q
set_option maxRecDepth 65536 in
set_option maxHeartbeats 40000000 in
theorem rm6 (l : Launch) (Z : State) (a0 : Array Value) (hw : ∀ d ∈ tables_1, d.before a0 Z = true) (ws : List Jvm.Cond) (r : Addr) (ra : Addr) (wa : Addr) (nn : Int32) (n : Nat) (x : Int32) (q : List Int32) (h0 : Heap) (n0 : Nat) (Z0 : n0 ≤ h0.size) (g_r : n0 ≤ r) (g_ra : n0 ≤ ra) (g_wa : n0 ≤ wa) (R : own_Ring Z h0 r ra wa nn n (x :: q)) :
    MetFree l (⟨"com/example/tablewise/tablewise/propagation/WaitingRing", "take", "()I"⟩ : MethodName) (head1 (Jvm.Cond.code (⟨"com/example/tablewise/tablewise/propagation/WaitingRing", "take", "()I"⟩ : MethodName) prog_25_method_4_code 2 (some .int) :: ws) ({ frames := 0, cells := 0, slots := 0, locals := 0 } : Room)) (fun aa UU => aa = #[(.ref r)] ∧ Z.Warmed39 UU.vm ∧ UU.heap = h0) (fun _ _ _ _ _ => True) (fun _ UU oo UV => ∃ vv LL, oo = .returned vv ∧ Q6 Z r ra wa nn n x q h0 n0 vv UV.heap LL ∧ FrameEnd UU oo UV LL ({ frames := 0, cells := 0, slots := 0, locals := 0 } : Room).cells ({ frames := 0, cells := 0, slots := 0, locals := 0 } : Room).slots) := by
  refine MetFree.of_bodySF (plainFor_of_name pn_6) hisR ?_
  intro p e s m args below meth c s₁ Bd hml0 hP hK
  obtain ⟨rfl, hZ, hh⟩ := hP
  have hx := Bd.exec
  have hby := Bd.bytes
  have hml : c.maxLocals = 2 := hml0
  have hown : s.vm.findClass "com/example/tablewise/tablewise/propagation/WaitingRing" = some m.cls := findClass_of_methodNamed Bd.named
  have hnm := (name_of_methodNamed Bd.named Bd.method).1
  have X0 : Stand p l e ({ frames := 0, cells := 0, slots := 0, locals := 0 } : Room) s m #[(.ref r)] below meth c s₁ [] 0 0 := Stand.of_body Bd
  have e0 : s₁.heap = h0 := by rw [← hh, Bd.state]; rfl
  have N0 := Fr.nil n0
  have k0 : ∀ tg_, Steps p.tables e below (s₁.setTop (mkF m 0 #[.val (.ref r), .unset] [])) tg_ → Steps p.tables e below (s₁.setTop (entryFrame m #[(.ref r)] 2)) tg_ := fun tg_ k => castTop (ef_6 m r) k
  obtain ⟨H, hd, cnt, fr, fw, E, F1, F2, F3, F4, V1, V2, ne1, ne2, ne3, hnn, hn4, hhd, hcnt, I⟩ := R
  obtain ⟨hfx, k, hxk, hkn, I'⟩ := own_inv_take I
  obtain ⟨T91, X91, e91, st91⟩ := getF X0 hx hZ hown (host := "") (Or.inl (hw _ (List.mem_of_getElem? (i := 10) rfl))) Via.refl e0 F1 (g := (mkF m 1 #[.val (.ref r), .unset] [(.ref r)])) rfl rfl (hb hby d6_1)
  obtain ⟨T92, X92, e92, st92⟩ := getF X91 hx hZ hown (host := "") (Or.inl (hw _ (List.mem_of_getElem? (i := 24) rfl))) Via.refl e91 F3 (g := (mkF m 5 #[.val (.ref r), .unset] [(.ref r), (.ref ra)])) rfl rfl (hb hby d6_5)
  obtain ⟨T93, X93, e93, st93⟩ := getF X92 hx hZ hown (host := "") (Or.inl (hw _ (List.mem_of_getElem? (i := 24) rfl))) Via.refl e92 F3 (g := (mkF m 12 #[.val (.ref r), .val (.int x)] [(.ref r), (.ref r)])) rfl rfl (hb hby d6_12)
  obtain ⟨T94, X94, e94, st94⟩ := getF X93 hx hZ hown (host := "") (Or.inl (hw _ (List.mem_of_getElem? (i := 10) rfl))) Via.refl e93 F1 (g := (mkF m 18 #[.val (.ref r), .val (.int x)] [(.ref r), (.int (hd + (1 : Int32))), (.ref r)])) rfl rfl (hb hby d6_18)
  have k95 : ∀ tg_, Steps p.tables e below (T94.setTop (mkF m 22 #[.val (.ref r), .val (.int x)] [(.int nn), (.int (hd + (1 : Int32))), (.ref r)])) tg_ → Steps p.tables e below (s₁.setTop (entryFrame m #[(.ref r)] 2)) tg_ := by
    intro tg_ kt
    refine k0 tg_ ?_
    refine XS.aloadN X0.here hx rfl (hb hby d6_0) rfl rfl ?_
    show Steps p.tables e below (s₁.setTop (mkF m 1 #[.val (.ref r), .unset] [(.ref r)])) _
    refine st91 _ ?_
    show Steps p.tables e below (T91.setTop (mkF m 4 #[.val (.ref r), .unset] [(.ref ra)])) _
    refine XS.aloadN X91.here hx rfl (hb hby d6_4) rfl rfl ?_
    show Steps p.tables e below (T91.setTop (mkF m 5 #[.val (.ref r), .unset] [(.ref r), (.ref ra)])) _
    refine st92 _ ?_
    show Steps p.tables e below (T92.setTop (mkF m 8 #[.val (.ref r), .unset] [(.int hd), (.ref ra)])) _
    refine own_ldI X92 hx hZ e92 V1 (i := H) hhd I.1 hfx (g := (mkF m 8 #[.val (.ref r), .unset] [(.int hd), (.ref ra)])) rfl rfl (hb hby d6_8) _ ?_
    show Steps p.tables e below (T92.setTop (mkF m 9 #[.val (.ref r), .unset] [(.int x)])) _
    refine XS.istoreN X92.here hx rfl (hb hby d6_9) rfl (l' := #[.val (.ref r), .val (.int x)]) rfl ?_
    show Steps p.tables e below (T92.setTop (mkF m 10 #[.val (.ref r), .val (.int x)] [])) _
    refine XS.aloadN X92.here hx rfl (hb hby d6_10) rfl rfl ?_
    show Steps p.tables e below (T92.setTop (mkF m 11 #[.val (.ref r), .val (.int x)] [(.ref r)])) _
    refine XS.aloadN X92.here hx rfl (hb hby d6_11) rfl rfl ?_
    show Steps p.tables e below (T92.setTop (mkF m 12 #[.val (.ref r), .val (.int x)] [(.ref r), (.ref r)])) _
    refine st93 _ ?_
    show Steps p.tables e below (T93.setTop (mkF m 15 #[.val (.ref r), .val (.int x)] [(.int hd), (.ref r)])) _
    refine XS.iconst X93.here hx rfl (hb hby d6_15) ?_
    show Steps p.tables e below (T93.setTop (mkF m 16 #[.val (.ref r), .val (.int x)] [(.int (1 : Int32)), (.int hd), (.ref r)])) _
    refine XS.iadd X93.here hx rfl (hb hby d6_16) rfl ?_
    show Steps p.tables e below (T93.setTop (mkF m 17 #[.val (.ref r), .val (.int x)] [(.int (hd + (1 : Int32))), (.ref r)])) _
    refine XS.aloadN X93.here hx rfl (hb hby d6_17) rfl rfl ?_
    show Steps p.tables e below (T93.setTop (mkF m 18 #[.val (.ref r), .val (.int x)] [(.ref r), (.int (hd + (1 : Int32))), (.ref r)])) _
    refine st94 _ ?_
    show Steps p.tables e below (T94.setTop (mkF m 21 #[.val (.ref r), .val (.int x)] [(.ref ra), (.int (hd + (1 : Int32))), (.ref r)])) _
    refine own_len X94 hx hZ e94 V1 (z := nn) hnn (g := (mkF m 21 #[.val (.ref r), .val (.int x)] [(.ref ra), (.int (hd + (1 : Int32))), (.ref r)])) rfl rfl (hb hby d6_21) _ ?_
    show Steps p.tables e below (T94.setTop (mkF m 22 #[.val (.ref r), .val (.int x)] [(.int nn), (.int (hd + (1 : Int32))), (.ref r)])) _
    exact kt
  by_cases hc22_96 : (hd + (1 : Int32)) < nn
  · obtain ⟨T97, X97, e97, st97⟩ := getF X94 hx hZ hown (host := "") (Or.inl (hw _ (List.mem_of_getElem? (i := 24) rfl))) Via.refl e94 F3 (g := (mkF m 26 #[.val (.ref r), .val (.int x)] [(.ref r), (.ref r)])) rfl rfl (hb hby d6_26)
    obtain ⟨T98, h98, X98, e98, W98, st98⟩ := putF X97 hx hZ hown (host := "") (Or.inl (hw _ (List.mem_of_getElem? (i := 24) rfl))) Via.refl e97 F3 E (Or.inl (hw _ (List.mem_of_getElem? (i := 25) rfl))) (hw _ (List.mem_of_getElem? (i := 1) rfl)) (ty := .int) (by decide) rfl rfl (g := (mkF m 35 #[.val (.ref r), .val (.int x)] [(.int (hd + (1 : Int32))), (.ref r)])) rfl rfl (hb hby d6_35)
    have N98 := Fr.snoc X98 N0 g_r
    have F98 := Fld.same W98 F3
    have f99 := (Fld.other W98 F4 (Or.inr (slot_ne (Or.inl (hw _ (List.mem_of_getElem? (i := 27) rfl))) (Or.inl (hw _ (List.mem_of_getElem? (i := 25) rfl))) (by decide) (t := .int) (t' := .int) (by decide) (by decide))))
    obtain ⟨T100, X100, e100, st100⟩ := getF X98 hx hZ hown (host := "") (Or.inl (hw _ (List.mem_of_getElem? (i := 26) rfl))) Via.refl e98 f99 (g := (mkF m 40 #[.val (.ref r), .val (.int x)] [(.ref r), (.ref r)])) rfl rfl (hb hby d6_40)
    have f101 := (E.keep (Keep.of_wr W98))
    obtain ⟨T102, h102, X102, e102, W102, st102⟩ := putF X100 hx hZ hown (host := "") (Or.inl (hw _ (List.mem_of_getElem? (i := 26) rfl))) Via.refl e100 f99 f101 (Or.inl (hw _ (List.mem_of_getElem? (i := 27) rfl))) (hw _ (List.mem_of_getElem? (i := 1) rfl)) (ty := .int) (by decide) rfl rfl (g := (mkF m 45 #[.val (.ref r), .val (.int x)] [(.int (cnt - (1 : Int32))), (.ref r)])) rfl rfl (hb hby d6_45)
    have N102 := Fr.snoc X102 N98 g_r
    have F102 := Fld.same W102 f99
    have f103 := (Fld.other W102 (Fld.other W98 F2 (Or.inr (slot_ne (Or.inr (hw _ (List.mem_of_getElem? (i := 14) rfl))) (Or.inl (hw _ (List.mem_of_getElem? (i := 25) rfl))) (by decide) (t := (.array .boolean)) (t' := .int) (by decide) (by decide)))) (Or.inr (slot_ne (Or.inr (hw _ (List.mem_of_getElem? (i := 14) rfl))) (Or.inl (hw _ (List.mem_of_getElem? (i := 27) rfl))) (by decide) (t := (.array .boolean)) (t' := .int) (by decide) (by decide))))
    obtain ⟨T104, X104, e104, st104⟩ := getF X102 hx hZ hown (host := "") (Or.inl (hw _ (List.mem_of_getElem? (i := 13) rfl))) Via.refl e102 f103 (g := (mkF m 49 #[.val (.ref r), .val (.int x)] [(.ref r)])) rfl rfl (hb hby d6_49)
    have f105 := ((V2.keep (Keep.of_wr W98) (ninS (Ne.symm ne2) nin0)).keep (Keep.of_wr W102) (ninS (Ne.symm ne2) nin0))
    obtain ⟨T106, h106, X106, e106, W106, V106, st106⟩ := own_stZ X104 hx hZ e104 f105 (i := k) hxk hkn (g := (mkF m 54 #[.val (.ref r), .val (.int x)] [(.int (0 : Int32)), (.int x), (.ref wa)])) rfl rfl (hb hby d6_54)
    have N106 := Fr.snoc X106 N102 g_wa
    have V106 : own_AI Z h106 wa .boolean n (own_upd fw k (0 : Int32)) := V106
    have k107 : ∀ tg_, Steps p.tables e below (T106.setTop (mkF m 56 #[.val (.ref r), .val (.int x)] [(.int x)])) tg_ → Steps p.tables e below (s₁.setTop (entryFrame m #[(.ref r)] 2)) tg_ := by
      intro tg_ kt
      refine k95 tg_ ?_
      refine XS.icmpNo X94.here hx rfl (hb hby d6_22) rfl (tlt hc22_96).2.1 ?_
      show Steps p.tables e below (T94.setTop (mkF m 25 #[.val (.ref r), .val (.int x)] [(.ref r)])) _
      refine XS.aloadN X94.here hx rfl (hb hby d6_25) rfl rfl ?_
      show Steps p.tables e below (T94.setTop (mkF m 26 #[.val (.ref r), .val (.int x)] [(.ref r), (.ref r)])) _
      refine st97 _ ?_
      show Steps p.tables e below (T97.setTop (mkF m 29 #[.val (.ref r), .val (.int x)] [(.int hd), (.ref r)])) _
      refine XS.iconst X97.here hx rfl (hb hby d6_29) ?_
      show Steps p.tables e below (T97.setTop (mkF m 30 #[.val (.ref r), .val (.int x)] [(.int (1 : Int32)), (.int hd), (.ref r)])) _
      refine XS.iadd X97.here hx rfl (hb hby d6_30) rfl ?_
      show Steps p.tables e below (T97.setTop (mkF m 31 #[.val (.ref r), .val (.int x)] [(.int (hd + (1 : Int32))), (.ref r)])) _
      refine XS.goto X97.here hx rfl (pc0 := 31) (pc' := 35) rfl (hb hby d6_31) (by decide) (by decide) ?_
      show Steps p.tables e below (T97.setTop (mkF m 35 #[.val (.ref r), .val (.int x)] [(.int (hd + (1 : Int32))), (.ref r)])) _
      refine st98 _ ?_
      show Steps p.tables e below (T98.setTop (mkF m 38 #[.val (.ref r), .val (.int x)] [])) _
      refine XS.aloadN X98.here hx rfl (hb hby d6_38) rfl rfl ?_
      show Steps p.tables e below (T98.setTop (mkF m 39 #[.val (.ref r), .val (.int x)] [(.ref r)])) _
      refine XS.dup X98.here hx rfl (hb hby d6_39) rfl rfl ?_
      show Steps p.tables e below (T98.setTop (mkF m 40 #[.val (.ref r), .val (.int x)] [(.ref r), (.ref r)])) _
      refine st100 _ ?_
      show Steps p.tables e below (T100.setTop (mkF m 43 #[.val (.ref r), .val (.int x)] [(.int cnt), (.ref r)])) _
      refine XS.iconst X100.here hx rfl (hb hby d6_43) ?_
      show Steps p.tables e below (T100.setTop (mkF m 44 #[.val (.ref r), .val (.int x)] [(.int (1 : Int32)), (.int cnt), (.ref r)])) _
      refine XS.isub X100.here hx rfl (hb hby d6_44) rfl ?_
      show Steps p.tables e below (T100.setTop (mkF m 45 #[.val (.ref r), .val (.int x)] [(.int (cnt - (1 : Int32))), (.ref r)])) _
      refine st102 _ ?_
      show Steps p.tables e below (T102.setTop (mkF m 48 #[.val (.ref r), .val (.int x)] [])) _
      refine XS.aloadN X102.here hx rfl (hb hby d6_48) rfl rfl ?_
      show Steps p.tables e below (T102.setTop (mkF m 49 #[.val (.ref r), .val (.int x)] [(.ref r)])) _
      refine st104 _ ?_
      show Steps p.tables e below (T104.setTop (mkF m 52 #[.val (.ref r), .val (.int x)] [(.ref wa)])) _
      refine XS.iloadN X104.here hx rfl (hb hby d6_52) rfl ?_
      show Steps p.tables e below (T104.setTop (mkF m 53 #[.val (.ref r), .val (.int x)] [(.int x), (.ref wa)])) _
      refine XS.iconst X104.here hx rfl (hb hby d6_53) ?_
      show Steps p.tables e below (T104.setTop (mkF m 54 #[.val (.ref r), .val (.int x)] [(.int (0 : Int32)), (.int x), (.ref wa)])) _
      refine st106 _ ?_
      show Steps p.tables e below (T106.setTop (mkF m 55 #[.val (.ref r), .val (.int x)] [])) _
      refine XS.iloadN X106.here hx rfl (hb hby d6_55) rfl ?_
      show Steps p.tables e below (T106.setTop (mkF m 56 #[.val (.ref r), .val (.int x)] [(.int x)])) _
      exact kt
    have f108 := ((((Keep.refl h0 [r, ra, wa]).trans (Keep.of_wr W98) (allS (Or.inl (List.mem_of_getElem? (i := 0) rfl)) all0)).trans (Keep.of_wr W102) (allS (Or.inl (List.mem_of_getElem? (i := 0) rfl)) all0)).trans (Keep.of_wr W106) (allS (Or.inl (List.mem_of_getElem? (i := 2) rfl)) all0))
    have hI109 := I.1
    have hhn109 : (hd + (1 : Int32)).toInt = ((own_wrap n (H + 1) : Nat) : Int) := by
      have ar110 := rng32 hd
      have ar111 : (1 : Int32).toInt = 1 := by decide
      have ar112 := rng32 (hd + (1 : Int32))
      first | have ar113 : (hd + (1 : Int32)).toInt = hd.toInt + 1 := (by have qw := c_iadd hd (1 : Int32); omega) | (have ar113 := c_iadd hd (1 : Int32); skip)
      have ar114 := rng32 nn
      have ar115 : (hd + (1 : Int32)).toInt < nn.toInt := Int32.lt_iff_toInt_lt.mp hc22_96
      unfold own_wrap
      split <;> omega
    have hcn109 : (cnt - (1 : Int32)).toInt = (q.length : Int) := by
      rw [List.length_cons] at hcnt
      have ar116 := rng32 cnt
      have ar117 : (1 : Int32).toInt = 1 := by decide
      have ar118 := rng32 (cnt - (1 : Int32))
      first | have ar119 : (cnt - (1 : Int32)).toInt = cnt.toInt - 1 := (by have qw := c_isub cnt (1 : Int32); omega) | (have ar119 := c_isub cnt (1 : Int32); skip)
      omega
    have f120 := ((f101.keep (Keep.of_wr W102)).keep (Keep.of_wr W106))
    have f121 := ((Fld.other W102 (Fld.other W98 F1 (Or.inr (slot_ne (Or.inr (hw _ (List.mem_of_getElem? (i := 11) rfl))) (Or.inl (hw _ (List.mem_of_getElem? (i := 25) rfl))) (by decide) (t := (.array .int)) (t' := .int) (by decide) (by decide)))) (Or.inr (slot_ne (Or.inr (hw _ (List.mem_of_getElem? (i := 11) rfl))) (Or.inl (hw _ (List.mem_of_getElem? (i := 27) rfl))) (by decide) (t := (.array .int)) (t' := .int) (by decide) (by decide)))).keep (Keep.of_wr W106) (ninS ne2 nin0))
    have f122 := (f103.keep (Keep.of_wr W106) (ninS ne2 nin0))
    have f123 := ((Fld.other W102 F98 (Or.inr (slot_ne (Or.inl (hw _ (List.mem_of_getElem? (i := 25) rfl))) (Or.inl (hw _ (List.mem_of_getElem? (i := 27) rfl))) (by decide) (t := .int) (t' := .int) (by decide) (by decide)))).keep (Keep.of_wr W106) (ninS ne2 nin0))
    have f124 := (F102.keep (Keep.of_wr W106) (ninS ne2 nin0))
    have f125 := (((V1.keep (Keep.of_wr W98) (ninS (Ne.symm ne1) nin0)).keep (Keep.of_wr W102) (ninS (Ne.symm ne1) nin0)).keep (Keep.of_wr W106) (ninS ne3 nin0))
    obtain ⟨fs, hr, hrun, hended, hW, hsame⟩ := X106.leave (v := some (.int x)) (fun h => by rw [Bd.returns] at h; cases h)
    refine ⟨_, _, k107 _ (retI X106 hx Bd.returns (hb hby d6_56) hr), hrun, hended, _, _, rfl, ?_, ⟨_, rfl⟩, hW, hsame.mono (by decide) (by decide)⟩
    show Q6 Z r ra wa nn n x q h0 n0 _ T106.heap _
    rw [e106]
    exact ⟨rfl, N106, f108, (by exact ⟨(own_wrap n (H + 1)), (hd + (1 : Int32)), (cnt - (1 : Int32)), _, _, f120, f121, f122, f123, f124, f125, V106, ne1, ne2, ne3, hnn, hn4, hhn109, hcn109, I'⟩)⟩
  · obtain ⟨T126, h126, X126, e126, W126, st126⟩ := putF X94 hx hZ hown (host := "") (Or.inl (hw _ (List.mem_of_getElem? (i := 24) rfl))) Via.refl e94 F3 E (Or.inl (hw _ (List.mem_of_getElem? (i := 25) rfl))) (hw _ (List.mem_of_getElem? (i := 1) rfl)) (ty := .int) (by decide) rfl rfl (g := (mkF m 35 #[.val (.ref r), .val (.int x)] [(.int (0 : Int32)), (.ref r)])) rfl rfl (hb hby d6_35)
    have N126 := Fr.snoc X126 N0 g_r
    have F126 := Fld.same W126 F3
    have f127 := (Fld.other W126 F4 (Or.inr (slot_ne (Or.inl (hw _ (List.mem_of_getElem? (i := 27) rfl))) (Or.inl (hw _ (List.mem_of_getElem? (i := 25) rfl))) (by decide) (t := .int) (t' := .int) (by decide) (by decide))))
    obtain ⟨T128, X128, e128, st128⟩ := getF X126 hx hZ hown (host := "") (Or.inl (hw _ (List.mem_of_getElem? (i := 26) rfl))) Via.refl e126 f127 (g := (mkF m 40 #[.val (.ref r), .val (.int x)] [(.ref r), (.ref r)])) rfl rfl (hb hby d6_40)
    have f129 := (E.keep (Keep.of_wr W126))
    obtain ⟨T130, h130, X130, e130, W130, st130⟩ := putF X128 hx hZ hown (host := "") (Or.inl (hw _ (List.mem_of_getElem? (i := 26) rfl))) Via.refl e128 f127 f129 (Or.inl (hw _ (List.mem_of_getElem? (i := 27) rfl))) (hw _ (List.mem_of_getElem? (i := 1) rfl)) (ty := .int) (by decide) rfl rfl (g := (mkF m 45 #[.val (.ref r), .val (.int x)] [(.int (cnt - (1 : Int32))), (.ref r)])) rfl rfl (hb hby d6_45)
    have N130 := Fr.snoc X130 N126 g_r
    have F130 := Fld.same W130 f127
    have f131 := (Fld.other W130 (Fld.other W126 F2 (Or.inr (slot_ne (Or.inr (hw _ (List.mem_of_getElem? (i := 14) rfl))) (Or.inl (hw _ (List.mem_of_getElem? (i := 25) rfl))) (by decide) (t := (.array .boolean)) (t' := .int) (by decide) (by decide)))) (Or.inr (slot_ne (Or.inr (hw _ (List.mem_of_getElem? (i := 14) rfl))) (Or.inl (hw _ (List.mem_of_getElem? (i := 27) rfl))) (by decide) (t := (.array .boolean)) (t' := .int) (by decide) (by decide))))
    obtain ⟨T132, X132, e132, st132⟩ := getF X130 hx hZ hown (host := "") (Or.inl (hw _ (List.mem_of_getElem? (i := 13) rfl))) Via.refl e130 f131 (g := (mkF m 49 #[.val (.ref r), .val (.int x)] [(.ref r)])) rfl rfl (hb hby d6_49)
    have f133 := ((V2.keep (Keep.of_wr W126) (ninS (Ne.symm ne2) nin0)).keep (Keep.of_wr W130) (ninS (Ne.symm ne2) nin0))
    obtain ⟨T134, h134, X134, e134, W134, V134, st134⟩ := own_stZ X132 hx hZ e132 f133 (i := k) hxk hkn (g := (mkF m 54 #[.val (.ref r), .val (.int x)] [(.int (0 : Int32)), (.int x), (.ref wa)])) rfl rfl (hb hby d6_54)
    have N134 := Fr.snoc X134 N130 g_wa
    have V134 : own_AI Z h134 wa .boolean n (own_upd fw k (0 : Int32)) := V134
    have k135 : ∀ tg_, Steps p.tables e below (T134.setTop (mkF m 56 #[.val (.ref r), .val (.int x)] [(.int x)])) tg_ → Steps p.tables e below (s₁.setTop (entryFrame m #[(.ref r)] 2)) tg_ := by
      intro tg_ kt
      refine k95 tg_ ?_
      refine XS.icmpYes X94.here hx rfl (pc0 := 22) (pc' := 34) rfl (hb hby d6_22) rfl (flt hc22_96).2.1 (by decide) (by decide) ?_
      show Steps p.tables e below (T94.setTop (mkF m 34 #[.val (.ref r), .val (.int x)] [(.ref r)])) _
      refine XS.iconst X94.here hx rfl (hb hby d6_34) ?_
      show Steps p.tables e below (T94.setTop (mkF m 35 #[.val (.ref r), .val (.int x)] [(.int (0 : Int32)), (.ref r)])) _
      refine st126 _ ?_
      show Steps p.tables e below (T126.setTop (mkF m 38 #[.val (.ref r), .val (.int x)] [])) _
      refine XS.aloadN X126.here hx rfl (hb hby d6_38) rfl rfl ?_
      show Steps p.tables e below (T126.setTop (mkF m 39 #[.val (.ref r), .val (.int x)] [(.ref r)])) _
      refine XS.dup X126.here hx rfl (hb hby d6_39) rfl rfl ?_
      show Steps p.tables e below (T126.setTop (mkF m 40 #[.val (.ref r), .val (.int x)] [(.ref r), (.ref r)])) _
      refine st128 _ ?_
      show Steps p.tables e below (T128.setTop (mkF m 43 #[.val (.ref r), .val (.int x)] [(.int cnt), (.ref r)])) _
      refine XS.iconst X128.here hx rfl (hb hby d6_43) ?_
      show Steps p.tables e below (T128.setTop (mkF m 44 #[.val (.ref r), .val (.int x)] [(.int (1 : Int32)), (.int cnt), (.ref r)])) _
      refine XS.isub X128.here hx rfl (hb hby d6_44) rfl ?_
      show Steps p.tables e below (T128.setTop (mkF m 45 #[.val (.ref r), .val (.int x)] [(.int (cnt - (1 : Int32))), (.ref r)])) _
      refine st130 _ ?_
      show Steps p.tables e below (T130.setTop (mkF m 48 #[.val (.ref r), .val (.int x)] [])) _
      refine XS.aloadN X130.here hx rfl (hb hby d6_48) rfl rfl ?_
      show Steps p.tables e below (T130.setTop (mkF m 49 #[.val (.ref r), .val (.int x)] [(.ref r)])) _
      refine st132 _ ?_
      show Steps p.tables e below (T132.setTop (mkF m 52 #[.val (.ref r), .val (.int x)] [(.ref wa)])) _
      refine XS.iloadN X132.here hx rfl (hb hby d6_52) rfl ?_
      show Steps p.tables e below (T132.setTop (mkF m 53 #[.val (.ref r), .val (.int x)] [(.int x), (.ref wa)])) _
      refine XS.iconst X132.here hx rfl (hb hby d6_53) ?_
      show Steps p.tables e below (T132.setTop (mkF m 54 #[.val (.ref r), .val (.int x)] [(.int (0 : Int32)), (.int x), (.ref wa)])) _
      refine st134 _ ?_
      show Steps p.tables e below (T134.setTop (mkF m 55 #[.val (.ref r), .val (.int x)] [])) _
      refine XS.iloadN X134.here hx rfl (hb hby d6_55) rfl ?_
      show Steps p.tables e below (T134.setTop (mkF m 56 #[.val (.ref r), .val (.int x)] [(.int x)])) _
      exact kt
    have f136 := ((((Keep.refl h0 [r, ra, wa]).trans (Keep.of_wr W126) (allS (Or.inl (List.mem_of_getElem? (i := 0) rfl)) all0)).trans (Keep.of_wr W130) (allS (Or.inl (List.mem_of_getElem? (i := 0) rfl)) all0)).trans (Keep.of_wr W134) (allS (Or.inl (List.mem_of_getElem? (i := 2) rfl)) all0))
    have hI137 := I.1
    have hhn137 : (0 : Int32).toInt = ((own_wrap n (H + 1) : Nat) : Int) := by
      have ar138 := rng32 hd
      have ar139 : (1 : Int32).toInt = 1 := by decide
      have ar140 := rng32 (hd + (1 : Int32))
      first | have ar141 : (hd + (1 : Int32)).toInt = hd.toInt + 1 := (by have qw := c_iadd hd (1 : Int32); omega) | (have ar141 := c_iadd hd (1 : Int32); skip)
      have ar142 := rng32 nn
      have ar143 : ¬ ((hd + (1 : Int32)).toInt < nn.toInt) := fun qq_ => hc22_96 (Int32.lt_iff_toInt_lt.mpr qq_)
      have ar144 : (0 : Int32).toInt = 0 := by decide
      unfold own_wrap
      split <;> omega
    have hcn137 : (cnt - (1 : Int32)).toInt = (q.length : Int) := by
      rw [List.length_cons] at hcnt
      have ar145 := rng32 cnt
      have ar146 : (1 : Int32).toInt = 1 := by decide
      have ar147 := rng32 (cnt - (1 : Int32))
      first | have ar148 : (cnt - (1 : Int32)).toInt = cnt.toInt - 1 := (by have qw := c_isub cnt (1 : Int32); omega) | (have ar148 := c_isub cnt (1 : Int32); skip)
      omega
    have f149 := ((f129.keep (Keep.of_wr W130)).keep (Keep.of_wr W134))
    have f150 := ((Fld.other W130 (Fld.other W126 F1 (Or.inr (slot_ne (Or.inr (hw _ (List.mem_of_getElem? (i := 11) rfl))) (Or.inl (hw _ (List.mem_of_getElem? (i := 25) rfl))) (by decide) (t := (.array .int)) (t' := .int) (by decide) (by decide)))) (Or.inr (slot_ne (Or.inr (hw _ (List.mem_of_getElem? (i := 11) rfl))) (Or.inl (hw _ (List.mem_of_getElem? (i := 27) rfl))) (by decide) (t := (.array .int)) (t' := .int) (by decide) (by decide)))).keep (Keep.of_wr W134) (ninS ne2 nin0))
    have f151 := (f131.keep (Keep.of_wr W134) (ninS ne2 nin0))
    have f152 := ((Fld.other W130 F126 (Or.inr (slot_ne (Or.inl (hw _ (List.mem_of_getElem? (i := 25) rfl))) (Or.inl (hw _ (List.mem_of_getElem? (i := 27) rfl))) (by decide) (t := .int) (t' := .int) (by decide) (by decide)))).keep (Keep.of_wr W134) (ninS ne2 nin0))
    have f153 := (F130.keep (Keep.of_wr W134) (ninS ne2 nin0))
    have f154 := (((V1.keep (Keep.of_wr W126) (ninS (Ne.symm ne1) nin0)).keep (Keep.of_wr W130) (ninS (Ne.symm ne1) nin0)).keep (Keep.of_wr W134) (ninS ne3 nin0))
    obtain ⟨fs, hr, hrun, hended, hW, hsame⟩ := X134.leave (v := some (.int x)) (fun h => by rw [Bd.returns] at h; cases h)
    refine ⟨_, _, k135 _ (retI X134 hx Bd.returns (hb hby d6_56) hr), hrun, hended, _, _, rfl, ?_, ⟨_, rfl⟩, hW, hsame.mono (by decide) (by decide)⟩
    show Q6 Z r ra wa nn n x q h0 n0 _ T134.heap _
    rw [e134]
    exact ⟨rfl, N134, f136, (by exact ⟨(own_wrap n (H + 1)), (0 : Int32), (cnt - (1 : Int32)), _, _, f149, f150, f151, f152, f153, f154, V134, ne1, ne2, ne3, hnn, hn4, hhn137, hcn137, I'⟩)⟩

def own_mdl (fm : Nat → Int32) (q : List Int32) (b : Nat) : Prop := ∃ H T : Nat, (fm 0).toInt = (H : Int) ∧ (fm 1).toInt = (T : Int) ∧ H + q.length = T ∧ T ≤ b ∧ ∀ j, j < q.length → fm (2 + H + j) = q.getD j 0
theorem own_memD {x : Int32} {q : List Int32} : x ∈ q ↔ ∃ j, j < q.length ∧ q.getD j 0 = x := by
  constructor
  · intro h
    obtain ⟨j, hj, e⟩ := List.mem_iff_getElem.mp h
    exact ⟨j, hj, by simp [List.getD, hj, e]⟩
  · rintro ⟨j, hj, e⟩
    refine List.mem_iff_getElem.mpr ⟨j, hj, ?_⟩
    simpa [List.getD, hj] using e
theorem own_Ring.len {Z : State} {h : Heap} {r ra wa : Addr} {nn : Int32} {n : Nat} {q : List Int32} (F : own_Ring Z h r ra wa nn n q) : q.length ≤ 4 ∧ nn.toInt = (n : Int) ∧ 0 < n := by
  obtain ⟨H, hd, cnt, fr, fw, -, -, -, -, -, -, -, -, -, -, hnn, hn4, -, -, I⟩ := F
  exact ⟨Nat.le_trans I.2.1 hn4, hnn, Nat.lt_of_le_of_lt (Nat.zero_le _) I.1⟩
theorem own_mdl_add {fm : Nat → Int32} {q : List Int32} {b : Nat} {H T : Nat} {v t1 : Int32} (h0 : (fm 0).toInt = (H : Int)) (h1 : (fm 1).toInt = (T : Int)) (h2 : H + q.length = T) (h3 : T ≤ b) (h4 : ∀ j, j < q.length → fm (2 + H + j) = q.getD j 0) (ht : t1.toInt = ((T + 1 : Nat) : Int)) : own_mdl (own_upd (own_upd fm (2 + T) v) 1 t1) (q ++ [v]) (b + 1) := by
  refine ⟨H, T + 1, ?_, ?_, ?_, by omega, fun j hj => ?_⟩
  · simp only [own_upd]; rw [if_neg (by omega), if_neg (by omega)]; exact h0
  · simp only [own_upd]; rw [if_pos (by trivial)]; exact ht
  · simp; omega
  · simp only [List.length_append, List.length_cons, List.length_nil] at hj
    simp only [own_upd]
    rw [if_neg (by omega)]
    by_cases e : j = q.length
    · rw [if_pos (by omega)]; subst e; simp
    · rw [if_neg (by omega), h4 j (by omega)]
      have hj' : j < q.length := by omega
      simp [List.getD, List.getElem?_append, hj']
theorem own_mdl_take {fm : Nat → Int32} {x : Int32} {q : List Int32} {b : Nat} {H T : Nat} {t1 : Int32} (h0 : (fm 0).toInt = (H : Int)) (h1 : (fm 1).toInt = (T : Int)) (h2 : H + (x :: q).length = T) (h3 : T ≤ b) (h4 : ∀ j, j < (x :: q).length → fm (2 + H + j) = (x :: q).getD j 0) (ht : t1.toInt = ((H + 1 : Nat) : Int)) : own_mdl (own_upd fm 0 t1) q (b + 1) := by
  simp only [List.length_cons] at h2
  refine ⟨H + 1, T, ?_, ?_, by omega, by omega, fun j hj => ?_⟩
  · simp only [own_upd]; rw [if_pos (by trivial)]; exact ht
  · simp only [own_upd]; rw [if_neg (by omega)]; exact h1
  · simp only [own_upd]
    rw [if_neg (by omega), show 2 + (H + 1) + j = 2 + H + (j + 1) by omega, h4 (j + 1) (by simp; omega)]
    simp

theorem d5_0 : decode method_3_code 0 = .ok (.iload_n 2, 1) := by decide +kernel
theorem d5_1 : decode method_3_code 1 = .ok (.ifCond .le 12, 3) := by decide +kernel
theorem d5_4 : decode method_3_code 4 = .ok (.aload_n 0, 1) := by decide +kernel
theorem d5_5 : decode method_3_code 5 = .ok (.iconst 2, 1) := by decide +kernel
theorem d5_6 : decode method_3_code 6 = .ok (.iload_n 1, 1) := by decide +kernel
theorem d5_7 : decode method_3_code 7 = .ok (.iadd, 1) := by decide +kernel
theorem d5_8 : decode method_3_code 8 = .ok (.iaload, 1) := by decide +kernel
theorem d5_9 : decode method_3_code 9 = .ok (.iload_n 3, 1) := by decide +kernel
theorem d5_10 : decode method_3_code 10 = .ok (.if_icmp .eq 45, 3) := by decide +kernel
theorem d5_13 : decode method_3_code 13 = .ok (.iload_n 2, 1) := by decide +kernel
theorem d5_14 : decode method_3_code 14 = .ok (.iconst 1, 1) := by decide +kernel
theorem d5_15 : decode method_3_code 15 = .ok (.if_icmp .le 12, 3) := by decide +kernel
theorem d5_18 : decode method_3_code 18 = .ok (.aload_n 0, 1) := by decide +kernel
theorem d5_19 : decode method_3_code 19 = .ok (.iconst 3, 1) := by decide +kernel
theorem d5_20 : decode method_3_code 20 = .ok (.iload_n 1, 1) := by decide +kernel
theorem d5_21 : decode method_3_code 21 = .ok (.iadd, 1) := by decide +kernel
theorem d5_22 : decode method_3_code 22 = .ok (.iaload, 1) := by decide +kernel
theorem d5_23 : decode method_3_code 23 = .ok (.iload_n 3, 1) := by decide +kernel
theorem d5_24 : decode method_3_code 24 = .ok (.if_icmp .eq 31, 3) := by decide +kernel
theorem d5_27 : decode method_3_code 27 = .ok (.iload_n 2, 1) := by decide +kernel
theorem d5_28 : decode method_3_code 28 = .ok (.iconst 2, 1) := by decide +kernel
theorem d5_29 : decode method_3_code 29 = .ok (.if_icmp .le 12, 3) := by decide +kernel
theorem d5_32 : decode method_3_code 32 = .ok (.aload_n 0, 1) := by decide +kernel
theorem d5_33 : decode method_3_code 33 = .ok (.iconst 4, 1) := by decide +kernel
theorem d5_34 : decode method_3_code 34 = .ok (.iload_n 1, 1) := by decide +kernel
theorem d5_35 : decode method_3_code 35 = .ok (.iadd, 1) := by decide +kernel
theorem d5_36 : decode method_3_code 36 = .ok (.iaload, 1) := by decide +kernel
theorem d5_37 : decode method_3_code 37 = .ok (.iload_n 3, 1) := by decide +kernel
theorem d5_38 : decode method_3_code 38 = .ok (.if_icmp .eq 17, 3) := by decide +kernel
theorem d5_41 : decode method_3_code 41 = .ok (.iload_n 2, 1) := by decide +kernel
theorem d5_42 : decode method_3_code 42 = .ok (.iconst 3, 1) := by decide +kernel
theorem d5_43 : decode method_3_code 43 = .ok (.if_icmp .le 16, 3) := by decide +kernel
theorem d5_46 : decode method_3_code 46 = .ok (.aload_n 0, 1) := by decide +kernel
theorem d5_47 : decode method_3_code 47 = .ok (.iconst 5, 1) := by decide +kernel
theorem d5_48 : decode method_3_code 48 = .ok (.iload_n 1, 1) := by decide +kernel
theorem d5_49 : decode method_3_code 49 = .ok (.iadd, 1) := by decide +kernel
theorem d5_50 : decode method_3_code 50 = .ok (.iaload, 1) := by decide +kernel
theorem d5_51 : decode method_3_code 51 = .ok (.iload_n 3, 1) := by decide +kernel
theorem d5_52 : decode method_3_code 52 = .ok (.if_icmp .ne 7, 3) := by decide +kernel
theorem d5_55 : decode method_3_code 55 = .ok (.iconst 1, 1) := by decide +kernel
theorem d5_56 : decode method_3_code 56 = .ok (.goto 4, 3) := by decide +kernel
theorem d5_59 : decode method_3_code 59 = .ok (.iconst 0, 1) := by decide +kernel
theorem d5_60 : decode method_3_code 60 = .ok (.ireturn, 1) := by decide +kernel
theorem pn_5 : plainName "com/example/tablewise/tablewise/propagation/WaitingRingTakePinLaw" = true := by first | (simp [plainName, overriddenIn]; done) | decide +kernel
theorem ef_5 (m : MethodId) (x0 : Addr) (x1 : Int32) (x2 : Int32) (x3 : Int32) : entryFrame m #[(.ref x0), (.int x1), (.int x2), (.int x3)] 4 = mkF m 0 #[.val (.ref x0), .val (.int x1), .val (.int x2), .val (.int x3)] [] := by first | (simp [entryFrame, mkF, argsToLocals, Value.category]; done) | rfl
def Q5 (Z : State) (ma : Addr) (hd0 : Int32) (ln : Int32) (x : Int32) (fm : Nat → Int32) (H : Nat) (q : List Int32) (h0 : Heap) (n0 : Nat) (rv_ : Option Value) (h : Heap) (LL_ : List Loc) : Prop := rv_ = some (.int (if x ∈ q then (1 : Int32) else (0 : Int32))) ∧ Fr n0 LL_ ∧ h = h0
set_option maxRecDepth 65536 in
set_option maxHeartbeats 40000000 in
theorem rm5 (l : Launch) (Z : State) (a0 : Array Value) (hw : ∀ d ∈ tables_1, d.before a0 Z = true) (ws : List Jvm.Cond) (ma : Addr) (hd0 : Int32) (ln : Int32) (x : Int32) (fm : Nat → Int32) (H : Nat) (q : List Int32) (h0 : Heap) (n0 : Nat) (V_ma : own_AI Z h0 ma .int 16 fm) (hh0 : hd0.toInt = (H : Int)) (hln : ln.toInt = (q.length : Int)) (hq4 : q.length ≤ 4) (hH : H + q.length ≤ 8) (hq : ∀ j, j < q.length → fm (2 + H + j) = q.getD j 0) :
    MetFree l (⟨"com/example/tablewise/tablewise/propagation/WaitingRingTakePinLaw", "contains", "([IIII)Z"⟩ : MethodName) (head1 (Jvm.Cond.code (⟨"com/example/tablewise/tablewise/propagation/WaitingRingTakePinLaw", "contains", "([IIII)Z"⟩ : MethodName) method_3_code 4 (some .boolean) :: ws) ({ frames := 0, cells := 0, slots := 0, locals := 0 } : Room)) (fun aa UU => aa = #[(.ref ma), (.int hd0), (.int ln), (.int x)] ∧ Z.Warmed39 UU.vm ∧ UU.heap = h0) (fun _ _ _ _ _ => True) (fun _ UU oo UV => ∃ vv LL, oo = .returned vv ∧ Q5 Z ma hd0 ln x fm H q h0 n0 vv UV.heap LL ∧ FrameEnd UU oo UV LL ({ frames := 0, cells := 0, slots := 0, locals := 0 } : Room).cells ({ frames := 0, cells := 0, slots := 0, locals := 0 } : Room).slots) := by
  refine MetFree.of_bodySF (plainFor_of_name pn_5) hisR ?_
  intro p e s m args below meth c s₁ Bd hml0 hP hK
  obtain ⟨rfl, hZ, hh⟩ := hP
  have hx := Bd.exec
  have hby := Bd.bytes
  have hml : c.maxLocals = 4 := hml0
  have hown : s.vm.findClass "com/example/tablewise/tablewise/propagation/WaitingRingTakePinLaw" = some m.cls := findClass_of_methodNamed Bd.named
  have hnm := (name_of_methodNamed Bd.named Bd.method).1
  have X0 : Stand p l e ({ frames := 0, cells := 0, slots := 0, locals := 0 } : Room) s m #[(.ref ma), (.int hd0), (.int ln), (.int x)] below meth c s₁ [] 0 0 := Stand.of_body Bd
  have e0 : s₁.heap = h0 := by rw [← hh, Bd.state]; rfl
  have N0 := Fr.nil n0
  have k0 : ∀ tg_, Steps p.tables e below (s₁.setTop (mkF m 0 #[.val (.ref ma), .val (.int hd0), .val (.int ln), .val (.int x)] [])) tg_ → Steps p.tables e below (s₁.setTop (entryFrame m #[(.ref ma), (.int hd0), (.int ln), (.int x)] 4)) tg_ := fun tg_ k => castTop (ef_5 m ma hd0 ln x) k
  have k155 : ∀ tg_, Steps p.tables e below (s₁.setTop (mkF m 1 #[.val (.ref ma), .val (.int hd0), .val (.int ln), .val (.int x)] [(.int ln)])) tg_ → Steps p.tables e below (s₁.setTop (entryFrame m #[(.ref ma), (.int hd0), (.int ln), (.int x)] 4)) tg_ := by
    intro tg_ kt
    refine k0 tg_ ?_
    refine XS.iloadN X0.here hx rfl (hb hby d5_0) rfl ?_
    show Steps p.tables e below (s₁.setTop (mkF m 1 #[.val (.ref ma), .val (.int hd0), .val (.int ln), .val (.int x)] [(.int ln)])) _
    exact kt
  by_cases hc1_156 : (0 : Int32) < ln
  · have hj157 : ((2 : Int32) + hd0).toInt = ((2 + H + 0 : Nat) : Int) := by
      have ar158 : (2 : Int32).toInt = 2 := by decide
      have ar159 := rng32 hd0
      have ar160 := rng32 ((2 : Int32) + hd0)
      first | have ar161 : ((2 : Int32) + hd0).toInt = 2 + hd0.toInt := (by have qw := c_iadd (2 : Int32) hd0; omega) | (have ar161 := c_iadd (2 : Int32) hd0; skip)
      have ar162 := rng32 ln
      have ar163 : (0 : Int32).toInt = 0 := by decide
      have ar164 : (0 : Int32).toInt < ln.toInt := Int32.lt_iff_toInt_lt.mp hc1_156
      omega
    have hl157 : 2 + H + 0 < 16 := by
      have ar158 : (2 : Int32).toInt = 2 := by decide
      have ar159 := rng32 hd0
      have ar160 := rng32 ((2 : Int32) + hd0)
      first | have ar161 : ((2 : Int32) + hd0).toInt = 2 + hd0.toInt := (by have qw := c_iadd (2 : Int32) hd0; omega) | (have ar161 := c_iadd (2 : Int32) hd0; skip)
      have ar162 := rng32 ln
      have ar163 : (0 : Int32).toInt = 0 := by decide
      have ar164 : (0 : Int32).toInt < ln.toInt := Int32.lt_iff_toInt_lt.mp hc1_156
      omega
    have k165 : ∀ tg_, Steps p.tables e below (s₁.setTop (mkF m 10 #[.val (.ref ma), .val (.int hd0), .val (.int ln), .val (.int x)] [(.int x), (.int (fm (2 + H + 0)))])) tg_ → Steps p.tables e below (s₁.setTop (entryFrame m #[(.ref ma), (.int hd0), (.int ln), (.int x)] 4)) tg_ := by
      intro tg_ kt
      refine k155 tg_ ?_
      refine XS.ifNo X0.here hx rfl (hb hby d5_1) rfl ((if0 _ _).trans (tlt hc1_156).2.2.2) ?_
      show Steps p.tables e below (s₁.setTop (mkF m 4 #[.val (.ref ma), .val (.int hd0), .val (.int ln), .val (.int x)] [])) _
      refine XS.aloadN X0.here hx rfl (hb hby d5_4) rfl rfl ?_
      show Steps p.tables e below (s₁.setTop (mkF m 5 #[.val (.ref ma), .val (.int hd0), .val (.int ln), .val (.int x)] [(.ref ma)])) _
      refine XS.iconst X0.here hx rfl (hb hby d5_5) ?_
      show Steps p.tables e below (s₁.setTop (mkF m 6 #[.val (.ref ma), .val (.int hd0), .val (.int ln), .val (.int x)] [(.int (2 : Int32)), (.ref ma)])) _
      refine XS.iloadN X0.here hx rfl (hb hby d5_6) rfl ?_
      show Steps p.tables e below (s₁.setTop (mkF m 7 #[.val (.ref ma), .val (.int hd0), .val (.int ln), .val (.int x)] [(.int hd0), (.int (2 : Int32)), (.ref ma)])) _
      refine XS.iadd X0.here hx rfl (hb hby d5_7) rfl ?_
      show Steps p.tables e below (s₁.setTop (mkF m 8 #[.val (.ref ma), .val (.int hd0), .val (.int ln), .val (.int x)] [(.int ((2 : Int32) + hd0)), (.ref ma)])) _
      refine own_ldI X0 hx hZ e0 V_ma (i := (2 + H + 0)) hj157 hl157 rfl (g := (mkF m 8 #[.val (.ref ma), .val (.int hd0), .val (.int ln), .val (.int x)] [(.int ((2 : Int32) + hd0)), (.ref ma)])) rfl rfl (hb hby d5_8) _ ?_
      show Steps p.tables e below (s₁.setTop (mkF m 9 #[.val (.ref ma), .val (.int hd0), .val (.int ln), .val (.int x)] [(.int (fm (2 + H + 0)))])) _
      refine XS.iloadN X0.here hx rfl (hb hby d5_9) rfl ?_
      show Steps p.tables e below (s₁.setTop (mkF m 10 #[.val (.ref ma), .val (.int hd0), .val (.int ln), .val (.int x)] [(.int x), (.int (fm (2 + H + 0)))])) _
      exact kt
    by_cases hc10_166 : (fm (2 + H + 0)) = x
    · have k167 : ∀ tg_, Steps p.tables e below (s₁.setTop (mkF m 60 #[.val (.ref ma), .val (.int hd0), .val (.int ln), .val (.int x)] [(.int (1 : Int32))])) tg_ → Steps p.tables e below (s₁.setTop (entryFrame m #[(.ref ma), (.int hd0), (.int ln), (.int x)] 4)) tg_ := by
        intro tg_ kt
        refine k165 tg_ ?_
        refine XS.icmpYes X0.here hx rfl (pc0 := 10) (pc' := 55) rfl (hb hby d5_10) rfl (teq hc10_166).1 (by decide) (by decide) ?_
        show Steps p.tables e below (s₁.setTop (mkF m 55 #[.val (.ref ma), .val (.int hd0), .val (.int ln), .val (.int x)] [])) _
        refine XS.iconst X0.here hx rfl (hb hby d5_55) ?_
        show Steps p.tables e below (s₁.setTop (mkF m 56 #[.val (.ref ma), .val (.int hd0), .val (.int ln), .val (.int x)] [(.int (1 : Int32))])) _
        refine XS.goto X0.here hx rfl (pc0 := 56) (pc' := 60) rfl (hb hby d5_56) (by decide) (by decide) ?_
        show Steps p.tables e below (s₁.setTop (mkF m 60 #[.val (.ref ma), .val (.int hd0), .val (.int ln), .val (.int x)] [(.int (1 : Int32))])) _
        exact kt
      have hm168 : x ∈ q := own_memD.mpr ⟨0, by
          have ar169 : (0 : Int32).toInt = 0 := by decide
          have ar170 := rng32 ln
          have ar171 : (0 : Int32).toInt < ln.toInt := Int32.lt_iff_toInt_lt.mp hc1_156
          omega, by
          rw [← hq 0 (by
            have ar169 : (0 : Int32).toInt = 0 := by decide
            have ar170 := rng32 ln
            have ar171 : (0 : Int32).toInt < ln.toInt := Int32.lt_iff_toInt_lt.mp hc1_156
            omega)]
          exact hc10_166⟩
      obtain ⟨fs, hr, hrun, hended, hW, hsame⟩ := X0.leave (v := some (.int (1 : Int32))) (fun h => by rw [Bd.returns] at h; cases h)
      refine ⟨_, _, k167 _ (retN X0 hx (t := .boolean) Bd.returns (by simp) (hb hby d5_60) hr), hrun, hended, _, _, rfl, ?_, ⟨_, rfl⟩, hW, hsame.mono (by decide) (by decide)⟩
      show Q5 Z ma hd0 ln x fm H q h0 n0 _ s₁.heap _
      rw [e0]
      exact ⟨(by rw [if_pos hm168]), N0, rfl⟩
    · have k172 : ∀ tg_, Steps p.tables e below (s₁.setTop (mkF m 15 #[.val (.ref ma), .val (.int hd0), .val (.int ln), .val (.int x)] [(.int (1 : Int32)), (.int ln)])) tg_ → Steps p.tables e below (s₁.setTop (entryFrame m #[(.ref ma), (.int hd0), (.int ln), (.int x)] 4)) tg_ := by
        intro tg_ kt
        refine k165 tg_ ?_
        refine XS.icmpNo X0.here hx rfl (hb hby d5_10) rfl (feq hc10_166).1 ?_
        show Steps p.tables e below (s₁.setTop (mkF m 13 #[.val (.ref ma), .val (.int hd0), .val (.int ln), .val (.int x)] [])) _
        refine XS.iloadN X0.here hx rfl (hb hby d5_13) rfl ?_
        show Steps p.tables e below (s₁.setTop (mkF m 14 #[.val (.ref ma), .val (.int hd0), .val (.int ln), .val (.int x)] [(.int ln)])) _
        refine XS.iconst X0.here hx rfl (hb hby d5_14) ?_
        show Steps p.tables e below (s₁.setTop (mkF m 15 #[.val (.ref ma), .val (.int hd0), .val (.int ln), .val (.int x)] [(.int (1 : Int32)), (.int ln)])) _
        exact kt
      by_cases hc15_173 : (1 : Int32) < ln
      · have hj174 : ((3 : Int32) + hd0).toInt = ((2 + H + 1 : Nat) : Int) := by
          have ar175 : (3 : Int32).toInt = 3 := by decide
          have ar176 := rng32 hd0
          have ar177 := rng32 ((3 : Int32) + hd0)
          first | have ar178 : ((3 : Int32) + hd0).toInt = 3 + hd0.toInt := (by have qw := c_iadd (3 : Int32) hd0; omega) | (have ar178 := c_iadd (3 : Int32) hd0; skip)
          have ar179 := rng32 ln
          have ar180 : (0 : Int32).toInt = 0 := by decide
          have ar181 : (0 : Int32).toInt < ln.toInt := Int32.lt_iff_toInt_lt.mp hc1_156
          have ar182 : (1 : Int32).toInt = 1 := by decide
          have ar183 : (1 : Int32).toInt < ln.toInt := Int32.lt_iff_toInt_lt.mp hc15_173
          omega
        have hl174 : 2 + H + 1 < 16 := by
          have ar175 : (3 : Int32).toInt = 3 := by decide
          have ar176 := rng32 hd0
          have ar177 := rng32 ((3 : Int32) + hd0)
          first | have ar178 : ((3 : Int32) + hd0).toInt = 3 + hd0.toInt := (by have qw := c_iadd (3 : Int32) hd0; omega) | (have ar178 := c_iadd (3 : Int32) hd0; skip)
          have ar179 := rng32 ln
          have ar180 : (0 : Int32).toInt = 0 := by decide
          have ar181 : (0 : Int32).toInt < ln.toInt := Int32.lt_iff_toInt_lt.mp hc1_156
          have ar182 : (1 : Int32).toInt = 1 := by decide
          have ar183 : (1 : Int32).toInt < ln.toInt := Int32.lt_iff_toInt_lt.mp hc15_173
          omega
        have k184 : ∀ tg_, Steps p.tables e below (s₁.setTop (mkF m 24 #[.val (.ref ma), .val (.int hd0), .val (.int ln), .val (.int x)] [(.int x), (.int (fm (2 + H + 1)))])) tg_ → Steps p.tables e below (s₁.setTop (entryFrame m #[(.ref ma), (.int hd0), (.int ln), (.int x)] 4)) tg_ := by
          intro tg_ kt
          refine k172 tg_ ?_
          refine XS.icmpNo X0.here hx rfl (hb hby d5_15) rfl (tlt hc15_173).2.2.2 ?_
          show Steps p.tables e below (s₁.setTop (mkF m 18 #[.val (.ref ma), .val (.int hd0), .val (.int ln), .val (.int x)] [])) _
          refine XS.aloadN X0.here hx rfl (hb hby d5_18) rfl rfl ?_
          show Steps p.tables e below (s₁.setTop (mkF m 19 #[.val (.ref ma), .val (.int hd0), .val (.int ln), .val (.int x)] [(.ref ma)])) _
          refine XS.iconst X0.here hx rfl (hb hby d5_19) ?_
          show Steps p.tables e below (s₁.setTop (mkF m 20 #[.val (.ref ma), .val (.int hd0), .val (.int ln), .val (.int x)] [(.int (3 : Int32)), (.ref ma)])) _
          refine XS.iloadN X0.here hx rfl (hb hby d5_20) rfl ?_
          show Steps p.tables e below (s₁.setTop (mkF m 21 #[.val (.ref ma), .val (.int hd0), .val (.int ln), .val (.int x)] [(.int hd0), (.int (3 : Int32)), (.ref ma)])) _
          refine XS.iadd X0.here hx rfl (hb hby d5_21) rfl ?_
          show Steps p.tables e below (s₁.setTop (mkF m 22 #[.val (.ref ma), .val (.int hd0), .val (.int ln), .val (.int x)] [(.int ((3 : Int32) + hd0)), (.ref ma)])) _
          refine own_ldI X0 hx hZ e0 V_ma (i := (2 + H + 1)) hj174 hl174 rfl (g := (mkF m 22 #[.val (.ref ma), .val (.int hd0), .val (.int ln), .val (.int x)] [(.int ((3 : Int32) + hd0)), (.ref ma)])) rfl rfl (hb hby d5_22) _ ?_
          show Steps p.tables e below (s₁.setTop (mkF m 23 #[.val (.ref ma), .val (.int hd0), .val (.int ln), .val (.int x)] [(.int (fm (2 + H + 1)))])) _
          refine XS.iloadN X0.here hx rfl (hb hby d5_23) rfl ?_
          show Steps p.tables e below (s₁.setTop (mkF m 24 #[.val (.ref ma), .val (.int hd0), .val (.int ln), .val (.int x)] [(.int x), (.int (fm (2 + H + 1)))])) _
          exact kt
        by_cases hc24_185 : (fm (2 + H + 1)) = x
        · have k186 : ∀ tg_, Steps p.tables e below (s₁.setTop (mkF m 60 #[.val (.ref ma), .val (.int hd0), .val (.int ln), .val (.int x)] [(.int (1 : Int32))])) tg_ → Steps p.tables e below (s₁.setTop (entryFrame m #[(.ref ma), (.int hd0), (.int ln), (.int x)] 4)) tg_ := by
            intro tg_ kt
            refine k184 tg_ ?_
            refine XS.icmpYes X0.here hx rfl (pc0 := 24) (pc' := 55) rfl (hb hby d5_24) rfl (teq hc24_185).1 (by decide) (by decide) ?_
            show Steps p.tables e below (s₁.setTop (mkF m 55 #[.val (.ref ma), .val (.int hd0), .val (.int ln), .val (.int x)] [])) _
            refine XS.iconst X0.here hx rfl (hb hby d5_55) ?_
            show Steps p.tables e below (s₁.setTop (mkF m 56 #[.val (.ref ma), .val (.int hd0), .val (.int ln), .val (.int x)] [(.int (1 : Int32))])) _
            refine XS.goto X0.here hx rfl (pc0 := 56) (pc' := 60) rfl (hb hby d5_56) (by decide) (by decide) ?_
            show Steps p.tables e below (s₁.setTop (mkF m 60 #[.val (.ref ma), .val (.int hd0), .val (.int ln), .val (.int x)] [(.int (1 : Int32))])) _
            exact kt
          have hm187 : x ∈ q := own_memD.mpr ⟨1, by
              have ar188 : (0 : Int32).toInt = 0 := by decide
              have ar189 := rng32 ln
              have ar190 : (0 : Int32).toInt < ln.toInt := Int32.lt_iff_toInt_lt.mp hc1_156
              have ar191 : (1 : Int32).toInt = 1 := by decide
              have ar192 : (1 : Int32).toInt < ln.toInt := Int32.lt_iff_toInt_lt.mp hc15_173
              omega, by
              rw [← hq 1 (by
                have ar188 : (0 : Int32).toInt = 0 := by decide
                have ar189 := rng32 ln
                have ar190 : (0 : Int32).toInt < ln.toInt := Int32.lt_iff_toInt_lt.mp hc1_156
                have ar191 : (1 : Int32).toInt = 1 := by decide
                have ar192 : (1 : Int32).toInt < ln.toInt := Int32.lt_iff_toInt_lt.mp hc15_173
                omega)]
              exact hc24_185⟩
          obtain ⟨fs, hr, hrun, hended, hW, hsame⟩ := X0.leave (v := some (.int (1 : Int32))) (fun h => by rw [Bd.returns] at h; cases h)
          refine ⟨_, _, k186 _ (retN X0 hx (t := .boolean) Bd.returns (by simp) (hb hby d5_60) hr), hrun, hended, _, _, rfl, ?_, ⟨_, rfl⟩, hW, hsame.mono (by decide) (by decide)⟩
          show Q5 Z ma hd0 ln x fm H q h0 n0 _ s₁.heap _
          rw [e0]
          exact ⟨(by rw [if_pos hm187]), N0, rfl⟩
        · have k193 : ∀ tg_, Steps p.tables e below (s₁.setTop (mkF m 29 #[.val (.ref ma), .val (.int hd0), .val (.int ln), .val (.int x)] [(.int (2 : Int32)), (.int ln)])) tg_ → Steps p.tables e below (s₁.setTop (entryFrame m #[(.ref ma), (.int hd0), (.int ln), (.int x)] 4)) tg_ := by
            intro tg_ kt
            refine k184 tg_ ?_
            refine XS.icmpNo X0.here hx rfl (hb hby d5_24) rfl (feq hc24_185).1 ?_
            show Steps p.tables e below (s₁.setTop (mkF m 27 #[.val (.ref ma), .val (.int hd0), .val (.int ln), .val (.int x)] [])) _
            refine XS.iloadN X0.here hx rfl (hb hby d5_27) rfl ?_
            show Steps p.tables e below (s₁.setTop (mkF m 28 #[.val (.ref ma), .val (.int hd0), .val (.int ln), .val (.int x)] [(.int ln)])) _
            refine XS.iconst X0.here hx rfl (hb hby d5_28) ?_
            show Steps p.tables e below (s₁.setTop (mkF m 29 #[.val (.ref ma), .val (.int hd0), .val (.int ln), .val (.int x)] [(.int (2 : Int32)), (.int ln)])) _
            exact kt
          by_cases hc29_194 : (2 : Int32) < ln
          · have hj195 : ((4 : Int32) + hd0).toInt = ((2 + H + 2 : Nat) : Int) := by
              have ar196 : (4 : Int32).toInt = 4 := by decide
              have ar197 := rng32 hd0
              have ar198 := rng32 ((4 : Int32) + hd0)
              first | have ar199 : ((4 : Int32) + hd0).toInt = 4 + hd0.toInt := (by have qw := c_iadd (4 : Int32) hd0; omega) | (have ar199 := c_iadd (4 : Int32) hd0; skip)
              have ar200 := rng32 ln
              have ar201 : (0 : Int32).toInt = 0 := by decide
              have ar202 : (0 : Int32).toInt < ln.toInt := Int32.lt_iff_toInt_lt.mp hc1_156
              have ar203 : (1 : Int32).toInt = 1 := by decide
              have ar204 : (1 : Int32).toInt < ln.toInt := Int32.lt_iff_toInt_lt.mp hc15_173
              have ar205 : (2 : Int32).toInt = 2 := by decide
              have ar206 : (2 : Int32).toInt < ln.toInt := Int32.lt_iff_toInt_lt.mp hc29_194
              omega
            have hl195 : 2 + H + 2 < 16 := by
              have ar196 : (4 : Int32).toInt = 4 := by decide
              have ar197 := rng32 hd0
              have ar198 := rng32 ((4 : Int32) + hd0)
              first | have ar199 : ((4 : Int32) + hd0).toInt = 4 + hd0.toInt := (by have qw := c_iadd (4 : Int32) hd0; omega) | (have ar199 := c_iadd (4 : Int32) hd0; skip)
              have ar200 := rng32 ln
              have ar201 : (0 : Int32).toInt = 0 := by decide
              have ar202 : (0 : Int32).toInt < ln.toInt := Int32.lt_iff_toInt_lt.mp hc1_156
              have ar203 : (1 : Int32).toInt = 1 := by decide
              have ar204 : (1 : Int32).toInt < ln.toInt := Int32.lt_iff_toInt_lt.mp hc15_173
              have ar205 : (2 : Int32).toInt = 2 := by decide
              have ar206 : (2 : Int32).toInt < ln.toInt := Int32.lt_iff_toInt_lt.mp hc29_194
              omega
            have k207 : ∀ tg_, Steps p.tables e below (s₁.setTop (mkF m 38 #[.val (.ref ma), .val (.int hd0), .val (.int ln), .val (.int x)] [(.int x), (.int (fm (2 + H + 2)))])) tg_ → Steps p.tables e below (s₁.setTop (entryFrame m #[(.ref ma), (.int hd0), (.int ln), (.int x)] 4)) tg_ := by
              intro tg_ kt
              refine k193 tg_ ?_
              refine XS.icmpNo X0.here hx rfl (hb hby d5_29) rfl (tlt hc29_194).2.2.2 ?_
              show Steps p.tables e below (s₁.setTop (mkF m 32 #[.val (.ref ma), .val (.int hd0), .val (.int ln), .val (.int x)] [])) _
              refine XS.aloadN X0.here hx rfl (hb hby d5_32) rfl rfl ?_
              show Steps p.tables e below (s₁.setTop (mkF m 33 #[.val (.ref ma), .val (.int hd0), .val (.int ln), .val (.int x)] [(.ref ma)])) _
              refine XS.iconst X0.here hx rfl (hb hby d5_33) ?_
              show Steps p.tables e below (s₁.setTop (mkF m 34 #[.val (.ref ma), .val (.int hd0), .val (.int ln), .val (.int x)] [(.int (4 : Int32)), (.ref ma)])) _
              refine XS.iloadN X0.here hx rfl (hb hby d5_34) rfl ?_
              show Steps p.tables e below (s₁.setTop (mkF m 35 #[.val (.ref ma), .val (.int hd0), .val (.int ln), .val (.int x)] [(.int hd0), (.int (4 : Int32)), (.ref ma)])) _
              refine XS.iadd X0.here hx rfl (hb hby d5_35) rfl ?_
              show Steps p.tables e below (s₁.setTop (mkF m 36 #[.val (.ref ma), .val (.int hd0), .val (.int ln), .val (.int x)] [(.int ((4 : Int32) + hd0)), (.ref ma)])) _
              refine own_ldI X0 hx hZ e0 V_ma (i := (2 + H + 2)) hj195 hl195 rfl (g := (mkF m 36 #[.val (.ref ma), .val (.int hd0), .val (.int ln), .val (.int x)] [(.int ((4 : Int32) + hd0)), (.ref ma)])) rfl rfl (hb hby d5_36) _ ?_
              show Steps p.tables e below (s₁.setTop (mkF m 37 #[.val (.ref ma), .val (.int hd0), .val (.int ln), .val (.int x)] [(.int (fm (2 + H + 2)))])) _
              refine XS.iloadN X0.here hx rfl (hb hby d5_37) rfl ?_
              show Steps p.tables e below (s₁.setTop (mkF m 38 #[.val (.ref ma), .val (.int hd0), .val (.int ln), .val (.int x)] [(.int x), (.int (fm (2 + H + 2)))])) _
              exact kt
            by_cases hc38_208 : (fm (2 + H + 2)) = x
            · have k209 : ∀ tg_, Steps p.tables e below (s₁.setTop (mkF m 60 #[.val (.ref ma), .val (.int hd0), .val (.int ln), .val (.int x)] [(.int (1 : Int32))])) tg_ → Steps p.tables e below (s₁.setTop (entryFrame m #[(.ref ma), (.int hd0), (.int ln), (.int x)] 4)) tg_ := by
                intro tg_ kt
                refine k207 tg_ ?_
                refine XS.icmpYes X0.here hx rfl (pc0 := 38) (pc' := 55) rfl (hb hby d5_38) rfl (teq hc38_208).1 (by decide) (by decide) ?_
                show Steps p.tables e below (s₁.setTop (mkF m 55 #[.val (.ref ma), .val (.int hd0), .val (.int ln), .val (.int x)] [])) _
                refine XS.iconst X0.here hx rfl (hb hby d5_55) ?_
                show Steps p.tables e below (s₁.setTop (mkF m 56 #[.val (.ref ma), .val (.int hd0), .val (.int ln), .val (.int x)] [(.int (1 : Int32))])) _
                refine XS.goto X0.here hx rfl (pc0 := 56) (pc' := 60) rfl (hb hby d5_56) (by decide) (by decide) ?_
                show Steps p.tables e below (s₁.setTop (mkF m 60 #[.val (.ref ma), .val (.int hd0), .val (.int ln), .val (.int x)] [(.int (1 : Int32))])) _
                exact kt
              have hm210 : x ∈ q := own_memD.mpr ⟨2, by
                  have ar211 : (0 : Int32).toInt = 0 := by decide
                  have ar212 := rng32 ln
                  have ar213 : (0 : Int32).toInt < ln.toInt := Int32.lt_iff_toInt_lt.mp hc1_156
                  have ar214 : (1 : Int32).toInt = 1 := by decide
                  have ar215 : (1 : Int32).toInt < ln.toInt := Int32.lt_iff_toInt_lt.mp hc15_173
                  have ar216 : (2 : Int32).toInt = 2 := by decide
                  have ar217 : (2 : Int32).toInt < ln.toInt := Int32.lt_iff_toInt_lt.mp hc29_194
                  omega, by
                  rw [← hq 2 (by
                    have ar211 : (0 : Int32).toInt = 0 := by decide
                    have ar212 := rng32 ln
                    have ar213 : (0 : Int32).toInt < ln.toInt := Int32.lt_iff_toInt_lt.mp hc1_156
                    have ar214 : (1 : Int32).toInt = 1 := by decide
                    have ar215 : (1 : Int32).toInt < ln.toInt := Int32.lt_iff_toInt_lt.mp hc15_173
                    have ar216 : (2 : Int32).toInt = 2 := by decide
                    have ar217 : (2 : Int32).toInt < ln.toInt := Int32.lt_iff_toInt_lt.mp hc29_194
                    omega)]
                  exact hc38_208⟩
              obtain ⟨fs, hr, hrun, hended, hW, hsame⟩ := X0.leave (v := some (.int (1 : Int32))) (fun h => by rw [Bd.returns] at h; cases h)
              refine ⟨_, _, k209 _ (retN X0 hx (t := .boolean) Bd.returns (by simp) (hb hby d5_60) hr), hrun, hended, _, _, rfl, ?_, ⟨_, rfl⟩, hW, hsame.mono (by decide) (by decide)⟩
              show Q5 Z ma hd0 ln x fm H q h0 n0 _ s₁.heap _
              rw [e0]
              exact ⟨(by rw [if_pos hm210]), N0, rfl⟩
            · have k218 : ∀ tg_, Steps p.tables e below (s₁.setTop (mkF m 43 #[.val (.ref ma), .val (.int hd0), .val (.int ln), .val (.int x)] [(.int (3 : Int32)), (.int ln)])) tg_ → Steps p.tables e below (s₁.setTop (entryFrame m #[(.ref ma), (.int hd0), (.int ln), (.int x)] 4)) tg_ := by
                intro tg_ kt
                refine k207 tg_ ?_
                refine XS.icmpNo X0.here hx rfl (hb hby d5_38) rfl (feq hc38_208).1 ?_
                show Steps p.tables e below (s₁.setTop (mkF m 41 #[.val (.ref ma), .val (.int hd0), .val (.int ln), .val (.int x)] [])) _
                refine XS.iloadN X0.here hx rfl (hb hby d5_41) rfl ?_
                show Steps p.tables e below (s₁.setTop (mkF m 42 #[.val (.ref ma), .val (.int hd0), .val (.int ln), .val (.int x)] [(.int ln)])) _
                refine XS.iconst X0.here hx rfl (hb hby d5_42) ?_
                show Steps p.tables e below (s₁.setTop (mkF m 43 #[.val (.ref ma), .val (.int hd0), .val (.int ln), .val (.int x)] [(.int (3 : Int32)), (.int ln)])) _
                exact kt
              by_cases hc43_219 : (3 : Int32) < ln
              · have hj220 : ((5 : Int32) + hd0).toInt = ((2 + H + 3 : Nat) : Int) := by
                  have ar221 : (5 : Int32).toInt = 5 := by decide
                  have ar222 := rng32 hd0
                  have ar223 := rng32 ((5 : Int32) + hd0)
                  first | have ar224 : ((5 : Int32) + hd0).toInt = 5 + hd0.toInt := (by have qw := c_iadd (5 : Int32) hd0; omega) | (have ar224 := c_iadd (5 : Int32) hd0; skip)
                  have ar225 := rng32 ln
                  have ar226 : (0 : Int32).toInt = 0 := by decide
                  have ar227 : (0 : Int32).toInt < ln.toInt := Int32.lt_iff_toInt_lt.mp hc1_156
                  have ar228 : (1 : Int32).toInt = 1 := by decide
                  have ar229 : (1 : Int32).toInt < ln.toInt := Int32.lt_iff_toInt_lt.mp hc15_173
                  have ar230 : (2 : Int32).toInt = 2 := by decide
                  have ar231 : (2 : Int32).toInt < ln.toInt := Int32.lt_iff_toInt_lt.mp hc29_194
                  have ar232 : (3 : Int32).toInt = 3 := by decide
                  have ar233 : (3 : Int32).toInt < ln.toInt := Int32.lt_iff_toInt_lt.mp hc43_219
                  omega
                have hl220 : 2 + H + 3 < 16 := by
                  have ar221 : (5 : Int32).toInt = 5 := by decide
                  have ar222 := rng32 hd0
                  have ar223 := rng32 ((5 : Int32) + hd0)
                  first | have ar224 : ((5 : Int32) + hd0).toInt = 5 + hd0.toInt := (by have qw := c_iadd (5 : Int32) hd0; omega) | (have ar224 := c_iadd (5 : Int32) hd0; skip)
                  have ar225 := rng32 ln
                  have ar226 : (0 : Int32).toInt = 0 := by decide
                  have ar227 : (0 : Int32).toInt < ln.toInt := Int32.lt_iff_toInt_lt.mp hc1_156
                  have ar228 : (1 : Int32).toInt = 1 := by decide
                  have ar229 : (1 : Int32).toInt < ln.toInt := Int32.lt_iff_toInt_lt.mp hc15_173
                  have ar230 : (2 : Int32).toInt = 2 := by decide
                  have ar231 : (2 : Int32).toInt < ln.toInt := Int32.lt_iff_toInt_lt.mp hc29_194
                  have ar232 : (3 : Int32).toInt = 3 := by decide
                  have ar233 : (3 : Int32).toInt < ln.toInt := Int32.lt_iff_toInt_lt.mp hc43_219
                  omega
                have k234 : ∀ tg_, Steps p.tables e below (s₁.setTop (mkF m 52 #[.val (.ref ma), .val (.int hd0), .val (.int ln), .val (.int x)] [(.int x), (.int (fm (2 + H + 3)))])) tg_ → Steps p.tables e below (s₁.setTop (entryFrame m #[(.ref ma), (.int hd0), (.int ln), (.int x)] 4)) tg_ := by
                  intro tg_ kt
                  refine k218 tg_ ?_
                  refine XS.icmpNo X0.here hx rfl (hb hby d5_43) rfl (tlt hc43_219).2.2.2 ?_
                  show Steps p.tables e below (s₁.setTop (mkF m 46 #[.val (.ref ma), .val (.int hd0), .val (.int ln), .val (.int x)] [])) _
                  refine XS.aloadN X0.here hx rfl (hb hby d5_46) rfl rfl ?_
                  show Steps p.tables e below (s₁.setTop (mkF m 47 #[.val (.ref ma), .val (.int hd0), .val (.int ln), .val (.int x)] [(.ref ma)])) _
                  refine XS.iconst X0.here hx rfl (hb hby d5_47) ?_
                  show Steps p.tables e below (s₁.setTop (mkF m 48 #[.val (.ref ma), .val (.int hd0), .val (.int ln), .val (.int x)] [(.int (5 : Int32)), (.ref ma)])) _
                  refine XS.iloadN X0.here hx rfl (hb hby d5_48) rfl ?_
                  show Steps p.tables e below (s₁.setTop (mkF m 49 #[.val (.ref ma), .val (.int hd0), .val (.int ln), .val (.int x)] [(.int hd0), (.int (5 : Int32)), (.ref ma)])) _
                  refine XS.iadd X0.here hx rfl (hb hby d5_49) rfl ?_
                  show Steps p.tables e below (s₁.setTop (mkF m 50 #[.val (.ref ma), .val (.int hd0), .val (.int ln), .val (.int x)] [(.int ((5 : Int32) + hd0)), (.ref ma)])) _
                  refine own_ldI X0 hx hZ e0 V_ma (i := (2 + H + 3)) hj220 hl220 rfl (g := (mkF m 50 #[.val (.ref ma), .val (.int hd0), .val (.int ln), .val (.int x)] [(.int ((5 : Int32) + hd0)), (.ref ma)])) rfl rfl (hb hby d5_50) _ ?_
                  show Steps p.tables e below (s₁.setTop (mkF m 51 #[.val (.ref ma), .val (.int hd0), .val (.int ln), .val (.int x)] [(.int (fm (2 + H + 3)))])) _
                  refine XS.iloadN X0.here hx rfl (hb hby d5_51) rfl ?_
                  show Steps p.tables e below (s₁.setTop (mkF m 52 #[.val (.ref ma), .val (.int hd0), .val (.int ln), .val (.int x)] [(.int x), (.int (fm (2 + H + 3)))])) _
                  exact kt
                by_cases hc52_235 : (fm (2 + H + 3)) = x
                · have k236 : ∀ tg_, Steps p.tables e below (s₁.setTop (mkF m 60 #[.val (.ref ma), .val (.int hd0), .val (.int ln), .val (.int x)] [(.int (1 : Int32))])) tg_ → Steps p.tables e below (s₁.setTop (entryFrame m #[(.ref ma), (.int hd0), (.int ln), (.int x)] 4)) tg_ := by
                    intro tg_ kt
                    refine k234 tg_ ?_
                    refine XS.icmpNo X0.here hx rfl (hb hby d5_52) rfl (teq hc52_235).2 ?_
                    show Steps p.tables e below (s₁.setTop (mkF m 55 #[.val (.ref ma), .val (.int hd0), .val (.int ln), .val (.int x)] [])) _
                    refine XS.iconst X0.here hx rfl (hb hby d5_55) ?_
                    show Steps p.tables e below (s₁.setTop (mkF m 56 #[.val (.ref ma), .val (.int hd0), .val (.int ln), .val (.int x)] [(.int (1 : Int32))])) _
                    refine XS.goto X0.here hx rfl (pc0 := 56) (pc' := 60) rfl (hb hby d5_56) (by decide) (by decide) ?_
                    show Steps p.tables e below (s₁.setTop (mkF m 60 #[.val (.ref ma), .val (.int hd0), .val (.int ln), .val (.int x)] [(.int (1 : Int32))])) _
                    exact kt
                  have hm237 : x ∈ q := own_memD.mpr ⟨3, by
                      have ar238 : (0 : Int32).toInt = 0 := by decide
                      have ar239 := rng32 ln
                      have ar240 : (0 : Int32).toInt < ln.toInt := Int32.lt_iff_toInt_lt.mp hc1_156
                      have ar241 : (1 : Int32).toInt = 1 := by decide
                      have ar242 : (1 : Int32).toInt < ln.toInt := Int32.lt_iff_toInt_lt.mp hc15_173
                      have ar243 : (2 : Int32).toInt = 2 := by decide
                      have ar244 : (2 : Int32).toInt < ln.toInt := Int32.lt_iff_toInt_lt.mp hc29_194
                      have ar245 : (3 : Int32).toInt = 3 := by decide
                      have ar246 : (3 : Int32).toInt < ln.toInt := Int32.lt_iff_toInt_lt.mp hc43_219
                      omega, by
                      rw [← hq 3 (by
                        have ar238 : (0 : Int32).toInt = 0 := by decide
                        have ar239 := rng32 ln
                        have ar240 : (0 : Int32).toInt < ln.toInt := Int32.lt_iff_toInt_lt.mp hc1_156
                        have ar241 : (1 : Int32).toInt = 1 := by decide
                        have ar242 : (1 : Int32).toInt < ln.toInt := Int32.lt_iff_toInt_lt.mp hc15_173
                        have ar243 : (2 : Int32).toInt = 2 := by decide
                        have ar244 : (2 : Int32).toInt < ln.toInt := Int32.lt_iff_toInt_lt.mp hc29_194
                        have ar245 : (3 : Int32).toInt = 3 := by decide
                        have ar246 : (3 : Int32).toInt < ln.toInt := Int32.lt_iff_toInt_lt.mp hc43_219
                        omega)]
                      exact hc52_235⟩
                  obtain ⟨fs, hr, hrun, hended, hW, hsame⟩ := X0.leave (v := some (.int (1 : Int32))) (fun h => by rw [Bd.returns] at h; cases h)
                  refine ⟨_, _, k236 _ (retN X0 hx (t := .boolean) Bd.returns (by simp) (hb hby d5_60) hr), hrun, hended, _, _, rfl, ?_, ⟨_, rfl⟩, hW, hsame.mono (by decide) (by decide)⟩
                  show Q5 Z ma hd0 ln x fm H q h0 n0 _ s₁.heap _
                  rw [e0]
                  exact ⟨(by rw [if_pos hm237]), N0, rfl⟩
                · have k247 : ∀ tg_, Steps p.tables e below (s₁.setTop (mkF m 60 #[.val (.ref ma), .val (.int hd0), .val (.int ln), .val (.int x)] [(.int (0 : Int32))])) tg_ → Steps p.tables e below (s₁.setTop (entryFrame m #[(.ref ma), (.int hd0), (.int ln), (.int x)] 4)) tg_ := by
                    intro tg_ kt
                    refine k234 tg_ ?_
                    refine XS.icmpYes X0.here hx rfl (pc0 := 52) (pc' := 59) rfl (hb hby d5_52) rfl (feq hc52_235).2 (by decide) (by decide) ?_
                    show Steps p.tables e below (s₁.setTop (mkF m 59 #[.val (.ref ma), .val (.int hd0), .val (.int ln), .val (.int x)] [])) _
                    refine XS.iconst X0.here hx rfl (hb hby d5_59) ?_
                    show Steps p.tables e below (s₁.setTop (mkF m 60 #[.val (.ref ma), .val (.int hd0), .val (.int ln), .val (.int x)] [(.int (0 : Int32))])) _
                    exact kt
                  have hm248 : ¬ x ∈ q := fun hx => by
                    obtain ⟨j, hj, e⟩ := own_memD.mp hx
                    rw [← hq j hj] at e
                    have ar249 : (0 : Int32).toInt = 0 := by decide
                    have ar250 := rng32 ln
                    have ar251 : (0 : Int32).toInt < ln.toInt := Int32.lt_iff_toInt_lt.mp hc1_156
                    have ar252 : (1 : Int32).toInt = 1 := by decide
                    have ar253 : (1 : Int32).toInt < ln.toInt := Int32.lt_iff_toInt_lt.mp hc15_173
                    have ar254 : (2 : Int32).toInt = 2 := by decide
                    have ar255 : (2 : Int32).toInt < ln.toInt := Int32.lt_iff_toInt_lt.mp hc29_194
                    have ar256 : (3 : Int32).toInt = 3 := by decide
                    have ar257 : (3 : Int32).toInt < ln.toInt := Int32.lt_iff_toInt_lt.mp hc43_219
                    have hj4 : j = 0 ∨ j = 1 ∨ j = 2 ∨ j = 3 := by omega
                    rcases hj4 with rfl | rfl | rfl | rfl
                    · exact hc10_166 e
                    · exact hc24_185 e
                    · exact hc38_208 e
                    · exact hc52_235 e
                  obtain ⟨fs, hr, hrun, hended, hW, hsame⟩ := X0.leave (v := some (.int (0 : Int32))) (fun h => by rw [Bd.returns] at h; cases h)
                  refine ⟨_, _, k247 _ (retN X0 hx (t := .boolean) Bd.returns (by simp) (hb hby d5_60) hr), hrun, hended, _, _, rfl, ?_, ⟨_, rfl⟩, hW, hsame.mono (by decide) (by decide)⟩
                  show Q5 Z ma hd0 ln x fm H q h0 n0 _ s₁.heap _
                  rw [e0]
                  exact ⟨(by rw [if_neg hm248]), N0, rfl⟩
              · have k258 : ∀ tg_, Steps p.tables e below (s₁.setTop (mkF m 60 #[.val (.ref ma), .val (.int hd0), .val (.int ln), .val (.int x)] [(.int (0 : Int32))])) tg_ → Steps p.tables e below (s₁.setTop (entryFrame m #[(.ref ma), (.int hd0), (.int ln), (.int x)] 4)) tg_ := by
                  intro tg_ kt
                  refine k218 tg_ ?_
                  refine XS.icmpYes X0.here hx rfl (pc0 := 43) (pc' := 59) rfl (hb hby d5_43) rfl (flt hc43_219).2.2.2 (by decide) (by decide) ?_
                  show Steps p.tables e below (s₁.setTop (mkF m 59 #[.val (.ref ma), .val (.int hd0), .val (.int ln), .val (.int x)] [])) _
                  refine XS.iconst X0.here hx rfl (hb hby d5_59) ?_
                  show Steps p.tables e below (s₁.setTop (mkF m 60 #[.val (.ref ma), .val (.int hd0), .val (.int ln), .val (.int x)] [(.int (0 : Int32))])) _
                  exact kt
                have hm259 : ¬ x ∈ q := fun hx => by
                  obtain ⟨j, hj, e⟩ := own_memD.mp hx
                  rw [← hq j hj] at e
                  have ar260 : (0 : Int32).toInt = 0 := by decide
                  have ar261 := rng32 ln
                  have ar262 : (0 : Int32).toInt < ln.toInt := Int32.lt_iff_toInt_lt.mp hc1_156
                  have ar263 : (1 : Int32).toInt = 1 := by decide
                  have ar264 : (1 : Int32).toInt < ln.toInt := Int32.lt_iff_toInt_lt.mp hc15_173
                  have ar265 : (2 : Int32).toInt = 2 := by decide
                  have ar266 : (2 : Int32).toInt < ln.toInt := Int32.lt_iff_toInt_lt.mp hc29_194
                  have ar267 : (3 : Int32).toInt = 3 := by decide
                  have ar268 : ¬ ((3 : Int32).toInt < ln.toInt) := fun qq_ => hc43_219 (Int32.lt_iff_toInt_lt.mpr qq_)
                  have hj4 : j = 0 ∨ j = 1 ∨ j = 2 ∨ j = 3 := by omega
                  rcases hj4 with rfl | rfl | rfl | rfl
                  · exact hc10_166 e
                  · exact hc24_185 e
                  · exact hc38_208 e
                  · omega
                obtain ⟨fs, hr, hrun, hended, hW, hsame⟩ := X0.leave (v := some (.int (0 : Int32))) (fun h => by rw [Bd.returns] at h; cases h)
                refine ⟨_, _, k258 _ (retN X0 hx (t := .boolean) Bd.returns (by simp) (hb hby d5_60) hr), hrun, hended, _, _, rfl, ?_, ⟨_, rfl⟩, hW, hsame.mono (by decide) (by decide)⟩
                show Q5 Z ma hd0 ln x fm H q h0 n0 _ s₁.heap _
                rw [e0]
                exact ⟨(by rw [if_neg hm259]), N0, rfl⟩
          · have k269 : ∀ tg_, Steps p.tables e below (s₁.setTop (mkF m 43 #[.val (.ref ma), .val (.int hd0), .val (.int ln), .val (.int x)] [(.int (3 : Int32)), (.int ln)])) tg_ → Steps p.tables e below (s₁.setTop (entryFrame m #[(.ref ma), (.int hd0), (.int ln), (.int x)] 4)) tg_ := by
              intro tg_ kt
              refine k193 tg_ ?_
              refine XS.icmpYes X0.here hx rfl (pc0 := 29) (pc' := 41) rfl (hb hby d5_29) rfl (flt hc29_194).2.2.2 (by decide) (by decide) ?_
              show Steps p.tables e below (s₁.setTop (mkF m 41 #[.val (.ref ma), .val (.int hd0), .val (.int ln), .val (.int x)] [])) _
              refine XS.iloadN X0.here hx rfl (hb hby d5_41) rfl ?_
              show Steps p.tables e below (s₁.setTop (mkF m 42 #[.val (.ref ma), .val (.int hd0), .val (.int ln), .val (.int x)] [(.int ln)])) _
              refine XS.iconst X0.here hx rfl (hb hby d5_42) ?_
              show Steps p.tables e below (s₁.setTop (mkF m 43 #[.val (.ref ma), .val (.int hd0), .val (.int ln), .val (.int x)] [(.int (3 : Int32)), (.int ln)])) _
              exact kt
            by_cases hc43_270 : (3 : Int32) < ln
            · have hj271 : ((5 : Int32) + hd0).toInt = ((2 + H + 3 : Nat) : Int) := by
                have ar272 : (5 : Int32).toInt = 5 := by decide
                have ar273 := rng32 hd0
                have ar274 := rng32 ((5 : Int32) + hd0)
                first | have ar275 : ((5 : Int32) + hd0).toInt = 5 + hd0.toInt := (by have qw := c_iadd (5 : Int32) hd0; omega) | (have ar275 := c_iadd (5 : Int32) hd0; skip)
                have ar276 := rng32 ln
                have ar277 : (0 : Int32).toInt = 0 := by decide
                have ar278 : (0 : Int32).toInt < ln.toInt := Int32.lt_iff_toInt_lt.mp hc1_156
                have ar279 : (1 : Int32).toInt = 1 := by decide
                have ar280 : (1 : Int32).toInt < ln.toInt := Int32.lt_iff_toInt_lt.mp hc15_173
                have ar281 : (2 : Int32).toInt = 2 := by decide
                have ar282 : ¬ ((2 : Int32).toInt < ln.toInt) := fun qq_ => hc29_194 (Int32.lt_iff_toInt_lt.mpr qq_)
                have ar283 : (3 : Int32).toInt = 3 := by decide
                have ar284 : (3 : Int32).toInt < ln.toInt := Int32.lt_iff_toInt_lt.mp hc43_270
                omega
              have hl271 : 2 + H + 3 < 16 := by
                have ar272 : (5 : Int32).toInt = 5 := by decide
                have ar273 := rng32 hd0
                have ar274 := rng32 ((5 : Int32) + hd0)
                first | have ar275 : ((5 : Int32) + hd0).toInt = 5 + hd0.toInt := (by have qw := c_iadd (5 : Int32) hd0; omega) | (have ar275 := c_iadd (5 : Int32) hd0; skip)
                have ar276 := rng32 ln
                have ar277 : (0 : Int32).toInt = 0 := by decide
                have ar278 : (0 : Int32).toInt < ln.toInt := Int32.lt_iff_toInt_lt.mp hc1_156
                have ar279 : (1 : Int32).toInt = 1 := by decide
                have ar280 : (1 : Int32).toInt < ln.toInt := Int32.lt_iff_toInt_lt.mp hc15_173
                have ar281 : (2 : Int32).toInt = 2 := by decide
                have ar282 : ¬ ((2 : Int32).toInt < ln.toInt) := fun qq_ => hc29_194 (Int32.lt_iff_toInt_lt.mpr qq_)
                have ar283 : (3 : Int32).toInt = 3 := by decide
                have ar284 : (3 : Int32).toInt < ln.toInt := Int32.lt_iff_toInt_lt.mp hc43_270
                omega
              have k285 : ∀ tg_, Steps p.tables e below (s₁.setTop (mkF m 52 #[.val (.ref ma), .val (.int hd0), .val (.int ln), .val (.int x)] [(.int x), (.int (fm (2 + H + 3)))])) tg_ → Steps p.tables e below (s₁.setTop (entryFrame m #[(.ref ma), (.int hd0), (.int ln), (.int x)] 4)) tg_ := by
                intro tg_ kt
                refine k269 tg_ ?_
                refine XS.icmpNo X0.here hx rfl (hb hby d5_43) rfl (tlt hc43_270).2.2.2 ?_
                show Steps p.tables e below (s₁.setTop (mkF m 46 #[.val (.ref ma), .val (.int hd0), .val (.int ln), .val (.int x)] [])) _
                refine XS.aloadN X0.here hx rfl (hb hby d5_46) rfl rfl ?_
                show Steps p.tables e below (s₁.setTop (mkF m 47 #[.val (.ref ma), .val (.int hd0), .val (.int ln), .val (.int x)] [(.ref ma)])) _
                refine XS.iconst X0.here hx rfl (hb hby d5_47) ?_
                show Steps p.tables e below (s₁.setTop (mkF m 48 #[.val (.ref ma), .val (.int hd0), .val (.int ln), .val (.int x)] [(.int (5 : Int32)), (.ref ma)])) _
                refine XS.iloadN X0.here hx rfl (hb hby d5_48) rfl ?_
                show Steps p.tables e below (s₁.setTop (mkF m 49 #[.val (.ref ma), .val (.int hd0), .val (.int ln), .val (.int x)] [(.int hd0), (.int (5 : Int32)), (.ref ma)])) _
                refine XS.iadd X0.here hx rfl (hb hby d5_49) rfl ?_
                show Steps p.tables e below (s₁.setTop (mkF m 50 #[.val (.ref ma), .val (.int hd0), .val (.int ln), .val (.int x)] [(.int ((5 : Int32) + hd0)), (.ref ma)])) _
                refine own_ldI X0 hx hZ e0 V_ma (i := (2 + H + 3)) hj271 hl271 rfl (g := (mkF m 50 #[.val (.ref ma), .val (.int hd0), .val (.int ln), .val (.int x)] [(.int ((5 : Int32) + hd0)), (.ref ma)])) rfl rfl (hb hby d5_50) _ ?_
                show Steps p.tables e below (s₁.setTop (mkF m 51 #[.val (.ref ma), .val (.int hd0), .val (.int ln), .val (.int x)] [(.int (fm (2 + H + 3)))])) _
                refine XS.iloadN X0.here hx rfl (hb hby d5_51) rfl ?_
                show Steps p.tables e below (s₁.setTop (mkF m 52 #[.val (.ref ma), .val (.int hd0), .val (.int ln), .val (.int x)] [(.int x), (.int (fm (2 + H + 3)))])) _
                exact kt
              by_cases hc52_286 : (fm (2 + H + 3)) = x
              · have k287 : ∀ tg_, Steps p.tables e below (s₁.setTop (mkF m 60 #[.val (.ref ma), .val (.int hd0), .val (.int ln), .val (.int x)] [(.int (1 : Int32))])) tg_ → Steps p.tables e below (s₁.setTop (entryFrame m #[(.ref ma), (.int hd0), (.int ln), (.int x)] 4)) tg_ := by
                  intro tg_ kt
                  refine k285 tg_ ?_
                  refine XS.icmpNo X0.here hx rfl (hb hby d5_52) rfl (teq hc52_286).2 ?_
                  show Steps p.tables e below (s₁.setTop (mkF m 55 #[.val (.ref ma), .val (.int hd0), .val (.int ln), .val (.int x)] [])) _
                  refine XS.iconst X0.here hx rfl (hb hby d5_55) ?_
                  show Steps p.tables e below (s₁.setTop (mkF m 56 #[.val (.ref ma), .val (.int hd0), .val (.int ln), .val (.int x)] [(.int (1 : Int32))])) _
                  refine XS.goto X0.here hx rfl (pc0 := 56) (pc' := 60) rfl (hb hby d5_56) (by decide) (by decide) ?_
                  show Steps p.tables e below (s₁.setTop (mkF m 60 #[.val (.ref ma), .val (.int hd0), .val (.int ln), .val (.int x)] [(.int (1 : Int32))])) _
                  exact kt
                have hm288 : x ∈ q := own_memD.mpr ⟨3, by
                    have ar289 : (0 : Int32).toInt = 0 := by decide
                    have ar290 := rng32 ln
                    have ar291 : (0 : Int32).toInt < ln.toInt := Int32.lt_iff_toInt_lt.mp hc1_156
                    have ar292 : (1 : Int32).toInt = 1 := by decide
                    have ar293 : (1 : Int32).toInt < ln.toInt := Int32.lt_iff_toInt_lt.mp hc15_173
                    have ar294 : (2 : Int32).toInt = 2 := by decide
                    have ar295 : ¬ ((2 : Int32).toInt < ln.toInt) := fun qq_ => hc29_194 (Int32.lt_iff_toInt_lt.mpr qq_)
                    have ar296 : (3 : Int32).toInt = 3 := by decide
                    have ar297 : (3 : Int32).toInt < ln.toInt := Int32.lt_iff_toInt_lt.mp hc43_270
                    omega, by
                    rw [← hq 3 (by
                      have ar289 : (0 : Int32).toInt = 0 := by decide
                      have ar290 := rng32 ln
                      have ar291 : (0 : Int32).toInt < ln.toInt := Int32.lt_iff_toInt_lt.mp hc1_156
                      have ar292 : (1 : Int32).toInt = 1 := by decide
                      have ar293 : (1 : Int32).toInt < ln.toInt := Int32.lt_iff_toInt_lt.mp hc15_173
                      have ar294 : (2 : Int32).toInt = 2 := by decide
                      have ar295 : ¬ ((2 : Int32).toInt < ln.toInt) := fun qq_ => hc29_194 (Int32.lt_iff_toInt_lt.mpr qq_)
                      have ar296 : (3 : Int32).toInt = 3 := by decide
                      have ar297 : (3 : Int32).toInt < ln.toInt := Int32.lt_iff_toInt_lt.mp hc43_270
                      omega)]
                    exact hc52_286⟩
                obtain ⟨fs, hr, hrun, hended, hW, hsame⟩ := X0.leave (v := some (.int (1 : Int32))) (fun h => by rw [Bd.returns] at h; cases h)
                refine ⟨_, _, k287 _ (retN X0 hx (t := .boolean) Bd.returns (by simp) (hb hby d5_60) hr), hrun, hended, _, _, rfl, ?_, ⟨_, rfl⟩, hW, hsame.mono (by decide) (by decide)⟩
                show Q5 Z ma hd0 ln x fm H q h0 n0 _ s₁.heap _
                rw [e0]
                exact ⟨(by rw [if_pos hm288]), N0, rfl⟩
              · have k298 : ∀ tg_, Steps p.tables e below (s₁.setTop (mkF m 60 #[.val (.ref ma), .val (.int hd0), .val (.int ln), .val (.int x)] [(.int (0 : Int32))])) tg_ → Steps p.tables e below (s₁.setTop (entryFrame m #[(.ref ma), (.int hd0), (.int ln), (.int x)] 4)) tg_ := by
                  intro tg_ kt
                  refine k285 tg_ ?_
                  refine XS.icmpYes X0.here hx rfl (pc0 := 52) (pc' := 59) rfl (hb hby d5_52) rfl (feq hc52_286).2 (by decide) (by decide) ?_
                  show Steps p.tables e below (s₁.setTop (mkF m 59 #[.val (.ref ma), .val (.int hd0), .val (.int ln), .val (.int x)] [])) _
                  refine XS.iconst X0.here hx rfl (hb hby d5_59) ?_
                  show Steps p.tables e below (s₁.setTop (mkF m 60 #[.val (.ref ma), .val (.int hd0), .val (.int ln), .val (.int x)] [(.int (0 : Int32))])) _
                  exact kt
                have hm299 : ¬ x ∈ q := fun hx => by
                  obtain ⟨j, hj, e⟩ := own_memD.mp hx
                  rw [← hq j hj] at e
                  have ar300 : (0 : Int32).toInt = 0 := by decide
                  have ar301 := rng32 ln
                  have ar302 : (0 : Int32).toInt < ln.toInt := Int32.lt_iff_toInt_lt.mp hc1_156
                  have ar303 : (1 : Int32).toInt = 1 := by decide
                  have ar304 : (1 : Int32).toInt < ln.toInt := Int32.lt_iff_toInt_lt.mp hc15_173
                  have ar305 : (2 : Int32).toInt = 2 := by decide
                  have ar306 : ¬ ((2 : Int32).toInt < ln.toInt) := fun qq_ => hc29_194 (Int32.lt_iff_toInt_lt.mpr qq_)
                  have ar307 : (3 : Int32).toInt = 3 := by decide
                  have ar308 : (3 : Int32).toInt < ln.toInt := Int32.lt_iff_toInt_lt.mp hc43_270
                  have hj4 : j = 0 ∨ j = 1 ∨ j = 2 ∨ j = 3 := by omega
                  rcases hj4 with rfl | rfl | rfl | rfl
                  · exact hc10_166 e
                  · exact hc24_185 e
                  · omega
                  · exact hc52_286 e
                obtain ⟨fs, hr, hrun, hended, hW, hsame⟩ := X0.leave (v := some (.int (0 : Int32))) (fun h => by rw [Bd.returns] at h; cases h)
                refine ⟨_, _, k298 _ (retN X0 hx (t := .boolean) Bd.returns (by simp) (hb hby d5_60) hr), hrun, hended, _, _, rfl, ?_, ⟨_, rfl⟩, hW, hsame.mono (by decide) (by decide)⟩
                show Q5 Z ma hd0 ln x fm H q h0 n0 _ s₁.heap _
                rw [e0]
                exact ⟨(by rw [if_neg hm299]), N0, rfl⟩
            · have k309 : ∀ tg_, Steps p.tables e below (s₁.setTop (mkF m 60 #[.val (.ref ma), .val (.int hd0), .val (.int ln), .val (.int x)] [(.int (0 : Int32))])) tg_ → Steps p.tables e below (s₁.setTop (entryFrame m #[(.ref ma), (.int hd0), (.int ln), (.int x)] 4)) tg_ := by
                intro tg_ kt
                refine k269 tg_ ?_
                refine XS.icmpYes X0.here hx rfl (pc0 := 43) (pc' := 59) rfl (hb hby d5_43) rfl (flt hc43_270).2.2.2 (by decide) (by decide) ?_
                show Steps p.tables e below (s₁.setTop (mkF m 59 #[.val (.ref ma), .val (.int hd0), .val (.int ln), .val (.int x)] [])) _
                refine XS.iconst X0.here hx rfl (hb hby d5_59) ?_
                show Steps p.tables e below (s₁.setTop (mkF m 60 #[.val (.ref ma), .val (.int hd0), .val (.int ln), .val (.int x)] [(.int (0 : Int32))])) _
                exact kt
              have hm310 : ¬ x ∈ q := fun hx => by
                obtain ⟨j, hj, e⟩ := own_memD.mp hx
                rw [← hq j hj] at e
                have ar311 : (0 : Int32).toInt = 0 := by decide
                have ar312 := rng32 ln
                have ar313 : (0 : Int32).toInt < ln.toInt := Int32.lt_iff_toInt_lt.mp hc1_156
                have ar314 : (1 : Int32).toInt = 1 := by decide
                have ar315 : (1 : Int32).toInt < ln.toInt := Int32.lt_iff_toInt_lt.mp hc15_173
                have ar316 : (2 : Int32).toInt = 2 := by decide
                have ar317 : ¬ ((2 : Int32).toInt < ln.toInt) := fun qq_ => hc29_194 (Int32.lt_iff_toInt_lt.mpr qq_)
                have ar318 : (3 : Int32).toInt = 3 := by decide
                have ar319 : ¬ ((3 : Int32).toInt < ln.toInt) := fun qq_ => hc43_270 (Int32.lt_iff_toInt_lt.mpr qq_)
                have hj4 : j = 0 ∨ j = 1 ∨ j = 2 ∨ j = 3 := by omega
                rcases hj4 with rfl | rfl | rfl | rfl
                · exact hc10_166 e
                · exact hc24_185 e
                · omega
                · omega
              obtain ⟨fs, hr, hrun, hended, hW, hsame⟩ := X0.leave (v := some (.int (0 : Int32))) (fun h => by rw [Bd.returns] at h; cases h)
              refine ⟨_, _, k309 _ (retN X0 hx (t := .boolean) Bd.returns (by simp) (hb hby d5_60) hr), hrun, hended, _, _, rfl, ?_, ⟨_, rfl⟩, hW, hsame.mono (by decide) (by decide)⟩
              show Q5 Z ma hd0 ln x fm H q h0 n0 _ s₁.heap _
              rw [e0]
              exact ⟨(by rw [if_neg hm310]), N0, rfl⟩
      · have k320 : ∀ tg_, Steps p.tables e below (s₁.setTop (mkF m 29 #[.val (.ref ma), .val (.int hd0), .val (.int ln), .val (.int x)] [(.int (2 : Int32)), (.int ln)])) tg_ → Steps p.tables e below (s₁.setTop (entryFrame m #[(.ref ma), (.int hd0), (.int ln), (.int x)] 4)) tg_ := by
          intro tg_ kt
          refine k172 tg_ ?_
          refine XS.icmpYes X0.here hx rfl (pc0 := 15) (pc' := 27) rfl (hb hby d5_15) rfl (flt hc15_173).2.2.2 (by decide) (by decide) ?_
          show Steps p.tables e below (s₁.setTop (mkF m 27 #[.val (.ref ma), .val (.int hd0), .val (.int ln), .val (.int x)] [])) _
          refine XS.iloadN X0.here hx rfl (hb hby d5_27) rfl ?_
          show Steps p.tables e below (s₁.setTop (mkF m 28 #[.val (.ref ma), .val (.int hd0), .val (.int ln), .val (.int x)] [(.int ln)])) _
          refine XS.iconst X0.here hx rfl (hb hby d5_28) ?_
          show Steps p.tables e below (s₁.setTop (mkF m 29 #[.val (.ref ma), .val (.int hd0), .val (.int ln), .val (.int x)] [(.int (2 : Int32)), (.int ln)])) _
          exact kt
        by_cases hc29_321 : (2 : Int32) < ln
        · have hj322 : ((4 : Int32) + hd0).toInt = ((2 + H + 2 : Nat) : Int) := by
            have ar323 : (4 : Int32).toInt = 4 := by decide
            have ar324 := rng32 hd0
            have ar325 := rng32 ((4 : Int32) + hd0)
            first | have ar326 : ((4 : Int32) + hd0).toInt = 4 + hd0.toInt := (by have qw := c_iadd (4 : Int32) hd0; omega) | (have ar326 := c_iadd (4 : Int32) hd0; skip)
            have ar327 := rng32 ln
            have ar328 : (0 : Int32).toInt = 0 := by decide
            have ar329 : (0 : Int32).toInt < ln.toInt := Int32.lt_iff_toInt_lt.mp hc1_156
            have ar330 : (1 : Int32).toInt = 1 := by decide
            have ar331 : ¬ ((1 : Int32).toInt < ln.toInt) := fun qq_ => hc15_173 (Int32.lt_iff_toInt_lt.mpr qq_)
            have ar332 : (2 : Int32).toInt = 2 := by decide
            have ar333 : (2 : Int32).toInt < ln.toInt := Int32.lt_iff_toInt_lt.mp hc29_321
            omega
          have hl322 : 2 + H + 2 < 16 := by
            have ar323 : (4 : Int32).toInt = 4 := by decide
            have ar324 := rng32 hd0
            have ar325 := rng32 ((4 : Int32) + hd0)
            first | have ar326 : ((4 : Int32) + hd0).toInt = 4 + hd0.toInt := (by have qw := c_iadd (4 : Int32) hd0; omega) | (have ar326 := c_iadd (4 : Int32) hd0; skip)
            have ar327 := rng32 ln
            have ar328 : (0 : Int32).toInt = 0 := by decide
            have ar329 : (0 : Int32).toInt < ln.toInt := Int32.lt_iff_toInt_lt.mp hc1_156
            have ar330 : (1 : Int32).toInt = 1 := by decide
            have ar331 : ¬ ((1 : Int32).toInt < ln.toInt) := fun qq_ => hc15_173 (Int32.lt_iff_toInt_lt.mpr qq_)
            have ar332 : (2 : Int32).toInt = 2 := by decide
            have ar333 : (2 : Int32).toInt < ln.toInt := Int32.lt_iff_toInt_lt.mp hc29_321
            omega
          have k334 : ∀ tg_, Steps p.tables e below (s₁.setTop (mkF m 38 #[.val (.ref ma), .val (.int hd0), .val (.int ln), .val (.int x)] [(.int x), (.int (fm (2 + H + 2)))])) tg_ → Steps p.tables e below (s₁.setTop (entryFrame m #[(.ref ma), (.int hd0), (.int ln), (.int x)] 4)) tg_ := by
            intro tg_ kt
            refine k320 tg_ ?_
            refine XS.icmpNo X0.here hx rfl (hb hby d5_29) rfl (tlt hc29_321).2.2.2 ?_
            show Steps p.tables e below (s₁.setTop (mkF m 32 #[.val (.ref ma), .val (.int hd0), .val (.int ln), .val (.int x)] [])) _
            refine XS.aloadN X0.here hx rfl (hb hby d5_32) rfl rfl ?_
            show Steps p.tables e below (s₁.setTop (mkF m 33 #[.val (.ref ma), .val (.int hd0), .val (.int ln), .val (.int x)] [(.ref ma)])) _
            refine XS.iconst X0.here hx rfl (hb hby d5_33) ?_
            show Steps p.tables e below (s₁.setTop (mkF m 34 #[.val (.ref ma), .val (.int hd0), .val (.int ln), .val (.int x)] [(.int (4 : Int32)), (.ref ma)])) _
            refine XS.iloadN X0.here hx rfl (hb hby d5_34) rfl ?_
            show Steps p.tables e below (s₁.setTop (mkF m 35 #[.val (.ref ma), .val (.int hd0), .val (.int ln), .val (.int x)] [(.int hd0), (.int (4 : Int32)), (.ref ma)])) _
            refine XS.iadd X0.here hx rfl (hb hby d5_35) rfl ?_
            show Steps p.tables e below (s₁.setTop (mkF m 36 #[.val (.ref ma), .val (.int hd0), .val (.int ln), .val (.int x)] [(.int ((4 : Int32) + hd0)), (.ref ma)])) _
            refine own_ldI X0 hx hZ e0 V_ma (i := (2 + H + 2)) hj322 hl322 rfl (g := (mkF m 36 #[.val (.ref ma), .val (.int hd0), .val (.int ln), .val (.int x)] [(.int ((4 : Int32) + hd0)), (.ref ma)])) rfl rfl (hb hby d5_36) _ ?_
            show Steps p.tables e below (s₁.setTop (mkF m 37 #[.val (.ref ma), .val (.int hd0), .val (.int ln), .val (.int x)] [(.int (fm (2 + H + 2)))])) _
            refine XS.iloadN X0.here hx rfl (hb hby d5_37) rfl ?_
            show Steps p.tables e below (s₁.setTop (mkF m 38 #[.val (.ref ma), .val (.int hd0), .val (.int ln), .val (.int x)] [(.int x), (.int (fm (2 + H + 2)))])) _
            exact kt
          by_cases hc38_335 : (fm (2 + H + 2)) = x
          · have k336 : ∀ tg_, Steps p.tables e below (s₁.setTop (mkF m 60 #[.val (.ref ma), .val (.int hd0), .val (.int ln), .val (.int x)] [(.int (1 : Int32))])) tg_ → Steps p.tables e below (s₁.setTop (entryFrame m #[(.ref ma), (.int hd0), (.int ln), (.int x)] 4)) tg_ := by
              intro tg_ kt
              refine k334 tg_ ?_
              refine XS.icmpYes X0.here hx rfl (pc0 := 38) (pc' := 55) rfl (hb hby d5_38) rfl (teq hc38_335).1 (by decide) (by decide) ?_
              show Steps p.tables e below (s₁.setTop (mkF m 55 #[.val (.ref ma), .val (.int hd0), .val (.int ln), .val (.int x)] [])) _
              refine XS.iconst X0.here hx rfl (hb hby d5_55) ?_
              show Steps p.tables e below (s₁.setTop (mkF m 56 #[.val (.ref ma), .val (.int hd0), .val (.int ln), .val (.int x)] [(.int (1 : Int32))])) _
              refine XS.goto X0.here hx rfl (pc0 := 56) (pc' := 60) rfl (hb hby d5_56) (by decide) (by decide) ?_
              show Steps p.tables e below (s₁.setTop (mkF m 60 #[.val (.ref ma), .val (.int hd0), .val (.int ln), .val (.int x)] [(.int (1 : Int32))])) _
              exact kt
            have hm337 : x ∈ q := own_memD.mpr ⟨2, by
                have ar338 : (0 : Int32).toInt = 0 := by decide
                have ar339 := rng32 ln
                have ar340 : (0 : Int32).toInt < ln.toInt := Int32.lt_iff_toInt_lt.mp hc1_156
                have ar341 : (1 : Int32).toInt = 1 := by decide
                have ar342 : ¬ ((1 : Int32).toInt < ln.toInt) := fun qq_ => hc15_173 (Int32.lt_iff_toInt_lt.mpr qq_)
                have ar343 : (2 : Int32).toInt = 2 := by decide
                have ar344 : (2 : Int32).toInt < ln.toInt := Int32.lt_iff_toInt_lt.mp hc29_321
                omega, by
                rw [← hq 2 (by
                  have ar338 : (0 : Int32).toInt = 0 := by decide
                  have ar339 := rng32 ln
                  have ar340 : (0 : Int32).toInt < ln.toInt := Int32.lt_iff_toInt_lt.mp hc1_156
                  have ar341 : (1 : Int32).toInt = 1 := by decide
                  have ar342 : ¬ ((1 : Int32).toInt < ln.toInt) := fun qq_ => hc15_173 (Int32.lt_iff_toInt_lt.mpr qq_)
                  have ar343 : (2 : Int32).toInt = 2 := by decide
                  have ar344 : (2 : Int32).toInt < ln.toInt := Int32.lt_iff_toInt_lt.mp hc29_321
                  omega)]
                exact hc38_335⟩
            obtain ⟨fs, hr, hrun, hended, hW, hsame⟩ := X0.leave (v := some (.int (1 : Int32))) (fun h => by rw [Bd.returns] at h; cases h)
            refine ⟨_, _, k336 _ (retN X0 hx (t := .boolean) Bd.returns (by simp) (hb hby d5_60) hr), hrun, hended, _, _, rfl, ?_, ⟨_, rfl⟩, hW, hsame.mono (by decide) (by decide)⟩
            show Q5 Z ma hd0 ln x fm H q h0 n0 _ s₁.heap _
            rw [e0]
            exact ⟨(by rw [if_pos hm337]), N0, rfl⟩
          · have k345 : ∀ tg_, Steps p.tables e below (s₁.setTop (mkF m 43 #[.val (.ref ma), .val (.int hd0), .val (.int ln), .val (.int x)] [(.int (3 : Int32)), (.int ln)])) tg_ → Steps p.tables e below (s₁.setTop (entryFrame m #[(.ref ma), (.int hd0), (.int ln), (.int x)] 4)) tg_ := by
              intro tg_ kt
              refine k334 tg_ ?_
              refine XS.icmpNo X0.here hx rfl (hb hby d5_38) rfl (feq hc38_335).1 ?_
              show Steps p.tables e below (s₁.setTop (mkF m 41 #[.val (.ref ma), .val (.int hd0), .val (.int ln), .val (.int x)] [])) _
              refine XS.iloadN X0.here hx rfl (hb hby d5_41) rfl ?_
              show Steps p.tables e below (s₁.setTop (mkF m 42 #[.val (.ref ma), .val (.int hd0), .val (.int ln), .val (.int x)] [(.int ln)])) _
              refine XS.iconst X0.here hx rfl (hb hby d5_42) ?_
              show Steps p.tables e below (s₁.setTop (mkF m 43 #[.val (.ref ma), .val (.int hd0), .val (.int ln), .val (.int x)] [(.int (3 : Int32)), (.int ln)])) _
              exact kt
            by_cases hc43_346 : (3 : Int32) < ln
            · have hj347 : ((5 : Int32) + hd0).toInt = ((2 + H + 3 : Nat) : Int) := by
                have ar348 : (5 : Int32).toInt = 5 := by decide
                have ar349 := rng32 hd0
                have ar350 := rng32 ((5 : Int32) + hd0)
                first | have ar351 : ((5 : Int32) + hd0).toInt = 5 + hd0.toInt := (by have qw := c_iadd (5 : Int32) hd0; omega) | (have ar351 := c_iadd (5 : Int32) hd0; skip)
                have ar352 := rng32 ln
                have ar353 : (0 : Int32).toInt = 0 := by decide
                have ar354 : (0 : Int32).toInt < ln.toInt := Int32.lt_iff_toInt_lt.mp hc1_156
                have ar355 : (1 : Int32).toInt = 1 := by decide
                have ar356 : ¬ ((1 : Int32).toInt < ln.toInt) := fun qq_ => hc15_173 (Int32.lt_iff_toInt_lt.mpr qq_)
                have ar357 : (2 : Int32).toInt = 2 := by decide
                have ar358 : (2 : Int32).toInt < ln.toInt := Int32.lt_iff_toInt_lt.mp hc29_321
                have ar359 : (3 : Int32).toInt = 3 := by decide
                have ar360 : (3 : Int32).toInt < ln.toInt := Int32.lt_iff_toInt_lt.mp hc43_346
                omega
              have hl347 : 2 + H + 3 < 16 := by
                have ar348 : (5 : Int32).toInt = 5 := by decide
                have ar349 := rng32 hd0
                have ar350 := rng32 ((5 : Int32) + hd0)
                first | have ar351 : ((5 : Int32) + hd0).toInt = 5 + hd0.toInt := (by have qw := c_iadd (5 : Int32) hd0; omega) | (have ar351 := c_iadd (5 : Int32) hd0; skip)
                have ar352 := rng32 ln
                have ar353 : (0 : Int32).toInt = 0 := by decide
                have ar354 : (0 : Int32).toInt < ln.toInt := Int32.lt_iff_toInt_lt.mp hc1_156
                have ar355 : (1 : Int32).toInt = 1 := by decide
                have ar356 : ¬ ((1 : Int32).toInt < ln.toInt) := fun qq_ => hc15_173 (Int32.lt_iff_toInt_lt.mpr qq_)
                have ar357 : (2 : Int32).toInt = 2 := by decide
                have ar358 : (2 : Int32).toInt < ln.toInt := Int32.lt_iff_toInt_lt.mp hc29_321
                have ar359 : (3 : Int32).toInt = 3 := by decide
                have ar360 : (3 : Int32).toInt < ln.toInt := Int32.lt_iff_toInt_lt.mp hc43_346
                omega
              have k361 : ∀ tg_, Steps p.tables e below (s₁.setTop (mkF m 52 #[.val (.ref ma), .val (.int hd0), .val (.int ln), .val (.int x)] [(.int x), (.int (fm (2 + H + 3)))])) tg_ → Steps p.tables e below (s₁.setTop (entryFrame m #[(.ref ma), (.int hd0), (.int ln), (.int x)] 4)) tg_ := by
                intro tg_ kt
                refine k345 tg_ ?_
                refine XS.icmpNo X0.here hx rfl (hb hby d5_43) rfl (tlt hc43_346).2.2.2 ?_
                show Steps p.tables e below (s₁.setTop (mkF m 46 #[.val (.ref ma), .val (.int hd0), .val (.int ln), .val (.int x)] [])) _
                refine XS.aloadN X0.here hx rfl (hb hby d5_46) rfl rfl ?_
                show Steps p.tables e below (s₁.setTop (mkF m 47 #[.val (.ref ma), .val (.int hd0), .val (.int ln), .val (.int x)] [(.ref ma)])) _
                refine XS.iconst X0.here hx rfl (hb hby d5_47) ?_
                show Steps p.tables e below (s₁.setTop (mkF m 48 #[.val (.ref ma), .val (.int hd0), .val (.int ln), .val (.int x)] [(.int (5 : Int32)), (.ref ma)])) _
                refine XS.iloadN X0.here hx rfl (hb hby d5_48) rfl ?_
                show Steps p.tables e below (s₁.setTop (mkF m 49 #[.val (.ref ma), .val (.int hd0), .val (.int ln), .val (.int x)] [(.int hd0), (.int (5 : Int32)), (.ref ma)])) _
                refine XS.iadd X0.here hx rfl (hb hby d5_49) rfl ?_
                show Steps p.tables e below (s₁.setTop (mkF m 50 #[.val (.ref ma), .val (.int hd0), .val (.int ln), .val (.int x)] [(.int ((5 : Int32) + hd0)), (.ref ma)])) _
                refine own_ldI X0 hx hZ e0 V_ma (i := (2 + H + 3)) hj347 hl347 rfl (g := (mkF m 50 #[.val (.ref ma), .val (.int hd0), .val (.int ln), .val (.int x)] [(.int ((5 : Int32) + hd0)), (.ref ma)])) rfl rfl (hb hby d5_50) _ ?_
                show Steps p.tables e below (s₁.setTop (mkF m 51 #[.val (.ref ma), .val (.int hd0), .val (.int ln), .val (.int x)] [(.int (fm (2 + H + 3)))])) _
                refine XS.iloadN X0.here hx rfl (hb hby d5_51) rfl ?_
                show Steps p.tables e below (s₁.setTop (mkF m 52 #[.val (.ref ma), .val (.int hd0), .val (.int ln), .val (.int x)] [(.int x), (.int (fm (2 + H + 3)))])) _
                exact kt
              by_cases hc52_362 : (fm (2 + H + 3)) = x
              · have k363 : ∀ tg_, Steps p.tables e below (s₁.setTop (mkF m 60 #[.val (.ref ma), .val (.int hd0), .val (.int ln), .val (.int x)] [(.int (1 : Int32))])) tg_ → Steps p.tables e below (s₁.setTop (entryFrame m #[(.ref ma), (.int hd0), (.int ln), (.int x)] 4)) tg_ := by
                  intro tg_ kt
                  refine k361 tg_ ?_
                  refine XS.icmpNo X0.here hx rfl (hb hby d5_52) rfl (teq hc52_362).2 ?_
                  show Steps p.tables e below (s₁.setTop (mkF m 55 #[.val (.ref ma), .val (.int hd0), .val (.int ln), .val (.int x)] [])) _
                  refine XS.iconst X0.here hx rfl (hb hby d5_55) ?_
                  show Steps p.tables e below (s₁.setTop (mkF m 56 #[.val (.ref ma), .val (.int hd0), .val (.int ln), .val (.int x)] [(.int (1 : Int32))])) _
                  refine XS.goto X0.here hx rfl (pc0 := 56) (pc' := 60) rfl (hb hby d5_56) (by decide) (by decide) ?_
                  show Steps p.tables e below (s₁.setTop (mkF m 60 #[.val (.ref ma), .val (.int hd0), .val (.int ln), .val (.int x)] [(.int (1 : Int32))])) _
                  exact kt
                have hm364 : x ∈ q := own_memD.mpr ⟨3, by
                    have ar365 : (0 : Int32).toInt = 0 := by decide
                    have ar366 := rng32 ln
                    have ar367 : (0 : Int32).toInt < ln.toInt := Int32.lt_iff_toInt_lt.mp hc1_156
                    have ar368 : (1 : Int32).toInt = 1 := by decide
                    have ar369 : ¬ ((1 : Int32).toInt < ln.toInt) := fun qq_ => hc15_173 (Int32.lt_iff_toInt_lt.mpr qq_)
                    have ar370 : (2 : Int32).toInt = 2 := by decide
                    have ar371 : (2 : Int32).toInt < ln.toInt := Int32.lt_iff_toInt_lt.mp hc29_321
                    have ar372 : (3 : Int32).toInt = 3 := by decide
                    have ar373 : (3 : Int32).toInt < ln.toInt := Int32.lt_iff_toInt_lt.mp hc43_346
                    omega, by
                    rw [← hq 3 (by
                      have ar365 : (0 : Int32).toInt = 0 := by decide
                      have ar366 := rng32 ln
                      have ar367 : (0 : Int32).toInt < ln.toInt := Int32.lt_iff_toInt_lt.mp hc1_156
                      have ar368 : (1 : Int32).toInt = 1 := by decide
                      have ar369 : ¬ ((1 : Int32).toInt < ln.toInt) := fun qq_ => hc15_173 (Int32.lt_iff_toInt_lt.mpr qq_)
                      have ar370 : (2 : Int32).toInt = 2 := by decide
                      have ar371 : (2 : Int32).toInt < ln.toInt := Int32.lt_iff_toInt_lt.mp hc29_321
                      have ar372 : (3 : Int32).toInt = 3 := by decide
                      have ar373 : (3 : Int32).toInt < ln.toInt := Int32.lt_iff_toInt_lt.mp hc43_346
                      omega)]
                    exact hc52_362⟩
                obtain ⟨fs, hr, hrun, hended, hW, hsame⟩ := X0.leave (v := some (.int (1 : Int32))) (fun h => by rw [Bd.returns] at h; cases h)
                refine ⟨_, _, k363 _ (retN X0 hx (t := .boolean) Bd.returns (by simp) (hb hby d5_60) hr), hrun, hended, _, _, rfl, ?_, ⟨_, rfl⟩, hW, hsame.mono (by decide) (by decide)⟩
                show Q5 Z ma hd0 ln x fm H q h0 n0 _ s₁.heap _
                rw [e0]
                exact ⟨(by rw [if_pos hm364]), N0, rfl⟩
              · have k374 : ∀ tg_, Steps p.tables e below (s₁.setTop (mkF m 60 #[.val (.ref ma), .val (.int hd0), .val (.int ln), .val (.int x)] [(.int (0 : Int32))])) tg_ → Steps p.tables e below (s₁.setTop (entryFrame m #[(.ref ma), (.int hd0), (.int ln), (.int x)] 4)) tg_ := by
                  intro tg_ kt
                  refine k361 tg_ ?_
                  refine XS.icmpYes X0.here hx rfl (pc0 := 52) (pc' := 59) rfl (hb hby d5_52) rfl (feq hc52_362).2 (by decide) (by decide) ?_
                  show Steps p.tables e below (s₁.setTop (mkF m 59 #[.val (.ref ma), .val (.int hd0), .val (.int ln), .val (.int x)] [])) _
                  refine XS.iconst X0.here hx rfl (hb hby d5_59) ?_
                  show Steps p.tables e below (s₁.setTop (mkF m 60 #[.val (.ref ma), .val (.int hd0), .val (.int ln), .val (.int x)] [(.int (0 : Int32))])) _
                  exact kt
                have hm375 : ¬ x ∈ q := fun hx => by
                  obtain ⟨j, hj, e⟩ := own_memD.mp hx
                  rw [← hq j hj] at e
                  have ar376 : (0 : Int32).toInt = 0 := by decide
                  have ar377 := rng32 ln
                  have ar378 : (0 : Int32).toInt < ln.toInt := Int32.lt_iff_toInt_lt.mp hc1_156
                  have ar379 : (1 : Int32).toInt = 1 := by decide
                  have ar380 : ¬ ((1 : Int32).toInt < ln.toInt) := fun qq_ => hc15_173 (Int32.lt_iff_toInt_lt.mpr qq_)
                  have ar381 : (2 : Int32).toInt = 2 := by decide
                  have ar382 : (2 : Int32).toInt < ln.toInt := Int32.lt_iff_toInt_lt.mp hc29_321
                  have ar383 : (3 : Int32).toInt = 3 := by decide
                  have ar384 : (3 : Int32).toInt < ln.toInt := Int32.lt_iff_toInt_lt.mp hc43_346
                  have hj4 : j = 0 ∨ j = 1 ∨ j = 2 ∨ j = 3 := by omega
                  rcases hj4 with rfl | rfl | rfl | rfl
                  · exact hc10_166 e
                  · omega
                  · exact hc38_335 e
                  · exact hc52_362 e
                obtain ⟨fs, hr, hrun, hended, hW, hsame⟩ := X0.leave (v := some (.int (0 : Int32))) (fun h => by rw [Bd.returns] at h; cases h)
                refine ⟨_, _, k374 _ (retN X0 hx (t := .boolean) Bd.returns (by simp) (hb hby d5_60) hr), hrun, hended, _, _, rfl, ?_, ⟨_, rfl⟩, hW, hsame.mono (by decide) (by decide)⟩
                show Q5 Z ma hd0 ln x fm H q h0 n0 _ s₁.heap _
                rw [e0]
                exact ⟨(by rw [if_neg hm375]), N0, rfl⟩
            · have k385 : ∀ tg_, Steps p.tables e below (s₁.setTop (mkF m 60 #[.val (.ref ma), .val (.int hd0), .val (.int ln), .val (.int x)] [(.int (0 : Int32))])) tg_ → Steps p.tables e below (s₁.setTop (entryFrame m #[(.ref ma), (.int hd0), (.int ln), (.int x)] 4)) tg_ := by
                intro tg_ kt
                refine k345 tg_ ?_
                refine XS.icmpYes X0.here hx rfl (pc0 := 43) (pc' := 59) rfl (hb hby d5_43) rfl (flt hc43_346).2.2.2 (by decide) (by decide) ?_
                show Steps p.tables e below (s₁.setTop (mkF m 59 #[.val (.ref ma), .val (.int hd0), .val (.int ln), .val (.int x)] [])) _
                refine XS.iconst X0.here hx rfl (hb hby d5_59) ?_
                show Steps p.tables e below (s₁.setTop (mkF m 60 #[.val (.ref ma), .val (.int hd0), .val (.int ln), .val (.int x)] [(.int (0 : Int32))])) _
                exact kt
              have hm386 : ¬ x ∈ q := fun hx => by
                obtain ⟨j, hj, e⟩ := own_memD.mp hx
                rw [← hq j hj] at e
                have ar387 : (0 : Int32).toInt = 0 := by decide
                have ar388 := rng32 ln
                have ar389 : (0 : Int32).toInt < ln.toInt := Int32.lt_iff_toInt_lt.mp hc1_156
                have ar390 : (1 : Int32).toInt = 1 := by decide
                have ar391 : ¬ ((1 : Int32).toInt < ln.toInt) := fun qq_ => hc15_173 (Int32.lt_iff_toInt_lt.mpr qq_)
                have ar392 : (2 : Int32).toInt = 2 := by decide
                have ar393 : (2 : Int32).toInt < ln.toInt := Int32.lt_iff_toInt_lt.mp hc29_321
                have ar394 : (3 : Int32).toInt = 3 := by decide
                have ar395 : ¬ ((3 : Int32).toInt < ln.toInt) := fun qq_ => hc43_346 (Int32.lt_iff_toInt_lt.mpr qq_)
                have hj4 : j = 0 ∨ j = 1 ∨ j = 2 ∨ j = 3 := by omega
                rcases hj4 with rfl | rfl | rfl | rfl
                · exact hc10_166 e
                · omega
                · exact hc38_335 e
                · omega
              obtain ⟨fs, hr, hrun, hended, hW, hsame⟩ := X0.leave (v := some (.int (0 : Int32))) (fun h => by rw [Bd.returns] at h; cases h)
              refine ⟨_, _, k385 _ (retN X0 hx (t := .boolean) Bd.returns (by simp) (hb hby d5_60) hr), hrun, hended, _, _, rfl, ?_, ⟨_, rfl⟩, hW, hsame.mono (by decide) (by decide)⟩
              show Q5 Z ma hd0 ln x fm H q h0 n0 _ s₁.heap _
              rw [e0]
              exact ⟨(by rw [if_neg hm386]), N0, rfl⟩
        · have k396 : ∀ tg_, Steps p.tables e below (s₁.setTop (mkF m 43 #[.val (.ref ma), .val (.int hd0), .val (.int ln), .val (.int x)] [(.int (3 : Int32)), (.int ln)])) tg_ → Steps p.tables e below (s₁.setTop (entryFrame m #[(.ref ma), (.int hd0), (.int ln), (.int x)] 4)) tg_ := by
            intro tg_ kt
            refine k320 tg_ ?_
            refine XS.icmpYes X0.here hx rfl (pc0 := 29) (pc' := 41) rfl (hb hby d5_29) rfl (flt hc29_321).2.2.2 (by decide) (by decide) ?_
            show Steps p.tables e below (s₁.setTop (mkF m 41 #[.val (.ref ma), .val (.int hd0), .val (.int ln), .val (.int x)] [])) _
            refine XS.iloadN X0.here hx rfl (hb hby d5_41) rfl ?_
            show Steps p.tables e below (s₁.setTop (mkF m 42 #[.val (.ref ma), .val (.int hd0), .val (.int ln), .val (.int x)] [(.int ln)])) _
            refine XS.iconst X0.here hx rfl (hb hby d5_42) ?_
            show Steps p.tables e below (s₁.setTop (mkF m 43 #[.val (.ref ma), .val (.int hd0), .val (.int ln), .val (.int x)] [(.int (3 : Int32)), (.int ln)])) _
            exact kt
          by_cases hc43_397 : (3 : Int32) < ln
          · have hj398 : ((5 : Int32) + hd0).toInt = ((2 + H + 3 : Nat) : Int) := by
              have ar399 : (5 : Int32).toInt = 5 := by decide
              have ar400 := rng32 hd0
              have ar401 := rng32 ((5 : Int32) + hd0)
              first | have ar402 : ((5 : Int32) + hd0).toInt = 5 + hd0.toInt := (by have qw := c_iadd (5 : Int32) hd0; omega) | (have ar402 := c_iadd (5 : Int32) hd0; skip)
              have ar403 := rng32 ln
              have ar404 : (0 : Int32).toInt = 0 := by decide
              have ar405 : (0 : Int32).toInt < ln.toInt := Int32.lt_iff_toInt_lt.mp hc1_156
              have ar406 : (1 : Int32).toInt = 1 := by decide
              have ar407 : ¬ ((1 : Int32).toInt < ln.toInt) := fun qq_ => hc15_173 (Int32.lt_iff_toInt_lt.mpr qq_)
              have ar408 : (2 : Int32).toInt = 2 := by decide
              have ar409 : ¬ ((2 : Int32).toInt < ln.toInt) := fun qq_ => hc29_321 (Int32.lt_iff_toInt_lt.mpr qq_)
              have ar410 : (3 : Int32).toInt = 3 := by decide
              have ar411 : (3 : Int32).toInt < ln.toInt := Int32.lt_iff_toInt_lt.mp hc43_397
              omega
            have hl398 : 2 + H + 3 < 16 := by
              have ar399 : (5 : Int32).toInt = 5 := by decide
              have ar400 := rng32 hd0
              have ar401 := rng32 ((5 : Int32) + hd0)
              first | have ar402 : ((5 : Int32) + hd0).toInt = 5 + hd0.toInt := (by have qw := c_iadd (5 : Int32) hd0; omega) | (have ar402 := c_iadd (5 : Int32) hd0; skip)
              have ar403 := rng32 ln
              have ar404 : (0 : Int32).toInt = 0 := by decide
              have ar405 : (0 : Int32).toInt < ln.toInt := Int32.lt_iff_toInt_lt.mp hc1_156
              have ar406 : (1 : Int32).toInt = 1 := by decide
              have ar407 : ¬ ((1 : Int32).toInt < ln.toInt) := fun qq_ => hc15_173 (Int32.lt_iff_toInt_lt.mpr qq_)
              have ar408 : (2 : Int32).toInt = 2 := by decide
              have ar409 : ¬ ((2 : Int32).toInt < ln.toInt) := fun qq_ => hc29_321 (Int32.lt_iff_toInt_lt.mpr qq_)
              have ar410 : (3 : Int32).toInt = 3 := by decide
              have ar411 : (3 : Int32).toInt < ln.toInt := Int32.lt_iff_toInt_lt.mp hc43_397
              omega
            have k412 : ∀ tg_, Steps p.tables e below (s₁.setTop (mkF m 52 #[.val (.ref ma), .val (.int hd0), .val (.int ln), .val (.int x)] [(.int x), (.int (fm (2 + H + 3)))])) tg_ → Steps p.tables e below (s₁.setTop (entryFrame m #[(.ref ma), (.int hd0), (.int ln), (.int x)] 4)) tg_ := by
              intro tg_ kt
              refine k396 tg_ ?_
              refine XS.icmpNo X0.here hx rfl (hb hby d5_43) rfl (tlt hc43_397).2.2.2 ?_
              show Steps p.tables e below (s₁.setTop (mkF m 46 #[.val (.ref ma), .val (.int hd0), .val (.int ln), .val (.int x)] [])) _
              refine XS.aloadN X0.here hx rfl (hb hby d5_46) rfl rfl ?_
              show Steps p.tables e below (s₁.setTop (mkF m 47 #[.val (.ref ma), .val (.int hd0), .val (.int ln), .val (.int x)] [(.ref ma)])) _
              refine XS.iconst X0.here hx rfl (hb hby d5_47) ?_
              show Steps p.tables e below (s₁.setTop (mkF m 48 #[.val (.ref ma), .val (.int hd0), .val (.int ln), .val (.int x)] [(.int (5 : Int32)), (.ref ma)])) _
              refine XS.iloadN X0.here hx rfl (hb hby d5_48) rfl ?_
              show Steps p.tables e below (s₁.setTop (mkF m 49 #[.val (.ref ma), .val (.int hd0), .val (.int ln), .val (.int x)] [(.int hd0), (.int (5 : Int32)), (.ref ma)])) _
              refine XS.iadd X0.here hx rfl (hb hby d5_49) rfl ?_
              show Steps p.tables e below (s₁.setTop (mkF m 50 #[.val (.ref ma), .val (.int hd0), .val (.int ln), .val (.int x)] [(.int ((5 : Int32) + hd0)), (.ref ma)])) _
              refine own_ldI X0 hx hZ e0 V_ma (i := (2 + H + 3)) hj398 hl398 rfl (g := (mkF m 50 #[.val (.ref ma), .val (.int hd0), .val (.int ln), .val (.int x)] [(.int ((5 : Int32) + hd0)), (.ref ma)])) rfl rfl (hb hby d5_50) _ ?_
              show Steps p.tables e below (s₁.setTop (mkF m 51 #[.val (.ref ma), .val (.int hd0), .val (.int ln), .val (.int x)] [(.int (fm (2 + H + 3)))])) _
              refine XS.iloadN X0.here hx rfl (hb hby d5_51) rfl ?_
              show Steps p.tables e below (s₁.setTop (mkF m 52 #[.val (.ref ma), .val (.int hd0), .val (.int ln), .val (.int x)] [(.int x), (.int (fm (2 + H + 3)))])) _
              exact kt
            by_cases hc52_413 : (fm (2 + H + 3)) = x
            · have k414 : ∀ tg_, Steps p.tables e below (s₁.setTop (mkF m 60 #[.val (.ref ma), .val (.int hd0), .val (.int ln), .val (.int x)] [(.int (1 : Int32))])) tg_ → Steps p.tables e below (s₁.setTop (entryFrame m #[(.ref ma), (.int hd0), (.int ln), (.int x)] 4)) tg_ := by
                intro tg_ kt
                refine k412 tg_ ?_
                refine XS.icmpNo X0.here hx rfl (hb hby d5_52) rfl (teq hc52_413).2 ?_
                show Steps p.tables e below (s₁.setTop (mkF m 55 #[.val (.ref ma), .val (.int hd0), .val (.int ln), .val (.int x)] [])) _
                refine XS.iconst X0.here hx rfl (hb hby d5_55) ?_
                show Steps p.tables e below (s₁.setTop (mkF m 56 #[.val (.ref ma), .val (.int hd0), .val (.int ln), .val (.int x)] [(.int (1 : Int32))])) _
                refine XS.goto X0.here hx rfl (pc0 := 56) (pc' := 60) rfl (hb hby d5_56) (by decide) (by decide) ?_
                show Steps p.tables e below (s₁.setTop (mkF m 60 #[.val (.ref ma), .val (.int hd0), .val (.int ln), .val (.int x)] [(.int (1 : Int32))])) _
                exact kt
              have hm415 : x ∈ q := own_memD.mpr ⟨3, by
                  have ar416 : (0 : Int32).toInt = 0 := by decide
                  have ar417 := rng32 ln
                  have ar418 : (0 : Int32).toInt < ln.toInt := Int32.lt_iff_toInt_lt.mp hc1_156
                  have ar419 : (1 : Int32).toInt = 1 := by decide
                  have ar420 : ¬ ((1 : Int32).toInt < ln.toInt) := fun qq_ => hc15_173 (Int32.lt_iff_toInt_lt.mpr qq_)
                  have ar421 : (2 : Int32).toInt = 2 := by decide
                  have ar422 : ¬ ((2 : Int32).toInt < ln.toInt) := fun qq_ => hc29_321 (Int32.lt_iff_toInt_lt.mpr qq_)
                  have ar423 : (3 : Int32).toInt = 3 := by decide
                  have ar424 : (3 : Int32).toInt < ln.toInt := Int32.lt_iff_toInt_lt.mp hc43_397
                  omega, by
                  rw [← hq 3 (by
                    have ar416 : (0 : Int32).toInt = 0 := by decide
                    have ar417 := rng32 ln
                    have ar418 : (0 : Int32).toInt < ln.toInt := Int32.lt_iff_toInt_lt.mp hc1_156
                    have ar419 : (1 : Int32).toInt = 1 := by decide
                    have ar420 : ¬ ((1 : Int32).toInt < ln.toInt) := fun qq_ => hc15_173 (Int32.lt_iff_toInt_lt.mpr qq_)
                    have ar421 : (2 : Int32).toInt = 2 := by decide
                    have ar422 : ¬ ((2 : Int32).toInt < ln.toInt) := fun qq_ => hc29_321 (Int32.lt_iff_toInt_lt.mpr qq_)
                    have ar423 : (3 : Int32).toInt = 3 := by decide
                    have ar424 : (3 : Int32).toInt < ln.toInt := Int32.lt_iff_toInt_lt.mp hc43_397
                    omega)]
                  exact hc52_413⟩
              obtain ⟨fs, hr, hrun, hended, hW, hsame⟩ := X0.leave (v := some (.int (1 : Int32))) (fun h => by rw [Bd.returns] at h; cases h)
              refine ⟨_, _, k414 _ (retN X0 hx (t := .boolean) Bd.returns (by simp) (hb hby d5_60) hr), hrun, hended, _, _, rfl, ?_, ⟨_, rfl⟩, hW, hsame.mono (by decide) (by decide)⟩
              show Q5 Z ma hd0 ln x fm H q h0 n0 _ s₁.heap _
              rw [e0]
              exact ⟨(by rw [if_pos hm415]), N0, rfl⟩
            · have k425 : ∀ tg_, Steps p.tables e below (s₁.setTop (mkF m 60 #[.val (.ref ma), .val (.int hd0), .val (.int ln), .val (.int x)] [(.int (0 : Int32))])) tg_ → Steps p.tables e below (s₁.setTop (entryFrame m #[(.ref ma), (.int hd0), (.int ln), (.int x)] 4)) tg_ := by
                intro tg_ kt
                refine k412 tg_ ?_
                refine XS.icmpYes X0.here hx rfl (pc0 := 52) (pc' := 59) rfl (hb hby d5_52) rfl (feq hc52_413).2 (by decide) (by decide) ?_
                show Steps p.tables e below (s₁.setTop (mkF m 59 #[.val (.ref ma), .val (.int hd0), .val (.int ln), .val (.int x)] [])) _
                refine XS.iconst X0.here hx rfl (hb hby d5_59) ?_
                show Steps p.tables e below (s₁.setTop (mkF m 60 #[.val (.ref ma), .val (.int hd0), .val (.int ln), .val (.int x)] [(.int (0 : Int32))])) _
                exact kt
              have hm426 : ¬ x ∈ q := fun hx => by
                obtain ⟨j, hj, e⟩ := own_memD.mp hx
                rw [← hq j hj] at e
                have ar427 : (0 : Int32).toInt = 0 := by decide
                have ar428 := rng32 ln
                have ar429 : (0 : Int32).toInt < ln.toInt := Int32.lt_iff_toInt_lt.mp hc1_156
                have ar430 : (1 : Int32).toInt = 1 := by decide
                have ar431 : ¬ ((1 : Int32).toInt < ln.toInt) := fun qq_ => hc15_173 (Int32.lt_iff_toInt_lt.mpr qq_)
                have ar432 : (2 : Int32).toInt = 2 := by decide
                have ar433 : ¬ ((2 : Int32).toInt < ln.toInt) := fun qq_ => hc29_321 (Int32.lt_iff_toInt_lt.mpr qq_)
                have ar434 : (3 : Int32).toInt = 3 := by decide
                have ar435 : (3 : Int32).toInt < ln.toInt := Int32.lt_iff_toInt_lt.mp hc43_397
                have hj4 : j = 0 ∨ j = 1 ∨ j = 2 ∨ j = 3 := by omega
                rcases hj4 with rfl | rfl | rfl | rfl
                · exact hc10_166 e
                · omega
                · omega
                · exact hc52_413 e
              obtain ⟨fs, hr, hrun, hended, hW, hsame⟩ := X0.leave (v := some (.int (0 : Int32))) (fun h => by rw [Bd.returns] at h; cases h)
              refine ⟨_, _, k425 _ (retN X0 hx (t := .boolean) Bd.returns (by simp) (hb hby d5_60) hr), hrun, hended, _, _, rfl, ?_, ⟨_, rfl⟩, hW, hsame.mono (by decide) (by decide)⟩
              show Q5 Z ma hd0 ln x fm H q h0 n0 _ s₁.heap _
              rw [e0]
              exact ⟨(by rw [if_neg hm426]), N0, rfl⟩
          · have k436 : ∀ tg_, Steps p.tables e below (s₁.setTop (mkF m 60 #[.val (.ref ma), .val (.int hd0), .val (.int ln), .val (.int x)] [(.int (0 : Int32))])) tg_ → Steps p.tables e below (s₁.setTop (entryFrame m #[(.ref ma), (.int hd0), (.int ln), (.int x)] 4)) tg_ := by
              intro tg_ kt
              refine k396 tg_ ?_
              refine XS.icmpYes X0.here hx rfl (pc0 := 43) (pc' := 59) rfl (hb hby d5_43) rfl (flt hc43_397).2.2.2 (by decide) (by decide) ?_
              show Steps p.tables e below (s₁.setTop (mkF m 59 #[.val (.ref ma), .val (.int hd0), .val (.int ln), .val (.int x)] [])) _
              refine XS.iconst X0.here hx rfl (hb hby d5_59) ?_
              show Steps p.tables e below (s₁.setTop (mkF m 60 #[.val (.ref ma), .val (.int hd0), .val (.int ln), .val (.int x)] [(.int (0 : Int32))])) _
              exact kt
            have hm437 : ¬ x ∈ q := fun hx => by
              obtain ⟨j, hj, e⟩ := own_memD.mp hx
              rw [← hq j hj] at e
              have ar438 : (0 : Int32).toInt = 0 := by decide
              have ar439 := rng32 ln
              have ar440 : (0 : Int32).toInt < ln.toInt := Int32.lt_iff_toInt_lt.mp hc1_156
              have ar441 : (1 : Int32).toInt = 1 := by decide
              have ar442 : ¬ ((1 : Int32).toInt < ln.toInt) := fun qq_ => hc15_173 (Int32.lt_iff_toInt_lt.mpr qq_)
              have ar443 : (2 : Int32).toInt = 2 := by decide
              have ar444 : ¬ ((2 : Int32).toInt < ln.toInt) := fun qq_ => hc29_321 (Int32.lt_iff_toInt_lt.mpr qq_)
              have ar445 : (3 : Int32).toInt = 3 := by decide
              have ar446 : ¬ ((3 : Int32).toInt < ln.toInt) := fun qq_ => hc43_397 (Int32.lt_iff_toInt_lt.mpr qq_)
              have hj4 : j = 0 ∨ j = 1 ∨ j = 2 ∨ j = 3 := by omega
              rcases hj4 with rfl | rfl | rfl | rfl
              · exact hc10_166 e
              · omega
              · omega
              · omega
            obtain ⟨fs, hr, hrun, hended, hW, hsame⟩ := X0.leave (v := some (.int (0 : Int32))) (fun h => by rw [Bd.returns] at h; cases h)
            refine ⟨_, _, k436 _ (retN X0 hx (t := .boolean) Bd.returns (by simp) (hb hby d5_60) hr), hrun, hended, _, _, rfl, ?_, ⟨_, rfl⟩, hW, hsame.mono (by decide) (by decide)⟩
            show Q5 Z ma hd0 ln x fm H q h0 n0 _ s₁.heap _
            rw [e0]
            exact ⟨(by rw [if_neg hm437]), N0, rfl⟩
  · have k447 : ∀ tg_, Steps p.tables e below (s₁.setTop (mkF m 15 #[.val (.ref ma), .val (.int hd0), .val (.int ln), .val (.int x)] [(.int (1 : Int32)), (.int ln)])) tg_ → Steps p.tables e below (s₁.setTop (entryFrame m #[(.ref ma), (.int hd0), (.int ln), (.int x)] 4)) tg_ := by
      intro tg_ kt
      refine k155 tg_ ?_
      refine XS.ifYes X0.here hx rfl (pc0 := 1) (pc' := 13) rfl (hb hby d5_1) rfl ((if0 _ _).trans (flt hc1_156).2.2.2) (by decide) (by decide) ?_
      show Steps p.tables e below (s₁.setTop (mkF m 13 #[.val (.ref ma), .val (.int hd0), .val (.int ln), .val (.int x)] [])) _
      refine XS.iloadN X0.here hx rfl (hb hby d5_13) rfl ?_
      show Steps p.tables e below (s₁.setTop (mkF m 14 #[.val (.ref ma), .val (.int hd0), .val (.int ln), .val (.int x)] [(.int ln)])) _
      refine XS.iconst X0.here hx rfl (hb hby d5_14) ?_
      show Steps p.tables e below (s₁.setTop (mkF m 15 #[.val (.ref ma), .val (.int hd0), .val (.int ln), .val (.int x)] [(.int (1 : Int32)), (.int ln)])) _
      exact kt
    by_cases hc15_448 : (1 : Int32) < ln
    · have hj449 : ((3 : Int32) + hd0).toInt = ((2 + H + 1 : Nat) : Int) := by
        have ar450 : (3 : Int32).toInt = 3 := by decide
        have ar451 := rng32 hd0
        have ar452 := rng32 ((3 : Int32) + hd0)
        first | have ar453 : ((3 : Int32) + hd0).toInt = 3 + hd0.toInt := (by have qw := c_iadd (3 : Int32) hd0; omega) | (have ar453 := c_iadd (3 : Int32) hd0; skip)
        have ar454 := rng32 ln
        have ar455 : (0 : Int32).toInt = 0 := by decide
        have ar456 : ¬ ((0 : Int32).toInt < ln.toInt) := fun qq_ => hc1_156 (Int32.lt_iff_toInt_lt.mpr qq_)
        have ar457 : (1 : Int32).toInt = 1 := by decide
        have ar458 : (1 : Int32).toInt < ln.toInt := Int32.lt_iff_toInt_lt.mp hc15_448
        omega
      have hl449 : 2 + H + 1 < 16 := by
        have ar450 : (3 : Int32).toInt = 3 := by decide
        have ar451 := rng32 hd0
        have ar452 := rng32 ((3 : Int32) + hd0)
        first | have ar453 : ((3 : Int32) + hd0).toInt = 3 + hd0.toInt := (by have qw := c_iadd (3 : Int32) hd0; omega) | (have ar453 := c_iadd (3 : Int32) hd0; skip)
        have ar454 := rng32 ln
        have ar455 : (0 : Int32).toInt = 0 := by decide
        have ar456 : ¬ ((0 : Int32).toInt < ln.toInt) := fun qq_ => hc1_156 (Int32.lt_iff_toInt_lt.mpr qq_)
        have ar457 : (1 : Int32).toInt = 1 := by decide
        have ar458 : (1 : Int32).toInt < ln.toInt := Int32.lt_iff_toInt_lt.mp hc15_448
        omega
      have k459 : ∀ tg_, Steps p.tables e below (s₁.setTop (mkF m 24 #[.val (.ref ma), .val (.int hd0), .val (.int ln), .val (.int x)] [(.int x), (.int (fm (2 + H + 1)))])) tg_ → Steps p.tables e below (s₁.setTop (entryFrame m #[(.ref ma), (.int hd0), (.int ln), (.int x)] 4)) tg_ := by
        intro tg_ kt
        refine k447 tg_ ?_
        refine XS.icmpNo X0.here hx rfl (hb hby d5_15) rfl (tlt hc15_448).2.2.2 ?_
        show Steps p.tables e below (s₁.setTop (mkF m 18 #[.val (.ref ma), .val (.int hd0), .val (.int ln), .val (.int x)] [])) _
        refine XS.aloadN X0.here hx rfl (hb hby d5_18) rfl rfl ?_
        show Steps p.tables e below (s₁.setTop (mkF m 19 #[.val (.ref ma), .val (.int hd0), .val (.int ln), .val (.int x)] [(.ref ma)])) _
        refine XS.iconst X0.here hx rfl (hb hby d5_19) ?_
        show Steps p.tables e below (s₁.setTop (mkF m 20 #[.val (.ref ma), .val (.int hd0), .val (.int ln), .val (.int x)] [(.int (3 : Int32)), (.ref ma)])) _
        refine XS.iloadN X0.here hx rfl (hb hby d5_20) rfl ?_
        show Steps p.tables e below (s₁.setTop (mkF m 21 #[.val (.ref ma), .val (.int hd0), .val (.int ln), .val (.int x)] [(.int hd0), (.int (3 : Int32)), (.ref ma)])) _
        refine XS.iadd X0.here hx rfl (hb hby d5_21) rfl ?_
        show Steps p.tables e below (s₁.setTop (mkF m 22 #[.val (.ref ma), .val (.int hd0), .val (.int ln), .val (.int x)] [(.int ((3 : Int32) + hd0)), (.ref ma)])) _
        refine own_ldI X0 hx hZ e0 V_ma (i := (2 + H + 1)) hj449 hl449 rfl (g := (mkF m 22 #[.val (.ref ma), .val (.int hd0), .val (.int ln), .val (.int x)] [(.int ((3 : Int32) + hd0)), (.ref ma)])) rfl rfl (hb hby d5_22) _ ?_
        show Steps p.tables e below (s₁.setTop (mkF m 23 #[.val (.ref ma), .val (.int hd0), .val (.int ln), .val (.int x)] [(.int (fm (2 + H + 1)))])) _
        refine XS.iloadN X0.here hx rfl (hb hby d5_23) rfl ?_
        show Steps p.tables e below (s₁.setTop (mkF m 24 #[.val (.ref ma), .val (.int hd0), .val (.int ln), .val (.int x)] [(.int x), (.int (fm (2 + H + 1)))])) _
        exact kt
      by_cases hc24_460 : (fm (2 + H + 1)) = x
      · have k461 : ∀ tg_, Steps p.tables e below (s₁.setTop (mkF m 60 #[.val (.ref ma), .val (.int hd0), .val (.int ln), .val (.int x)] [(.int (1 : Int32))])) tg_ → Steps p.tables e below (s₁.setTop (entryFrame m #[(.ref ma), (.int hd0), (.int ln), (.int x)] 4)) tg_ := by
          intro tg_ kt
          refine k459 tg_ ?_
          refine XS.icmpYes X0.here hx rfl (pc0 := 24) (pc' := 55) rfl (hb hby d5_24) rfl (teq hc24_460).1 (by decide) (by decide) ?_
          show Steps p.tables e below (s₁.setTop (mkF m 55 #[.val (.ref ma), .val (.int hd0), .val (.int ln), .val (.int x)] [])) _
          refine XS.iconst X0.here hx rfl (hb hby d5_55) ?_
          show Steps p.tables e below (s₁.setTop (mkF m 56 #[.val (.ref ma), .val (.int hd0), .val (.int ln), .val (.int x)] [(.int (1 : Int32))])) _
          refine XS.goto X0.here hx rfl (pc0 := 56) (pc' := 60) rfl (hb hby d5_56) (by decide) (by decide) ?_
          show Steps p.tables e below (s₁.setTop (mkF m 60 #[.val (.ref ma), .val (.int hd0), .val (.int ln), .val (.int x)] [(.int (1 : Int32))])) _
          exact kt
        have hm462 : x ∈ q := own_memD.mpr ⟨1, by
            have ar463 : (0 : Int32).toInt = 0 := by decide
            have ar464 := rng32 ln
            have ar465 : ¬ ((0 : Int32).toInt < ln.toInt) := fun qq_ => hc1_156 (Int32.lt_iff_toInt_lt.mpr qq_)
            have ar466 : (1 : Int32).toInt = 1 := by decide
            have ar467 : (1 : Int32).toInt < ln.toInt := Int32.lt_iff_toInt_lt.mp hc15_448
            omega, by
            rw [← hq 1 (by
              have ar463 : (0 : Int32).toInt = 0 := by decide
              have ar464 := rng32 ln
              have ar465 : ¬ ((0 : Int32).toInt < ln.toInt) := fun qq_ => hc1_156 (Int32.lt_iff_toInt_lt.mpr qq_)
              have ar466 : (1 : Int32).toInt = 1 := by decide
              have ar467 : (1 : Int32).toInt < ln.toInt := Int32.lt_iff_toInt_lt.mp hc15_448
              omega)]
            exact hc24_460⟩
        obtain ⟨fs, hr, hrun, hended, hW, hsame⟩ := X0.leave (v := some (.int (1 : Int32))) (fun h => by rw [Bd.returns] at h; cases h)
        refine ⟨_, _, k461 _ (retN X0 hx (t := .boolean) Bd.returns (by simp) (hb hby d5_60) hr), hrun, hended, _, _, rfl, ?_, ⟨_, rfl⟩, hW, hsame.mono (by decide) (by decide)⟩
        show Q5 Z ma hd0 ln x fm H q h0 n0 _ s₁.heap _
        rw [e0]
        exact ⟨(by rw [if_pos hm462]), N0, rfl⟩
      · have k468 : ∀ tg_, Steps p.tables e below (s₁.setTop (mkF m 29 #[.val (.ref ma), .val (.int hd0), .val (.int ln), .val (.int x)] [(.int (2 : Int32)), (.int ln)])) tg_ → Steps p.tables e below (s₁.setTop (entryFrame m #[(.ref ma), (.int hd0), (.int ln), (.int x)] 4)) tg_ := by
          intro tg_ kt
          refine k459 tg_ ?_
          refine XS.icmpNo X0.here hx rfl (hb hby d5_24) rfl (feq hc24_460).1 ?_
          show Steps p.tables e below (s₁.setTop (mkF m 27 #[.val (.ref ma), .val (.int hd0), .val (.int ln), .val (.int x)] [])) _
          refine XS.iloadN X0.here hx rfl (hb hby d5_27) rfl ?_
          show Steps p.tables e below (s₁.setTop (mkF m 28 #[.val (.ref ma), .val (.int hd0), .val (.int ln), .val (.int x)] [(.int ln)])) _
          refine XS.iconst X0.here hx rfl (hb hby d5_28) ?_
          show Steps p.tables e below (s₁.setTop (mkF m 29 #[.val (.ref ma), .val (.int hd0), .val (.int ln), .val (.int x)] [(.int (2 : Int32)), (.int ln)])) _
          exact kt
        by_cases hc29_469 : (2 : Int32) < ln
        · have hj470 : ((4 : Int32) + hd0).toInt = ((2 + H + 2 : Nat) : Int) := by
            have ar471 : (4 : Int32).toInt = 4 := by decide
            have ar472 := rng32 hd0
            have ar473 := rng32 ((4 : Int32) + hd0)
            first | have ar474 : ((4 : Int32) + hd0).toInt = 4 + hd0.toInt := (by have qw := c_iadd (4 : Int32) hd0; omega) | (have ar474 := c_iadd (4 : Int32) hd0; skip)
            have ar475 := rng32 ln
            have ar476 : (0 : Int32).toInt = 0 := by decide
            have ar477 : ¬ ((0 : Int32).toInt < ln.toInt) := fun qq_ => hc1_156 (Int32.lt_iff_toInt_lt.mpr qq_)
            have ar478 : (1 : Int32).toInt = 1 := by decide
            have ar479 : (1 : Int32).toInt < ln.toInt := Int32.lt_iff_toInt_lt.mp hc15_448
            have ar480 : (2 : Int32).toInt = 2 := by decide
            have ar481 : (2 : Int32).toInt < ln.toInt := Int32.lt_iff_toInt_lt.mp hc29_469
            omega
          have hl470 : 2 + H + 2 < 16 := by
            have ar471 : (4 : Int32).toInt = 4 := by decide
            have ar472 := rng32 hd0
            have ar473 := rng32 ((4 : Int32) + hd0)
            first | have ar474 : ((4 : Int32) + hd0).toInt = 4 + hd0.toInt := (by have qw := c_iadd (4 : Int32) hd0; omega) | (have ar474 := c_iadd (4 : Int32) hd0; skip)
            have ar475 := rng32 ln
            have ar476 : (0 : Int32).toInt = 0 := by decide
            have ar477 : ¬ ((0 : Int32).toInt < ln.toInt) := fun qq_ => hc1_156 (Int32.lt_iff_toInt_lt.mpr qq_)
            have ar478 : (1 : Int32).toInt = 1 := by decide
            have ar479 : (1 : Int32).toInt < ln.toInt := Int32.lt_iff_toInt_lt.mp hc15_448
            have ar480 : (2 : Int32).toInt = 2 := by decide
            have ar481 : (2 : Int32).toInt < ln.toInt := Int32.lt_iff_toInt_lt.mp hc29_469
            omega
          have k482 : ∀ tg_, Steps p.tables e below (s₁.setTop (mkF m 38 #[.val (.ref ma), .val (.int hd0), .val (.int ln), .val (.int x)] [(.int x), (.int (fm (2 + H + 2)))])) tg_ → Steps p.tables e below (s₁.setTop (entryFrame m #[(.ref ma), (.int hd0), (.int ln), (.int x)] 4)) tg_ := by
            intro tg_ kt
            refine k468 tg_ ?_
            refine XS.icmpNo X0.here hx rfl (hb hby d5_29) rfl (tlt hc29_469).2.2.2 ?_
            show Steps p.tables e below (s₁.setTop (mkF m 32 #[.val (.ref ma), .val (.int hd0), .val (.int ln), .val (.int x)] [])) _
            refine XS.aloadN X0.here hx rfl (hb hby d5_32) rfl rfl ?_
            show Steps p.tables e below (s₁.setTop (mkF m 33 #[.val (.ref ma), .val (.int hd0), .val (.int ln), .val (.int x)] [(.ref ma)])) _
            refine XS.iconst X0.here hx rfl (hb hby d5_33) ?_
            show Steps p.tables e below (s₁.setTop (mkF m 34 #[.val (.ref ma), .val (.int hd0), .val (.int ln), .val (.int x)] [(.int (4 : Int32)), (.ref ma)])) _
            refine XS.iloadN X0.here hx rfl (hb hby d5_34) rfl ?_
            show Steps p.tables e below (s₁.setTop (mkF m 35 #[.val (.ref ma), .val (.int hd0), .val (.int ln), .val (.int x)] [(.int hd0), (.int (4 : Int32)), (.ref ma)])) _
            refine XS.iadd X0.here hx rfl (hb hby d5_35) rfl ?_
            show Steps p.tables e below (s₁.setTop (mkF m 36 #[.val (.ref ma), .val (.int hd0), .val (.int ln), .val (.int x)] [(.int ((4 : Int32) + hd0)), (.ref ma)])) _
            refine own_ldI X0 hx hZ e0 V_ma (i := (2 + H + 2)) hj470 hl470 rfl (g := (mkF m 36 #[.val (.ref ma), .val (.int hd0), .val (.int ln), .val (.int x)] [(.int ((4 : Int32) + hd0)), (.ref ma)])) rfl rfl (hb hby d5_36) _ ?_
            show Steps p.tables e below (s₁.setTop (mkF m 37 #[.val (.ref ma), .val (.int hd0), .val (.int ln), .val (.int x)] [(.int (fm (2 + H + 2)))])) _
            refine XS.iloadN X0.here hx rfl (hb hby d5_37) rfl ?_
            show Steps p.tables e below (s₁.setTop (mkF m 38 #[.val (.ref ma), .val (.int hd0), .val (.int ln), .val (.int x)] [(.int x), (.int (fm (2 + H + 2)))])) _
            exact kt
          by_cases hc38_483 : (fm (2 + H + 2)) = x
          · have k484 : ∀ tg_, Steps p.tables e below (s₁.setTop (mkF m 60 #[.val (.ref ma), .val (.int hd0), .val (.int ln), .val (.int x)] [(.int (1 : Int32))])) tg_ → Steps p.tables e below (s₁.setTop (entryFrame m #[(.ref ma), (.int hd0), (.int ln), (.int x)] 4)) tg_ := by
              intro tg_ kt
              refine k482 tg_ ?_
              refine XS.icmpYes X0.here hx rfl (pc0 := 38) (pc' := 55) rfl (hb hby d5_38) rfl (teq hc38_483).1 (by decide) (by decide) ?_
              show Steps p.tables e below (s₁.setTop (mkF m 55 #[.val (.ref ma), .val (.int hd0), .val (.int ln), .val (.int x)] [])) _
              refine XS.iconst X0.here hx rfl (hb hby d5_55) ?_
              show Steps p.tables e below (s₁.setTop (mkF m 56 #[.val (.ref ma), .val (.int hd0), .val (.int ln), .val (.int x)] [(.int (1 : Int32))])) _
              refine XS.goto X0.here hx rfl (pc0 := 56) (pc' := 60) rfl (hb hby d5_56) (by decide) (by decide) ?_
              show Steps p.tables e below (s₁.setTop (mkF m 60 #[.val (.ref ma), .val (.int hd0), .val (.int ln), .val (.int x)] [(.int (1 : Int32))])) _
              exact kt
            have hm485 : x ∈ q := own_memD.mpr ⟨2, by
                have ar486 : (0 : Int32).toInt = 0 := by decide
                have ar487 := rng32 ln
                have ar488 : ¬ ((0 : Int32).toInt < ln.toInt) := fun qq_ => hc1_156 (Int32.lt_iff_toInt_lt.mpr qq_)
                have ar489 : (1 : Int32).toInt = 1 := by decide
                have ar490 : (1 : Int32).toInt < ln.toInt := Int32.lt_iff_toInt_lt.mp hc15_448
                have ar491 : (2 : Int32).toInt = 2 := by decide
                have ar492 : (2 : Int32).toInt < ln.toInt := Int32.lt_iff_toInt_lt.mp hc29_469
                omega, by
                rw [← hq 2 (by
                  have ar486 : (0 : Int32).toInt = 0 := by decide
                  have ar487 := rng32 ln
                  have ar488 : ¬ ((0 : Int32).toInt < ln.toInt) := fun qq_ => hc1_156 (Int32.lt_iff_toInt_lt.mpr qq_)
                  have ar489 : (1 : Int32).toInt = 1 := by decide
                  have ar490 : (1 : Int32).toInt < ln.toInt := Int32.lt_iff_toInt_lt.mp hc15_448
                  have ar491 : (2 : Int32).toInt = 2 := by decide
                  have ar492 : (2 : Int32).toInt < ln.toInt := Int32.lt_iff_toInt_lt.mp hc29_469
                  omega)]
                exact hc38_483⟩
            obtain ⟨fs, hr, hrun, hended, hW, hsame⟩ := X0.leave (v := some (.int (1 : Int32))) (fun h => by rw [Bd.returns] at h; cases h)
            refine ⟨_, _, k484 _ (retN X0 hx (t := .boolean) Bd.returns (by simp) (hb hby d5_60) hr), hrun, hended, _, _, rfl, ?_, ⟨_, rfl⟩, hW, hsame.mono (by decide) (by decide)⟩
            show Q5 Z ma hd0 ln x fm H q h0 n0 _ s₁.heap _
            rw [e0]
            exact ⟨(by rw [if_pos hm485]), N0, rfl⟩
          · have k493 : ∀ tg_, Steps p.tables e below (s₁.setTop (mkF m 43 #[.val (.ref ma), .val (.int hd0), .val (.int ln), .val (.int x)] [(.int (3 : Int32)), (.int ln)])) tg_ → Steps p.tables e below (s₁.setTop (entryFrame m #[(.ref ma), (.int hd0), (.int ln), (.int x)] 4)) tg_ := by
              intro tg_ kt
              refine k482 tg_ ?_
              refine XS.icmpNo X0.here hx rfl (hb hby d5_38) rfl (feq hc38_483).1 ?_
              show Steps p.tables e below (s₁.setTop (mkF m 41 #[.val (.ref ma), .val (.int hd0), .val (.int ln), .val (.int x)] [])) _
              refine XS.iloadN X0.here hx rfl (hb hby d5_41) rfl ?_
              show Steps p.tables e below (s₁.setTop (mkF m 42 #[.val (.ref ma), .val (.int hd0), .val (.int ln), .val (.int x)] [(.int ln)])) _
              refine XS.iconst X0.here hx rfl (hb hby d5_42) ?_
              show Steps p.tables e below (s₁.setTop (mkF m 43 #[.val (.ref ma), .val (.int hd0), .val (.int ln), .val (.int x)] [(.int (3 : Int32)), (.int ln)])) _
              exact kt
            by_cases hc43_494 : (3 : Int32) < ln
            · have hj495 : ((5 : Int32) + hd0).toInt = ((2 + H + 3 : Nat) : Int) := by
                have ar496 : (5 : Int32).toInt = 5 := by decide
                have ar497 := rng32 hd0
                have ar498 := rng32 ((5 : Int32) + hd0)
                first | have ar499 : ((5 : Int32) + hd0).toInt = 5 + hd0.toInt := (by have qw := c_iadd (5 : Int32) hd0; omega) | (have ar499 := c_iadd (5 : Int32) hd0; skip)
                have ar500 := rng32 ln
                have ar501 : (0 : Int32).toInt = 0 := by decide
                have ar502 : ¬ ((0 : Int32).toInt < ln.toInt) := fun qq_ => hc1_156 (Int32.lt_iff_toInt_lt.mpr qq_)
                have ar503 : (1 : Int32).toInt = 1 := by decide
                have ar504 : (1 : Int32).toInt < ln.toInt := Int32.lt_iff_toInt_lt.mp hc15_448
                have ar505 : (2 : Int32).toInt = 2 := by decide
                have ar506 : (2 : Int32).toInt < ln.toInt := Int32.lt_iff_toInt_lt.mp hc29_469
                have ar507 : (3 : Int32).toInt = 3 := by decide
                have ar508 : (3 : Int32).toInt < ln.toInt := Int32.lt_iff_toInt_lt.mp hc43_494
                omega
              have hl495 : 2 + H + 3 < 16 := by
                have ar496 : (5 : Int32).toInt = 5 := by decide
                have ar497 := rng32 hd0
                have ar498 := rng32 ((5 : Int32) + hd0)
                first | have ar499 : ((5 : Int32) + hd0).toInt = 5 + hd0.toInt := (by have qw := c_iadd (5 : Int32) hd0; omega) | (have ar499 := c_iadd (5 : Int32) hd0; skip)
                have ar500 := rng32 ln
                have ar501 : (0 : Int32).toInt = 0 := by decide
                have ar502 : ¬ ((0 : Int32).toInt < ln.toInt) := fun qq_ => hc1_156 (Int32.lt_iff_toInt_lt.mpr qq_)
                have ar503 : (1 : Int32).toInt = 1 := by decide
                have ar504 : (1 : Int32).toInt < ln.toInt := Int32.lt_iff_toInt_lt.mp hc15_448
                have ar505 : (2 : Int32).toInt = 2 := by decide
                have ar506 : (2 : Int32).toInt < ln.toInt := Int32.lt_iff_toInt_lt.mp hc29_469
                have ar507 : (3 : Int32).toInt = 3 := by decide
                have ar508 : (3 : Int32).toInt < ln.toInt := Int32.lt_iff_toInt_lt.mp hc43_494
                omega
              have k509 : ∀ tg_, Steps p.tables e below (s₁.setTop (mkF m 52 #[.val (.ref ma), .val (.int hd0), .val (.int ln), .val (.int x)] [(.int x), (.int (fm (2 + H + 3)))])) tg_ → Steps p.tables e below (s₁.setTop (entryFrame m #[(.ref ma), (.int hd0), (.int ln), (.int x)] 4)) tg_ := by
                intro tg_ kt
                refine k493 tg_ ?_
                refine XS.icmpNo X0.here hx rfl (hb hby d5_43) rfl (tlt hc43_494).2.2.2 ?_
                show Steps p.tables e below (s₁.setTop (mkF m 46 #[.val (.ref ma), .val (.int hd0), .val (.int ln), .val (.int x)] [])) _
                refine XS.aloadN X0.here hx rfl (hb hby d5_46) rfl rfl ?_
                show Steps p.tables e below (s₁.setTop (mkF m 47 #[.val (.ref ma), .val (.int hd0), .val (.int ln), .val (.int x)] [(.ref ma)])) _
                refine XS.iconst X0.here hx rfl (hb hby d5_47) ?_
                show Steps p.tables e below (s₁.setTop (mkF m 48 #[.val (.ref ma), .val (.int hd0), .val (.int ln), .val (.int x)] [(.int (5 : Int32)), (.ref ma)])) _
                refine XS.iloadN X0.here hx rfl (hb hby d5_48) rfl ?_
                show Steps p.tables e below (s₁.setTop (mkF m 49 #[.val (.ref ma), .val (.int hd0), .val (.int ln), .val (.int x)] [(.int hd0), (.int (5 : Int32)), (.ref ma)])) _
                refine XS.iadd X0.here hx rfl (hb hby d5_49) rfl ?_
                show Steps p.tables e below (s₁.setTop (mkF m 50 #[.val (.ref ma), .val (.int hd0), .val (.int ln), .val (.int x)] [(.int ((5 : Int32) + hd0)), (.ref ma)])) _
                refine own_ldI X0 hx hZ e0 V_ma (i := (2 + H + 3)) hj495 hl495 rfl (g := (mkF m 50 #[.val (.ref ma), .val (.int hd0), .val (.int ln), .val (.int x)] [(.int ((5 : Int32) + hd0)), (.ref ma)])) rfl rfl (hb hby d5_50) _ ?_
                show Steps p.tables e below (s₁.setTop (mkF m 51 #[.val (.ref ma), .val (.int hd0), .val (.int ln), .val (.int x)] [(.int (fm (2 + H + 3)))])) _
                refine XS.iloadN X0.here hx rfl (hb hby d5_51) rfl ?_
                show Steps p.tables e below (s₁.setTop (mkF m 52 #[.val (.ref ma), .val (.int hd0), .val (.int ln), .val (.int x)] [(.int x), (.int (fm (2 + H + 3)))])) _
                exact kt
              by_cases hc52_510 : (fm (2 + H + 3)) = x
              · have k511 : ∀ tg_, Steps p.tables e below (s₁.setTop (mkF m 60 #[.val (.ref ma), .val (.int hd0), .val (.int ln), .val (.int x)] [(.int (1 : Int32))])) tg_ → Steps p.tables e below (s₁.setTop (entryFrame m #[(.ref ma), (.int hd0), (.int ln), (.int x)] 4)) tg_ := by
                  intro tg_ kt
                  refine k509 tg_ ?_
                  refine XS.icmpNo X0.here hx rfl (hb hby d5_52) rfl (teq hc52_510).2 ?_
                  show Steps p.tables e below (s₁.setTop (mkF m 55 #[.val (.ref ma), .val (.int hd0), .val (.int ln), .val (.int x)] [])) _
                  refine XS.iconst X0.here hx rfl (hb hby d5_55) ?_
                  show Steps p.tables e below (s₁.setTop (mkF m 56 #[.val (.ref ma), .val (.int hd0), .val (.int ln), .val (.int x)] [(.int (1 : Int32))])) _
                  refine XS.goto X0.here hx rfl (pc0 := 56) (pc' := 60) rfl (hb hby d5_56) (by decide) (by decide) ?_
                  show Steps p.tables e below (s₁.setTop (mkF m 60 #[.val (.ref ma), .val (.int hd0), .val (.int ln), .val (.int x)] [(.int (1 : Int32))])) _
                  exact kt
                have hm512 : x ∈ q := own_memD.mpr ⟨3, by
                    have ar513 : (0 : Int32).toInt = 0 := by decide
                    have ar514 := rng32 ln
                    have ar515 : ¬ ((0 : Int32).toInt < ln.toInt) := fun qq_ => hc1_156 (Int32.lt_iff_toInt_lt.mpr qq_)
                    have ar516 : (1 : Int32).toInt = 1 := by decide
                    have ar517 : (1 : Int32).toInt < ln.toInt := Int32.lt_iff_toInt_lt.mp hc15_448
                    have ar518 : (2 : Int32).toInt = 2 := by decide
                    have ar519 : (2 : Int32).toInt < ln.toInt := Int32.lt_iff_toInt_lt.mp hc29_469
                    have ar520 : (3 : Int32).toInt = 3 := by decide
                    have ar521 : (3 : Int32).toInt < ln.toInt := Int32.lt_iff_toInt_lt.mp hc43_494
                    omega, by
                    rw [← hq 3 (by
                      have ar513 : (0 : Int32).toInt = 0 := by decide
                      have ar514 := rng32 ln
                      have ar515 : ¬ ((0 : Int32).toInt < ln.toInt) := fun qq_ => hc1_156 (Int32.lt_iff_toInt_lt.mpr qq_)
                      have ar516 : (1 : Int32).toInt = 1 := by decide
                      have ar517 : (1 : Int32).toInt < ln.toInt := Int32.lt_iff_toInt_lt.mp hc15_448
                      have ar518 : (2 : Int32).toInt = 2 := by decide
                      have ar519 : (2 : Int32).toInt < ln.toInt := Int32.lt_iff_toInt_lt.mp hc29_469
                      have ar520 : (3 : Int32).toInt = 3 := by decide
                      have ar521 : (3 : Int32).toInt < ln.toInt := Int32.lt_iff_toInt_lt.mp hc43_494
                      omega)]
                    exact hc52_510⟩
                obtain ⟨fs, hr, hrun, hended, hW, hsame⟩ := X0.leave (v := some (.int (1 : Int32))) (fun h => by rw [Bd.returns] at h; cases h)
                refine ⟨_, _, k511 _ (retN X0 hx (t := .boolean) Bd.returns (by simp) (hb hby d5_60) hr), hrun, hended, _, _, rfl, ?_, ⟨_, rfl⟩, hW, hsame.mono (by decide) (by decide)⟩
                show Q5 Z ma hd0 ln x fm H q h0 n0 _ s₁.heap _
                rw [e0]
                exact ⟨(by rw [if_pos hm512]), N0, rfl⟩
              · have k522 : ∀ tg_, Steps p.tables e below (s₁.setTop (mkF m 60 #[.val (.ref ma), .val (.int hd0), .val (.int ln), .val (.int x)] [(.int (0 : Int32))])) tg_ → Steps p.tables e below (s₁.setTop (entryFrame m #[(.ref ma), (.int hd0), (.int ln), (.int x)] 4)) tg_ := by
                  intro tg_ kt
                  refine k509 tg_ ?_
                  refine XS.icmpYes X0.here hx rfl (pc0 := 52) (pc' := 59) rfl (hb hby d5_52) rfl (feq hc52_510).2 (by decide) (by decide) ?_
                  show Steps p.tables e below (s₁.setTop (mkF m 59 #[.val (.ref ma), .val (.int hd0), .val (.int ln), .val (.int x)] [])) _
                  refine XS.iconst X0.here hx rfl (hb hby d5_59) ?_
                  show Steps p.tables e below (s₁.setTop (mkF m 60 #[.val (.ref ma), .val (.int hd0), .val (.int ln), .val (.int x)] [(.int (0 : Int32))])) _
                  exact kt
                have hm523 : ¬ x ∈ q := fun hx => by
                  obtain ⟨j, hj, e⟩ := own_memD.mp hx
                  rw [← hq j hj] at e
                  have ar524 : (0 : Int32).toInt = 0 := by decide
                  have ar525 := rng32 ln
                  have ar526 : ¬ ((0 : Int32).toInt < ln.toInt) := fun qq_ => hc1_156 (Int32.lt_iff_toInt_lt.mpr qq_)
                  have ar527 : (1 : Int32).toInt = 1 := by decide
                  have ar528 : (1 : Int32).toInt < ln.toInt := Int32.lt_iff_toInt_lt.mp hc15_448
                  have ar529 : (2 : Int32).toInt = 2 := by decide
                  have ar530 : (2 : Int32).toInt < ln.toInt := Int32.lt_iff_toInt_lt.mp hc29_469
                  have ar531 : (3 : Int32).toInt = 3 := by decide
                  have ar532 : (3 : Int32).toInt < ln.toInt := Int32.lt_iff_toInt_lt.mp hc43_494
                  have hj4 : j = 0 ∨ j = 1 ∨ j = 2 ∨ j = 3 := by omega
                  rcases hj4 with rfl | rfl | rfl | rfl
                  · omega
                  · exact hc24_460 e
                  · exact hc38_483 e
                  · exact hc52_510 e
                obtain ⟨fs, hr, hrun, hended, hW, hsame⟩ := X0.leave (v := some (.int (0 : Int32))) (fun h => by rw [Bd.returns] at h; cases h)
                refine ⟨_, _, k522 _ (retN X0 hx (t := .boolean) Bd.returns (by simp) (hb hby d5_60) hr), hrun, hended, _, _, rfl, ?_, ⟨_, rfl⟩, hW, hsame.mono (by decide) (by decide)⟩
                show Q5 Z ma hd0 ln x fm H q h0 n0 _ s₁.heap _
                rw [e0]
                exact ⟨(by rw [if_neg hm523]), N0, rfl⟩
            · have k533 : ∀ tg_, Steps p.tables e below (s₁.setTop (mkF m 60 #[.val (.ref ma), .val (.int hd0), .val (.int ln), .val (.int x)] [(.int (0 : Int32))])) tg_ → Steps p.tables e below (s₁.setTop (entryFrame m #[(.ref ma), (.int hd0), (.int ln), (.int x)] 4)) tg_ := by
                intro tg_ kt
                refine k493 tg_ ?_
                refine XS.icmpYes X0.here hx rfl (pc0 := 43) (pc' := 59) rfl (hb hby d5_43) rfl (flt hc43_494).2.2.2 (by decide) (by decide) ?_
                show Steps p.tables e below (s₁.setTop (mkF m 59 #[.val (.ref ma), .val (.int hd0), .val (.int ln), .val (.int x)] [])) _
                refine XS.iconst X0.here hx rfl (hb hby d5_59) ?_
                show Steps p.tables e below (s₁.setTop (mkF m 60 #[.val (.ref ma), .val (.int hd0), .val (.int ln), .val (.int x)] [(.int (0 : Int32))])) _
                exact kt
              have hm534 : ¬ x ∈ q := fun hx => by
                obtain ⟨j, hj, e⟩ := own_memD.mp hx
                rw [← hq j hj] at e
                have ar535 : (0 : Int32).toInt = 0 := by decide
                have ar536 := rng32 ln
                have ar537 : ¬ ((0 : Int32).toInt < ln.toInt) := fun qq_ => hc1_156 (Int32.lt_iff_toInt_lt.mpr qq_)
                have ar538 : (1 : Int32).toInt = 1 := by decide
                have ar539 : (1 : Int32).toInt < ln.toInt := Int32.lt_iff_toInt_lt.mp hc15_448
                have ar540 : (2 : Int32).toInt = 2 := by decide
                have ar541 : (2 : Int32).toInt < ln.toInt := Int32.lt_iff_toInt_lt.mp hc29_469
                have ar542 : (3 : Int32).toInt = 3 := by decide
                have ar543 : ¬ ((3 : Int32).toInt < ln.toInt) := fun qq_ => hc43_494 (Int32.lt_iff_toInt_lt.mpr qq_)
                have hj4 : j = 0 ∨ j = 1 ∨ j = 2 ∨ j = 3 := by omega
                rcases hj4 with rfl | rfl | rfl | rfl
                · omega
                · exact hc24_460 e
                · exact hc38_483 e
                · omega
              obtain ⟨fs, hr, hrun, hended, hW, hsame⟩ := X0.leave (v := some (.int (0 : Int32))) (fun h => by rw [Bd.returns] at h; cases h)
              refine ⟨_, _, k533 _ (retN X0 hx (t := .boolean) Bd.returns (by simp) (hb hby d5_60) hr), hrun, hended, _, _, rfl, ?_, ⟨_, rfl⟩, hW, hsame.mono (by decide) (by decide)⟩
              show Q5 Z ma hd0 ln x fm H q h0 n0 _ s₁.heap _
              rw [e0]
              exact ⟨(by rw [if_neg hm534]), N0, rfl⟩
        · have k544 : ∀ tg_, Steps p.tables e below (s₁.setTop (mkF m 43 #[.val (.ref ma), .val (.int hd0), .val (.int ln), .val (.int x)] [(.int (3 : Int32)), (.int ln)])) tg_ → Steps p.tables e below (s₁.setTop (entryFrame m #[(.ref ma), (.int hd0), (.int ln), (.int x)] 4)) tg_ := by
            intro tg_ kt
            refine k468 tg_ ?_
            refine XS.icmpYes X0.here hx rfl (pc0 := 29) (pc' := 41) rfl (hb hby d5_29) rfl (flt hc29_469).2.2.2 (by decide) (by decide) ?_
            show Steps p.tables e below (s₁.setTop (mkF m 41 #[.val (.ref ma), .val (.int hd0), .val (.int ln), .val (.int x)] [])) _
            refine XS.iloadN X0.here hx rfl (hb hby d5_41) rfl ?_
            show Steps p.tables e below (s₁.setTop (mkF m 42 #[.val (.ref ma), .val (.int hd0), .val (.int ln), .val (.int x)] [(.int ln)])) _
            refine XS.iconst X0.here hx rfl (hb hby d5_42) ?_
            show Steps p.tables e below (s₁.setTop (mkF m 43 #[.val (.ref ma), .val (.int hd0), .val (.int ln), .val (.int x)] [(.int (3 : Int32)), (.int ln)])) _
            exact kt
          by_cases hc43_545 : (3 : Int32) < ln
          · have hj546 : ((5 : Int32) + hd0).toInt = ((2 + H + 3 : Nat) : Int) := by
              have ar547 : (5 : Int32).toInt = 5 := by decide
              have ar548 := rng32 hd0
              have ar549 := rng32 ((5 : Int32) + hd0)
              first | have ar550 : ((5 : Int32) + hd0).toInt = 5 + hd0.toInt := (by have qw := c_iadd (5 : Int32) hd0; omega) | (have ar550 := c_iadd (5 : Int32) hd0; skip)
              have ar551 := rng32 ln
              have ar552 : (0 : Int32).toInt = 0 := by decide
              have ar553 : ¬ ((0 : Int32).toInt < ln.toInt) := fun qq_ => hc1_156 (Int32.lt_iff_toInt_lt.mpr qq_)
              have ar554 : (1 : Int32).toInt = 1 := by decide
              have ar555 : (1 : Int32).toInt < ln.toInt := Int32.lt_iff_toInt_lt.mp hc15_448
              have ar556 : (2 : Int32).toInt = 2 := by decide
              have ar557 : ¬ ((2 : Int32).toInt < ln.toInt) := fun qq_ => hc29_469 (Int32.lt_iff_toInt_lt.mpr qq_)
              have ar558 : (3 : Int32).toInt = 3 := by decide
              have ar559 : (3 : Int32).toInt < ln.toInt := Int32.lt_iff_toInt_lt.mp hc43_545
              omega
            have hl546 : 2 + H + 3 < 16 := by
              have ar547 : (5 : Int32).toInt = 5 := by decide
              have ar548 := rng32 hd0
              have ar549 := rng32 ((5 : Int32) + hd0)
              first | have ar550 : ((5 : Int32) + hd0).toInt = 5 + hd0.toInt := (by have qw := c_iadd (5 : Int32) hd0; omega) | (have ar550 := c_iadd (5 : Int32) hd0; skip)
              have ar551 := rng32 ln
              have ar552 : (0 : Int32).toInt = 0 := by decide
              have ar553 : ¬ ((0 : Int32).toInt < ln.toInt) := fun qq_ => hc1_156 (Int32.lt_iff_toInt_lt.mpr qq_)
              have ar554 : (1 : Int32).toInt = 1 := by decide
              have ar555 : (1 : Int32).toInt < ln.toInt := Int32.lt_iff_toInt_lt.mp hc15_448
              have ar556 : (2 : Int32).toInt = 2 := by decide
              have ar557 : ¬ ((2 : Int32).toInt < ln.toInt) := fun qq_ => hc29_469 (Int32.lt_iff_toInt_lt.mpr qq_)
              have ar558 : (3 : Int32).toInt = 3 := by decide
              have ar559 : (3 : Int32).toInt < ln.toInt := Int32.lt_iff_toInt_lt.mp hc43_545
              omega
            have k560 : ∀ tg_, Steps p.tables e below (s₁.setTop (mkF m 52 #[.val (.ref ma), .val (.int hd0), .val (.int ln), .val (.int x)] [(.int x), (.int (fm (2 + H + 3)))])) tg_ → Steps p.tables e below (s₁.setTop (entryFrame m #[(.ref ma), (.int hd0), (.int ln), (.int x)] 4)) tg_ := by
              intro tg_ kt
              refine k544 tg_ ?_
              refine XS.icmpNo X0.here hx rfl (hb hby d5_43) rfl (tlt hc43_545).2.2.2 ?_
              show Steps p.tables e below (s₁.setTop (mkF m 46 #[.val (.ref ma), .val (.int hd0), .val (.int ln), .val (.int x)] [])) _
              refine XS.aloadN X0.here hx rfl (hb hby d5_46) rfl rfl ?_
              show Steps p.tables e below (s₁.setTop (mkF m 47 #[.val (.ref ma), .val (.int hd0), .val (.int ln), .val (.int x)] [(.ref ma)])) _
              refine XS.iconst X0.here hx rfl (hb hby d5_47) ?_
              show Steps p.tables e below (s₁.setTop (mkF m 48 #[.val (.ref ma), .val (.int hd0), .val (.int ln), .val (.int x)] [(.int (5 : Int32)), (.ref ma)])) _
              refine XS.iloadN X0.here hx rfl (hb hby d5_48) rfl ?_
              show Steps p.tables e below (s₁.setTop (mkF m 49 #[.val (.ref ma), .val (.int hd0), .val (.int ln), .val (.int x)] [(.int hd0), (.int (5 : Int32)), (.ref ma)])) _
              refine XS.iadd X0.here hx rfl (hb hby d5_49) rfl ?_
              show Steps p.tables e below (s₁.setTop (mkF m 50 #[.val (.ref ma), .val (.int hd0), .val (.int ln), .val (.int x)] [(.int ((5 : Int32) + hd0)), (.ref ma)])) _
              refine own_ldI X0 hx hZ e0 V_ma (i := (2 + H + 3)) hj546 hl546 rfl (g := (mkF m 50 #[.val (.ref ma), .val (.int hd0), .val (.int ln), .val (.int x)] [(.int ((5 : Int32) + hd0)), (.ref ma)])) rfl rfl (hb hby d5_50) _ ?_
              show Steps p.tables e below (s₁.setTop (mkF m 51 #[.val (.ref ma), .val (.int hd0), .val (.int ln), .val (.int x)] [(.int (fm (2 + H + 3)))])) _
              refine XS.iloadN X0.here hx rfl (hb hby d5_51) rfl ?_
              show Steps p.tables e below (s₁.setTop (mkF m 52 #[.val (.ref ma), .val (.int hd0), .val (.int ln), .val (.int x)] [(.int x), (.int (fm (2 + H + 3)))])) _
              exact kt
            by_cases hc52_561 : (fm (2 + H + 3)) = x
            · have k562 : ∀ tg_, Steps p.tables e below (s₁.setTop (mkF m 60 #[.val (.ref ma), .val (.int hd0), .val (.int ln), .val (.int x)] [(.int (1 : Int32))])) tg_ → Steps p.tables e below (s₁.setTop (entryFrame m #[(.ref ma), (.int hd0), (.int ln), (.int x)] 4)) tg_ := by
                intro tg_ kt
                refine k560 tg_ ?_
                refine XS.icmpNo X0.here hx rfl (hb hby d5_52) rfl (teq hc52_561).2 ?_
                show Steps p.tables e below (s₁.setTop (mkF m 55 #[.val (.ref ma), .val (.int hd0), .val (.int ln), .val (.int x)] [])) _
                refine XS.iconst X0.here hx rfl (hb hby d5_55) ?_
                show Steps p.tables e below (s₁.setTop (mkF m 56 #[.val (.ref ma), .val (.int hd0), .val (.int ln), .val (.int x)] [(.int (1 : Int32))])) _
                refine XS.goto X0.here hx rfl (pc0 := 56) (pc' := 60) rfl (hb hby d5_56) (by decide) (by decide) ?_
                show Steps p.tables e below (s₁.setTop (mkF m 60 #[.val (.ref ma), .val (.int hd0), .val (.int ln), .val (.int x)] [(.int (1 : Int32))])) _
                exact kt
              have hm563 : x ∈ q := own_memD.mpr ⟨3, by
                  have ar564 : (0 : Int32).toInt = 0 := by decide
                  have ar565 := rng32 ln
                  have ar566 : ¬ ((0 : Int32).toInt < ln.toInt) := fun qq_ => hc1_156 (Int32.lt_iff_toInt_lt.mpr qq_)
                  have ar567 : (1 : Int32).toInt = 1 := by decide
                  have ar568 : (1 : Int32).toInt < ln.toInt := Int32.lt_iff_toInt_lt.mp hc15_448
                  have ar569 : (2 : Int32).toInt = 2 := by decide
                  have ar570 : ¬ ((2 : Int32).toInt < ln.toInt) := fun qq_ => hc29_469 (Int32.lt_iff_toInt_lt.mpr qq_)
                  have ar571 : (3 : Int32).toInt = 3 := by decide
                  have ar572 : (3 : Int32).toInt < ln.toInt := Int32.lt_iff_toInt_lt.mp hc43_545
                  omega, by
                  rw [← hq 3 (by
                    have ar564 : (0 : Int32).toInt = 0 := by decide
                    have ar565 := rng32 ln
                    have ar566 : ¬ ((0 : Int32).toInt < ln.toInt) := fun qq_ => hc1_156 (Int32.lt_iff_toInt_lt.mpr qq_)
                    have ar567 : (1 : Int32).toInt = 1 := by decide
                    have ar568 : (1 : Int32).toInt < ln.toInt := Int32.lt_iff_toInt_lt.mp hc15_448
                    have ar569 : (2 : Int32).toInt = 2 := by decide
                    have ar570 : ¬ ((2 : Int32).toInt < ln.toInt) := fun qq_ => hc29_469 (Int32.lt_iff_toInt_lt.mpr qq_)
                    have ar571 : (3 : Int32).toInt = 3 := by decide
                    have ar572 : (3 : Int32).toInt < ln.toInt := Int32.lt_iff_toInt_lt.mp hc43_545
                    omega)]
                  exact hc52_561⟩
              obtain ⟨fs, hr, hrun, hended, hW, hsame⟩ := X0.leave (v := some (.int (1 : Int32))) (fun h => by rw [Bd.returns] at h; cases h)
              refine ⟨_, _, k562 _ (retN X0 hx (t := .boolean) Bd.returns (by simp) (hb hby d5_60) hr), hrun, hended, _, _, rfl, ?_, ⟨_, rfl⟩, hW, hsame.mono (by decide) (by decide)⟩
              show Q5 Z ma hd0 ln x fm H q h0 n0 _ s₁.heap _
              rw [e0]
              exact ⟨(by rw [if_pos hm563]), N0, rfl⟩
            · have k573 : ∀ tg_, Steps p.tables e below (s₁.setTop (mkF m 60 #[.val (.ref ma), .val (.int hd0), .val (.int ln), .val (.int x)] [(.int (0 : Int32))])) tg_ → Steps p.tables e below (s₁.setTop (entryFrame m #[(.ref ma), (.int hd0), (.int ln), (.int x)] 4)) tg_ := by
                intro tg_ kt
                refine k560 tg_ ?_
                refine XS.icmpYes X0.here hx rfl (pc0 := 52) (pc' := 59) rfl (hb hby d5_52) rfl (feq hc52_561).2 (by decide) (by decide) ?_
                show Steps p.tables e below (s₁.setTop (mkF m 59 #[.val (.ref ma), .val (.int hd0), .val (.int ln), .val (.int x)] [])) _
                refine XS.iconst X0.here hx rfl (hb hby d5_59) ?_
                show Steps p.tables e below (s₁.setTop (mkF m 60 #[.val (.ref ma), .val (.int hd0), .val (.int ln), .val (.int x)] [(.int (0 : Int32))])) _
                exact kt
              have hm574 : ¬ x ∈ q := fun hx => by
                obtain ⟨j, hj, e⟩ := own_memD.mp hx
                rw [← hq j hj] at e
                have ar575 : (0 : Int32).toInt = 0 := by decide
                have ar576 := rng32 ln
                have ar577 : ¬ ((0 : Int32).toInt < ln.toInt) := fun qq_ => hc1_156 (Int32.lt_iff_toInt_lt.mpr qq_)
                have ar578 : (1 : Int32).toInt = 1 := by decide
                have ar579 : (1 : Int32).toInt < ln.toInt := Int32.lt_iff_toInt_lt.mp hc15_448
                have ar580 : (2 : Int32).toInt = 2 := by decide
                have ar581 : ¬ ((2 : Int32).toInt < ln.toInt) := fun qq_ => hc29_469 (Int32.lt_iff_toInt_lt.mpr qq_)
                have ar582 : (3 : Int32).toInt = 3 := by decide
                have ar583 : (3 : Int32).toInt < ln.toInt := Int32.lt_iff_toInt_lt.mp hc43_545
                have hj4 : j = 0 ∨ j = 1 ∨ j = 2 ∨ j = 3 := by omega
                rcases hj4 with rfl | rfl | rfl | rfl
                · omega
                · exact hc24_460 e
                · omega
                · exact hc52_561 e
              obtain ⟨fs, hr, hrun, hended, hW, hsame⟩ := X0.leave (v := some (.int (0 : Int32))) (fun h => by rw [Bd.returns] at h; cases h)
              refine ⟨_, _, k573 _ (retN X0 hx (t := .boolean) Bd.returns (by simp) (hb hby d5_60) hr), hrun, hended, _, _, rfl, ?_, ⟨_, rfl⟩, hW, hsame.mono (by decide) (by decide)⟩
              show Q5 Z ma hd0 ln x fm H q h0 n0 _ s₁.heap _
              rw [e0]
              exact ⟨(by rw [if_neg hm574]), N0, rfl⟩
          · have k584 : ∀ tg_, Steps p.tables e below (s₁.setTop (mkF m 60 #[.val (.ref ma), .val (.int hd0), .val (.int ln), .val (.int x)] [(.int (0 : Int32))])) tg_ → Steps p.tables e below (s₁.setTop (entryFrame m #[(.ref ma), (.int hd0), (.int ln), (.int x)] 4)) tg_ := by
              intro tg_ kt
              refine k544 tg_ ?_
              refine XS.icmpYes X0.here hx rfl (pc0 := 43) (pc' := 59) rfl (hb hby d5_43) rfl (flt hc43_545).2.2.2 (by decide) (by decide) ?_
              show Steps p.tables e below (s₁.setTop (mkF m 59 #[.val (.ref ma), .val (.int hd0), .val (.int ln), .val (.int x)] [])) _
              refine XS.iconst X0.here hx rfl (hb hby d5_59) ?_
              show Steps p.tables e below (s₁.setTop (mkF m 60 #[.val (.ref ma), .val (.int hd0), .val (.int ln), .val (.int x)] [(.int (0 : Int32))])) _
              exact kt
            have hm585 : ¬ x ∈ q := fun hx => by
              obtain ⟨j, hj, e⟩ := own_memD.mp hx
              rw [← hq j hj] at e
              have ar586 : (0 : Int32).toInt = 0 := by decide
              have ar587 := rng32 ln
              have ar588 : ¬ ((0 : Int32).toInt < ln.toInt) := fun qq_ => hc1_156 (Int32.lt_iff_toInt_lt.mpr qq_)
              have ar589 : (1 : Int32).toInt = 1 := by decide
              have ar590 : (1 : Int32).toInt < ln.toInt := Int32.lt_iff_toInt_lt.mp hc15_448
              have ar591 : (2 : Int32).toInt = 2 := by decide
              have ar592 : ¬ ((2 : Int32).toInt < ln.toInt) := fun qq_ => hc29_469 (Int32.lt_iff_toInt_lt.mpr qq_)
              have ar593 : (3 : Int32).toInt = 3 := by decide
              have ar594 : ¬ ((3 : Int32).toInt < ln.toInt) := fun qq_ => hc43_545 (Int32.lt_iff_toInt_lt.mpr qq_)
              have hj4 : j = 0 ∨ j = 1 ∨ j = 2 ∨ j = 3 := by omega
              rcases hj4 with rfl | rfl | rfl | rfl
              · omega
              · exact hc24_460 e
              · omega
              · omega
            obtain ⟨fs, hr, hrun, hended, hW, hsame⟩ := X0.leave (v := some (.int (0 : Int32))) (fun h => by rw [Bd.returns] at h; cases h)
            refine ⟨_, _, k584 _ (retN X0 hx (t := .boolean) Bd.returns (by simp) (hb hby d5_60) hr), hrun, hended, _, _, rfl, ?_, ⟨_, rfl⟩, hW, hsame.mono (by decide) (by decide)⟩
            show Q5 Z ma hd0 ln x fm H q h0 n0 _ s₁.heap _
            rw [e0]
            exact ⟨(by rw [if_neg hm585]), N0, rfl⟩
    · have k595 : ∀ tg_, Steps p.tables e below (s₁.setTop (mkF m 29 #[.val (.ref ma), .val (.int hd0), .val (.int ln), .val (.int x)] [(.int (2 : Int32)), (.int ln)])) tg_ → Steps p.tables e below (s₁.setTop (entryFrame m #[(.ref ma), (.int hd0), (.int ln), (.int x)] 4)) tg_ := by
        intro tg_ kt
        refine k447 tg_ ?_
        refine XS.icmpYes X0.here hx rfl (pc0 := 15) (pc' := 27) rfl (hb hby d5_15) rfl (flt hc15_448).2.2.2 (by decide) (by decide) ?_
        show Steps p.tables e below (s₁.setTop (mkF m 27 #[.val (.ref ma), .val (.int hd0), .val (.int ln), .val (.int x)] [])) _
        refine XS.iloadN X0.here hx rfl (hb hby d5_27) rfl ?_
        show Steps p.tables e below (s₁.setTop (mkF m 28 #[.val (.ref ma), .val (.int hd0), .val (.int ln), .val (.int x)] [(.int ln)])) _
        refine XS.iconst X0.here hx rfl (hb hby d5_28) ?_
        show Steps p.tables e below (s₁.setTop (mkF m 29 #[.val (.ref ma), .val (.int hd0), .val (.int ln), .val (.int x)] [(.int (2 : Int32)), (.int ln)])) _
        exact kt
      by_cases hc29_596 : (2 : Int32) < ln
      · have hj597 : ((4 : Int32) + hd0).toInt = ((2 + H + 2 : Nat) : Int) := by
          have ar598 : (4 : Int32).toInt = 4 := by decide
          have ar599 := rng32 hd0
          have ar600 := rng32 ((4 : Int32) + hd0)
          first | have ar601 : ((4 : Int32) + hd0).toInt = 4 + hd0.toInt := (by have qw := c_iadd (4 : Int32) hd0; omega) | (have ar601 := c_iadd (4 : Int32) hd0; skip)
          have ar602 := rng32 ln
          have ar603 : (0 : Int32).toInt = 0 := by decide
          have ar604 : ¬ ((0 : Int32).toInt < ln.toInt) := fun qq_ => hc1_156 (Int32.lt_iff_toInt_lt.mpr qq_)
          have ar605 : (1 : Int32).toInt = 1 := by decide
          have ar606 : ¬ ((1 : Int32).toInt < ln.toInt) := fun qq_ => hc15_448 (Int32.lt_iff_toInt_lt.mpr qq_)
          have ar607 : (2 : Int32).toInt = 2 := by decide
          have ar608 : (2 : Int32).toInt < ln.toInt := Int32.lt_iff_toInt_lt.mp hc29_596
          omega
        have hl597 : 2 + H + 2 < 16 := by
          have ar598 : (4 : Int32).toInt = 4 := by decide
          have ar599 := rng32 hd0
          have ar600 := rng32 ((4 : Int32) + hd0)
          first | have ar601 : ((4 : Int32) + hd0).toInt = 4 + hd0.toInt := (by have qw := c_iadd (4 : Int32) hd0; omega) | (have ar601 := c_iadd (4 : Int32) hd0; skip)
          have ar602 := rng32 ln
          have ar603 : (0 : Int32).toInt = 0 := by decide
          have ar604 : ¬ ((0 : Int32).toInt < ln.toInt) := fun qq_ => hc1_156 (Int32.lt_iff_toInt_lt.mpr qq_)
          have ar605 : (1 : Int32).toInt = 1 := by decide
          have ar606 : ¬ ((1 : Int32).toInt < ln.toInt) := fun qq_ => hc15_448 (Int32.lt_iff_toInt_lt.mpr qq_)
          have ar607 : (2 : Int32).toInt = 2 := by decide
          have ar608 : (2 : Int32).toInt < ln.toInt := Int32.lt_iff_toInt_lt.mp hc29_596
          omega
        have k609 : ∀ tg_, Steps p.tables e below (s₁.setTop (mkF m 38 #[.val (.ref ma), .val (.int hd0), .val (.int ln), .val (.int x)] [(.int x), (.int (fm (2 + H + 2)))])) tg_ → Steps p.tables e below (s₁.setTop (entryFrame m #[(.ref ma), (.int hd0), (.int ln), (.int x)] 4)) tg_ := by
          intro tg_ kt
          refine k595 tg_ ?_
          refine XS.icmpNo X0.here hx rfl (hb hby d5_29) rfl (tlt hc29_596).2.2.2 ?_
          show Steps p.tables e below (s₁.setTop (mkF m 32 #[.val (.ref ma), .val (.int hd0), .val (.int ln), .val (.int x)] [])) _
          refine XS.aloadN X0.here hx rfl (hb hby d5_32) rfl rfl ?_
          show Steps p.tables e below (s₁.setTop (mkF m 33 #[.val (.ref ma), .val (.int hd0), .val (.int ln), .val (.int x)] [(.ref ma)])) _
          refine XS.iconst X0.here hx rfl (hb hby d5_33) ?_
          show Steps p.tables e below (s₁.setTop (mkF m 34 #[.val (.ref ma), .val (.int hd0), .val (.int ln), .val (.int x)] [(.int (4 : Int32)), (.ref ma)])) _
          refine XS.iloadN X0.here hx rfl (hb hby d5_34) rfl ?_
          show Steps p.tables e below (s₁.setTop (mkF m 35 #[.val (.ref ma), .val (.int hd0), .val (.int ln), .val (.int x)] [(.int hd0), (.int (4 : Int32)), (.ref ma)])) _
          refine XS.iadd X0.here hx rfl (hb hby d5_35) rfl ?_
          show Steps p.tables e below (s₁.setTop (mkF m 36 #[.val (.ref ma), .val (.int hd0), .val (.int ln), .val (.int x)] [(.int ((4 : Int32) + hd0)), (.ref ma)])) _
          refine own_ldI X0 hx hZ e0 V_ma (i := (2 + H + 2)) hj597 hl597 rfl (g := (mkF m 36 #[.val (.ref ma), .val (.int hd0), .val (.int ln), .val (.int x)] [(.int ((4 : Int32) + hd0)), (.ref ma)])) rfl rfl (hb hby d5_36) _ ?_
          show Steps p.tables e below (s₁.setTop (mkF m 37 #[.val (.ref ma), .val (.int hd0), .val (.int ln), .val (.int x)] [(.int (fm (2 + H + 2)))])) _
          refine XS.iloadN X0.here hx rfl (hb hby d5_37) rfl ?_
          show Steps p.tables e below (s₁.setTop (mkF m 38 #[.val (.ref ma), .val (.int hd0), .val (.int ln), .val (.int x)] [(.int x), (.int (fm (2 + H + 2)))])) _
          exact kt
        by_cases hc38_610 : (fm (2 + H + 2)) = x
        · have k611 : ∀ tg_, Steps p.tables e below (s₁.setTop (mkF m 60 #[.val (.ref ma), .val (.int hd0), .val (.int ln), .val (.int x)] [(.int (1 : Int32))])) tg_ → Steps p.tables e below (s₁.setTop (entryFrame m #[(.ref ma), (.int hd0), (.int ln), (.int x)] 4)) tg_ := by
            intro tg_ kt
            refine k609 tg_ ?_
            refine XS.icmpYes X0.here hx rfl (pc0 := 38) (pc' := 55) rfl (hb hby d5_38) rfl (teq hc38_610).1 (by decide) (by decide) ?_
            show Steps p.tables e below (s₁.setTop (mkF m 55 #[.val (.ref ma), .val (.int hd0), .val (.int ln), .val (.int x)] [])) _
            refine XS.iconst X0.here hx rfl (hb hby d5_55) ?_
            show Steps p.tables e below (s₁.setTop (mkF m 56 #[.val (.ref ma), .val (.int hd0), .val (.int ln), .val (.int x)] [(.int (1 : Int32))])) _
            refine XS.goto X0.here hx rfl (pc0 := 56) (pc' := 60) rfl (hb hby d5_56) (by decide) (by decide) ?_
            show Steps p.tables e below (s₁.setTop (mkF m 60 #[.val (.ref ma), .val (.int hd0), .val (.int ln), .val (.int x)] [(.int (1 : Int32))])) _
            exact kt
          have hm612 : x ∈ q := own_memD.mpr ⟨2, by
              have ar613 : (0 : Int32).toInt = 0 := by decide
              have ar614 := rng32 ln
              have ar615 : ¬ ((0 : Int32).toInt < ln.toInt) := fun qq_ => hc1_156 (Int32.lt_iff_toInt_lt.mpr qq_)
              have ar616 : (1 : Int32).toInt = 1 := by decide
              have ar617 : ¬ ((1 : Int32).toInt < ln.toInt) := fun qq_ => hc15_448 (Int32.lt_iff_toInt_lt.mpr qq_)
              have ar618 : (2 : Int32).toInt = 2 := by decide
              have ar619 : (2 : Int32).toInt < ln.toInt := Int32.lt_iff_toInt_lt.mp hc29_596
              omega, by
              rw [← hq 2 (by
                have ar613 : (0 : Int32).toInt = 0 := by decide
                have ar614 := rng32 ln
                have ar615 : ¬ ((0 : Int32).toInt < ln.toInt) := fun qq_ => hc1_156 (Int32.lt_iff_toInt_lt.mpr qq_)
                have ar616 : (1 : Int32).toInt = 1 := by decide
                have ar617 : ¬ ((1 : Int32).toInt < ln.toInt) := fun qq_ => hc15_448 (Int32.lt_iff_toInt_lt.mpr qq_)
                have ar618 : (2 : Int32).toInt = 2 := by decide
                have ar619 : (2 : Int32).toInt < ln.toInt := Int32.lt_iff_toInt_lt.mp hc29_596
                omega)]
              exact hc38_610⟩
          obtain ⟨fs, hr, hrun, hended, hW, hsame⟩ := X0.leave (v := some (.int (1 : Int32))) (fun h => by rw [Bd.returns] at h; cases h)
          refine ⟨_, _, k611 _ (retN X0 hx (t := .boolean) Bd.returns (by simp) (hb hby d5_60) hr), hrun, hended, _, _, rfl, ?_, ⟨_, rfl⟩, hW, hsame.mono (by decide) (by decide)⟩
          show Q5 Z ma hd0 ln x fm H q h0 n0 _ s₁.heap _
          rw [e0]
          exact ⟨(by rw [if_pos hm612]), N0, rfl⟩
        · have k620 : ∀ tg_, Steps p.tables e below (s₁.setTop (mkF m 43 #[.val (.ref ma), .val (.int hd0), .val (.int ln), .val (.int x)] [(.int (3 : Int32)), (.int ln)])) tg_ → Steps p.tables e below (s₁.setTop (entryFrame m #[(.ref ma), (.int hd0), (.int ln), (.int x)] 4)) tg_ := by
            intro tg_ kt
            refine k609 tg_ ?_
            refine XS.icmpNo X0.here hx rfl (hb hby d5_38) rfl (feq hc38_610).1 ?_
            show Steps p.tables e below (s₁.setTop (mkF m 41 #[.val (.ref ma), .val (.int hd0), .val (.int ln), .val (.int x)] [])) _
            refine XS.iloadN X0.here hx rfl (hb hby d5_41) rfl ?_
            show Steps p.tables e below (s₁.setTop (mkF m 42 #[.val (.ref ma), .val (.int hd0), .val (.int ln), .val (.int x)] [(.int ln)])) _
            refine XS.iconst X0.here hx rfl (hb hby d5_42) ?_
            show Steps p.tables e below (s₁.setTop (mkF m 43 #[.val (.ref ma), .val (.int hd0), .val (.int ln), .val (.int x)] [(.int (3 : Int32)), (.int ln)])) _
            exact kt
          by_cases hc43_621 : (3 : Int32) < ln
          · have hj622 : ((5 : Int32) + hd0).toInt = ((2 + H + 3 : Nat) : Int) := by
              have ar623 : (5 : Int32).toInt = 5 := by decide
              have ar624 := rng32 hd0
              have ar625 := rng32 ((5 : Int32) + hd0)
              first | have ar626 : ((5 : Int32) + hd0).toInt = 5 + hd0.toInt := (by have qw := c_iadd (5 : Int32) hd0; omega) | (have ar626 := c_iadd (5 : Int32) hd0; skip)
              have ar627 := rng32 ln
              have ar628 : (0 : Int32).toInt = 0 := by decide
              have ar629 : ¬ ((0 : Int32).toInt < ln.toInt) := fun qq_ => hc1_156 (Int32.lt_iff_toInt_lt.mpr qq_)
              have ar630 : (1 : Int32).toInt = 1 := by decide
              have ar631 : ¬ ((1 : Int32).toInt < ln.toInt) := fun qq_ => hc15_448 (Int32.lt_iff_toInt_lt.mpr qq_)
              have ar632 : (2 : Int32).toInt = 2 := by decide
              have ar633 : (2 : Int32).toInt < ln.toInt := Int32.lt_iff_toInt_lt.mp hc29_596
              have ar634 : (3 : Int32).toInt = 3 := by decide
              have ar635 : (3 : Int32).toInt < ln.toInt := Int32.lt_iff_toInt_lt.mp hc43_621
              omega
            have hl622 : 2 + H + 3 < 16 := by
              have ar623 : (5 : Int32).toInt = 5 := by decide
              have ar624 := rng32 hd0
              have ar625 := rng32 ((5 : Int32) + hd0)
              first | have ar626 : ((5 : Int32) + hd0).toInt = 5 + hd0.toInt := (by have qw := c_iadd (5 : Int32) hd0; omega) | (have ar626 := c_iadd (5 : Int32) hd0; skip)
              have ar627 := rng32 ln
              have ar628 : (0 : Int32).toInt = 0 := by decide
              have ar629 : ¬ ((0 : Int32).toInt < ln.toInt) := fun qq_ => hc1_156 (Int32.lt_iff_toInt_lt.mpr qq_)
              have ar630 : (1 : Int32).toInt = 1 := by decide
              have ar631 : ¬ ((1 : Int32).toInt < ln.toInt) := fun qq_ => hc15_448 (Int32.lt_iff_toInt_lt.mpr qq_)
              have ar632 : (2 : Int32).toInt = 2 := by decide
              have ar633 : (2 : Int32).toInt < ln.toInt := Int32.lt_iff_toInt_lt.mp hc29_596
              have ar634 : (3 : Int32).toInt = 3 := by decide
              have ar635 : (3 : Int32).toInt < ln.toInt := Int32.lt_iff_toInt_lt.mp hc43_621
              omega
            have k636 : ∀ tg_, Steps p.tables e below (s₁.setTop (mkF m 52 #[.val (.ref ma), .val (.int hd0), .val (.int ln), .val (.int x)] [(.int x), (.int (fm (2 + H + 3)))])) tg_ → Steps p.tables e below (s₁.setTop (entryFrame m #[(.ref ma), (.int hd0), (.int ln), (.int x)] 4)) tg_ := by
              intro tg_ kt
              refine k620 tg_ ?_
              refine XS.icmpNo X0.here hx rfl (hb hby d5_43) rfl (tlt hc43_621).2.2.2 ?_
              show Steps p.tables e below (s₁.setTop (mkF m 46 #[.val (.ref ma), .val (.int hd0), .val (.int ln), .val (.int x)] [])) _
              refine XS.aloadN X0.here hx rfl (hb hby d5_46) rfl rfl ?_
              show Steps p.tables e below (s₁.setTop (mkF m 47 #[.val (.ref ma), .val (.int hd0), .val (.int ln), .val (.int x)] [(.ref ma)])) _
              refine XS.iconst X0.here hx rfl (hb hby d5_47) ?_
              show Steps p.tables e below (s₁.setTop (mkF m 48 #[.val (.ref ma), .val (.int hd0), .val (.int ln), .val (.int x)] [(.int (5 : Int32)), (.ref ma)])) _
              refine XS.iloadN X0.here hx rfl (hb hby d5_48) rfl ?_
              show Steps p.tables e below (s₁.setTop (mkF m 49 #[.val (.ref ma), .val (.int hd0), .val (.int ln), .val (.int x)] [(.int hd0), (.int (5 : Int32)), (.ref ma)])) _
              refine XS.iadd X0.here hx rfl (hb hby d5_49) rfl ?_
              show Steps p.tables e below (s₁.setTop (mkF m 50 #[.val (.ref ma), .val (.int hd0), .val (.int ln), .val (.int x)] [(.int ((5 : Int32) + hd0)), (.ref ma)])) _
              refine own_ldI X0 hx hZ e0 V_ma (i := (2 + H + 3)) hj622 hl622 rfl (g := (mkF m 50 #[.val (.ref ma), .val (.int hd0), .val (.int ln), .val (.int x)] [(.int ((5 : Int32) + hd0)), (.ref ma)])) rfl rfl (hb hby d5_50) _ ?_
              show Steps p.tables e below (s₁.setTop (mkF m 51 #[.val (.ref ma), .val (.int hd0), .val (.int ln), .val (.int x)] [(.int (fm (2 + H + 3)))])) _
              refine XS.iloadN X0.here hx rfl (hb hby d5_51) rfl ?_
              show Steps p.tables e below (s₁.setTop (mkF m 52 #[.val (.ref ma), .val (.int hd0), .val (.int ln), .val (.int x)] [(.int x), (.int (fm (2 + H + 3)))])) _
              exact kt
            by_cases hc52_637 : (fm (2 + H + 3)) = x
            · have k638 : ∀ tg_, Steps p.tables e below (s₁.setTop (mkF m 60 #[.val (.ref ma), .val (.int hd0), .val (.int ln), .val (.int x)] [(.int (1 : Int32))])) tg_ → Steps p.tables e below (s₁.setTop (entryFrame m #[(.ref ma), (.int hd0), (.int ln), (.int x)] 4)) tg_ := by
                intro tg_ kt
                refine k636 tg_ ?_
                refine XS.icmpNo X0.here hx rfl (hb hby d5_52) rfl (teq hc52_637).2 ?_
                show Steps p.tables e below (s₁.setTop (mkF m 55 #[.val (.ref ma), .val (.int hd0), .val (.int ln), .val (.int x)] [])) _
                refine XS.iconst X0.here hx rfl (hb hby d5_55) ?_
                show Steps p.tables e below (s₁.setTop (mkF m 56 #[.val (.ref ma), .val (.int hd0), .val (.int ln), .val (.int x)] [(.int (1 : Int32))])) _
                refine XS.goto X0.here hx rfl (pc0 := 56) (pc' := 60) rfl (hb hby d5_56) (by decide) (by decide) ?_
                show Steps p.tables e below (s₁.setTop (mkF m 60 #[.val (.ref ma), .val (.int hd0), .val (.int ln), .val (.int x)] [(.int (1 : Int32))])) _
                exact kt
              have hm639 : x ∈ q := own_memD.mpr ⟨3, by
                  have ar640 : (0 : Int32).toInt = 0 := by decide
                  have ar641 := rng32 ln
                  have ar642 : ¬ ((0 : Int32).toInt < ln.toInt) := fun qq_ => hc1_156 (Int32.lt_iff_toInt_lt.mpr qq_)
                  have ar643 : (1 : Int32).toInt = 1 := by decide
                  have ar644 : ¬ ((1 : Int32).toInt < ln.toInt) := fun qq_ => hc15_448 (Int32.lt_iff_toInt_lt.mpr qq_)
                  have ar645 : (2 : Int32).toInt = 2 := by decide
                  have ar646 : (2 : Int32).toInt < ln.toInt := Int32.lt_iff_toInt_lt.mp hc29_596
                  have ar647 : (3 : Int32).toInt = 3 := by decide
                  have ar648 : (3 : Int32).toInt < ln.toInt := Int32.lt_iff_toInt_lt.mp hc43_621
                  omega, by
                  rw [← hq 3 (by
                    have ar640 : (0 : Int32).toInt = 0 := by decide
                    have ar641 := rng32 ln
                    have ar642 : ¬ ((0 : Int32).toInt < ln.toInt) := fun qq_ => hc1_156 (Int32.lt_iff_toInt_lt.mpr qq_)
                    have ar643 : (1 : Int32).toInt = 1 := by decide
                    have ar644 : ¬ ((1 : Int32).toInt < ln.toInt) := fun qq_ => hc15_448 (Int32.lt_iff_toInt_lt.mpr qq_)
                    have ar645 : (2 : Int32).toInt = 2 := by decide
                    have ar646 : (2 : Int32).toInt < ln.toInt := Int32.lt_iff_toInt_lt.mp hc29_596
                    have ar647 : (3 : Int32).toInt = 3 := by decide
                    have ar648 : (3 : Int32).toInt < ln.toInt := Int32.lt_iff_toInt_lt.mp hc43_621
                    omega)]
                  exact hc52_637⟩
              obtain ⟨fs, hr, hrun, hended, hW, hsame⟩ := X0.leave (v := some (.int (1 : Int32))) (fun h => by rw [Bd.returns] at h; cases h)
              refine ⟨_, _, k638 _ (retN X0 hx (t := .boolean) Bd.returns (by simp) (hb hby d5_60) hr), hrun, hended, _, _, rfl, ?_, ⟨_, rfl⟩, hW, hsame.mono (by decide) (by decide)⟩
              show Q5 Z ma hd0 ln x fm H q h0 n0 _ s₁.heap _
              rw [e0]
              exact ⟨(by rw [if_pos hm639]), N0, rfl⟩
            · have k649 : ∀ tg_, Steps p.tables e below (s₁.setTop (mkF m 60 #[.val (.ref ma), .val (.int hd0), .val (.int ln), .val (.int x)] [(.int (0 : Int32))])) tg_ → Steps p.tables e below (s₁.setTop (entryFrame m #[(.ref ma), (.int hd0), (.int ln), (.int x)] 4)) tg_ := by
                intro tg_ kt
                refine k636 tg_ ?_
                refine XS.icmpYes X0.here hx rfl (pc0 := 52) (pc' := 59) rfl (hb hby d5_52) rfl (feq hc52_637).2 (by decide) (by decide) ?_
                show Steps p.tables e below (s₁.setTop (mkF m 59 #[.val (.ref ma), .val (.int hd0), .val (.int ln), .val (.int x)] [])) _
                refine XS.iconst X0.here hx rfl (hb hby d5_59) ?_
                show Steps p.tables e below (s₁.setTop (mkF m 60 #[.val (.ref ma), .val (.int hd0), .val (.int ln), .val (.int x)] [(.int (0 : Int32))])) _
                exact kt
              have hm650 : ¬ x ∈ q := fun hx => by
                obtain ⟨j, hj, e⟩ := own_memD.mp hx
                rw [← hq j hj] at e
                have ar651 : (0 : Int32).toInt = 0 := by decide
                have ar652 := rng32 ln
                have ar653 : ¬ ((0 : Int32).toInt < ln.toInt) := fun qq_ => hc1_156 (Int32.lt_iff_toInt_lt.mpr qq_)
                have ar654 : (1 : Int32).toInt = 1 := by decide
                have ar655 : ¬ ((1 : Int32).toInt < ln.toInt) := fun qq_ => hc15_448 (Int32.lt_iff_toInt_lt.mpr qq_)
                have ar656 : (2 : Int32).toInt = 2 := by decide
                have ar657 : (2 : Int32).toInt < ln.toInt := Int32.lt_iff_toInt_lt.mp hc29_596
                have ar658 : (3 : Int32).toInt = 3 := by decide
                have ar659 : (3 : Int32).toInt < ln.toInt := Int32.lt_iff_toInt_lt.mp hc43_621
                have hj4 : j = 0 ∨ j = 1 ∨ j = 2 ∨ j = 3 := by omega
                rcases hj4 with rfl | rfl | rfl | rfl
                · omega
                · omega
                · exact hc38_610 e
                · exact hc52_637 e
              obtain ⟨fs, hr, hrun, hended, hW, hsame⟩ := X0.leave (v := some (.int (0 : Int32))) (fun h => by rw [Bd.returns] at h; cases h)
              refine ⟨_, _, k649 _ (retN X0 hx (t := .boolean) Bd.returns (by simp) (hb hby d5_60) hr), hrun, hended, _, _, rfl, ?_, ⟨_, rfl⟩, hW, hsame.mono (by decide) (by decide)⟩
              show Q5 Z ma hd0 ln x fm H q h0 n0 _ s₁.heap _
              rw [e0]
              exact ⟨(by rw [if_neg hm650]), N0, rfl⟩
          · have k660 : ∀ tg_, Steps p.tables e below (s₁.setTop (mkF m 60 #[.val (.ref ma), .val (.int hd0), .val (.int ln), .val (.int x)] [(.int (0 : Int32))])) tg_ → Steps p.tables e below (s₁.setTop (entryFrame m #[(.ref ma), (.int hd0), (.int ln), (.int x)] 4)) tg_ := by
              intro tg_ kt
              refine k620 tg_ ?_
              refine XS.icmpYes X0.here hx rfl (pc0 := 43) (pc' := 59) rfl (hb hby d5_43) rfl (flt hc43_621).2.2.2 (by decide) (by decide) ?_
              show Steps p.tables e below (s₁.setTop (mkF m 59 #[.val (.ref ma), .val (.int hd0), .val (.int ln), .val (.int x)] [])) _
              refine XS.iconst X0.here hx rfl (hb hby d5_59) ?_
              show Steps p.tables e below (s₁.setTop (mkF m 60 #[.val (.ref ma), .val (.int hd0), .val (.int ln), .val (.int x)] [(.int (0 : Int32))])) _
              exact kt
            have hm661 : ¬ x ∈ q := fun hx => by
              obtain ⟨j, hj, e⟩ := own_memD.mp hx
              rw [← hq j hj] at e
              have ar662 : (0 : Int32).toInt = 0 := by decide
              have ar663 := rng32 ln
              have ar664 : ¬ ((0 : Int32).toInt < ln.toInt) := fun qq_ => hc1_156 (Int32.lt_iff_toInt_lt.mpr qq_)
              have ar665 : (1 : Int32).toInt = 1 := by decide
              have ar666 : ¬ ((1 : Int32).toInt < ln.toInt) := fun qq_ => hc15_448 (Int32.lt_iff_toInt_lt.mpr qq_)
              have ar667 : (2 : Int32).toInt = 2 := by decide
              have ar668 : (2 : Int32).toInt < ln.toInt := Int32.lt_iff_toInt_lt.mp hc29_596
              have ar669 : (3 : Int32).toInt = 3 := by decide
              have ar670 : ¬ ((3 : Int32).toInt < ln.toInt) := fun qq_ => hc43_621 (Int32.lt_iff_toInt_lt.mpr qq_)
              have hj4 : j = 0 ∨ j = 1 ∨ j = 2 ∨ j = 3 := by omega
              rcases hj4 with rfl | rfl | rfl | rfl
              · omega
              · omega
              · exact hc38_610 e
              · omega
            obtain ⟨fs, hr, hrun, hended, hW, hsame⟩ := X0.leave (v := some (.int (0 : Int32))) (fun h => by rw [Bd.returns] at h; cases h)
            refine ⟨_, _, k660 _ (retN X0 hx (t := .boolean) Bd.returns (by simp) (hb hby d5_60) hr), hrun, hended, _, _, rfl, ?_, ⟨_, rfl⟩, hW, hsame.mono (by decide) (by decide)⟩
            show Q5 Z ma hd0 ln x fm H q h0 n0 _ s₁.heap _
            rw [e0]
            exact ⟨(by rw [if_neg hm661]), N0, rfl⟩
      · have k671 : ∀ tg_, Steps p.tables e below (s₁.setTop (mkF m 43 #[.val (.ref ma), .val (.int hd0), .val (.int ln), .val (.int x)] [(.int (3 : Int32)), (.int ln)])) tg_ → Steps p.tables e below (s₁.setTop (entryFrame m #[(.ref ma), (.int hd0), (.int ln), (.int x)] 4)) tg_ := by
          intro tg_ kt
          refine k595 tg_ ?_
          refine XS.icmpYes X0.here hx rfl (pc0 := 29) (pc' := 41) rfl (hb hby d5_29) rfl (flt hc29_596).2.2.2 (by decide) (by decide) ?_
          show Steps p.tables e below (s₁.setTop (mkF m 41 #[.val (.ref ma), .val (.int hd0), .val (.int ln), .val (.int x)] [])) _
          refine XS.iloadN X0.here hx rfl (hb hby d5_41) rfl ?_
          show Steps p.tables e below (s₁.setTop (mkF m 42 #[.val (.ref ma), .val (.int hd0), .val (.int ln), .val (.int x)] [(.int ln)])) _
          refine XS.iconst X0.here hx rfl (hb hby d5_42) ?_
          show Steps p.tables e below (s₁.setTop (mkF m 43 #[.val (.ref ma), .val (.int hd0), .val (.int ln), .val (.int x)] [(.int (3 : Int32)), (.int ln)])) _
          exact kt
        by_cases hc43_672 : (3 : Int32) < ln
        · have hj673 : ((5 : Int32) + hd0).toInt = ((2 + H + 3 : Nat) : Int) := by
            have ar674 : (5 : Int32).toInt = 5 := by decide
            have ar675 := rng32 hd0
            have ar676 := rng32 ((5 : Int32) + hd0)
            first | have ar677 : ((5 : Int32) + hd0).toInt = 5 + hd0.toInt := (by have qw := c_iadd (5 : Int32) hd0; omega) | (have ar677 := c_iadd (5 : Int32) hd0; skip)
            have ar678 := rng32 ln
            have ar679 : (0 : Int32).toInt = 0 := by decide
            have ar680 : ¬ ((0 : Int32).toInt < ln.toInt) := fun qq_ => hc1_156 (Int32.lt_iff_toInt_lt.mpr qq_)
            have ar681 : (1 : Int32).toInt = 1 := by decide
            have ar682 : ¬ ((1 : Int32).toInt < ln.toInt) := fun qq_ => hc15_448 (Int32.lt_iff_toInt_lt.mpr qq_)
            have ar683 : (2 : Int32).toInt = 2 := by decide
            have ar684 : ¬ ((2 : Int32).toInt < ln.toInt) := fun qq_ => hc29_596 (Int32.lt_iff_toInt_lt.mpr qq_)
            have ar685 : (3 : Int32).toInt = 3 := by decide
            have ar686 : (3 : Int32).toInt < ln.toInt := Int32.lt_iff_toInt_lt.mp hc43_672
            omega
          have hl673 : 2 + H + 3 < 16 := by
            have ar674 : (5 : Int32).toInt = 5 := by decide
            have ar675 := rng32 hd0
            have ar676 := rng32 ((5 : Int32) + hd0)
            first | have ar677 : ((5 : Int32) + hd0).toInt = 5 + hd0.toInt := (by have qw := c_iadd (5 : Int32) hd0; omega) | (have ar677 := c_iadd (5 : Int32) hd0; skip)
            have ar678 := rng32 ln
            have ar679 : (0 : Int32).toInt = 0 := by decide
            have ar680 : ¬ ((0 : Int32).toInt < ln.toInt) := fun qq_ => hc1_156 (Int32.lt_iff_toInt_lt.mpr qq_)
            have ar681 : (1 : Int32).toInt = 1 := by decide
            have ar682 : ¬ ((1 : Int32).toInt < ln.toInt) := fun qq_ => hc15_448 (Int32.lt_iff_toInt_lt.mpr qq_)
            have ar683 : (2 : Int32).toInt = 2 := by decide
            have ar684 : ¬ ((2 : Int32).toInt < ln.toInt) := fun qq_ => hc29_596 (Int32.lt_iff_toInt_lt.mpr qq_)
            have ar685 : (3 : Int32).toInt = 3 := by decide
            have ar686 : (3 : Int32).toInt < ln.toInt := Int32.lt_iff_toInt_lt.mp hc43_672
            omega
          have k687 : ∀ tg_, Steps p.tables e below (s₁.setTop (mkF m 52 #[.val (.ref ma), .val (.int hd0), .val (.int ln), .val (.int x)] [(.int x), (.int (fm (2 + H + 3)))])) tg_ → Steps p.tables e below (s₁.setTop (entryFrame m #[(.ref ma), (.int hd0), (.int ln), (.int x)] 4)) tg_ := by
            intro tg_ kt
            refine k671 tg_ ?_
            refine XS.icmpNo X0.here hx rfl (hb hby d5_43) rfl (tlt hc43_672).2.2.2 ?_
            show Steps p.tables e below (s₁.setTop (mkF m 46 #[.val (.ref ma), .val (.int hd0), .val (.int ln), .val (.int x)] [])) _
            refine XS.aloadN X0.here hx rfl (hb hby d5_46) rfl rfl ?_
            show Steps p.tables e below (s₁.setTop (mkF m 47 #[.val (.ref ma), .val (.int hd0), .val (.int ln), .val (.int x)] [(.ref ma)])) _
            refine XS.iconst X0.here hx rfl (hb hby d5_47) ?_
            show Steps p.tables e below (s₁.setTop (mkF m 48 #[.val (.ref ma), .val (.int hd0), .val (.int ln), .val (.int x)] [(.int (5 : Int32)), (.ref ma)])) _
            refine XS.iloadN X0.here hx rfl (hb hby d5_48) rfl ?_
            show Steps p.tables e below (s₁.setTop (mkF m 49 #[.val (.ref ma), .val (.int hd0), .val (.int ln), .val (.int x)] [(.int hd0), (.int (5 : Int32)), (.ref ma)])) _
            refine XS.iadd X0.here hx rfl (hb hby d5_49) rfl ?_
            show Steps p.tables e below (s₁.setTop (mkF m 50 #[.val (.ref ma), .val (.int hd0), .val (.int ln), .val (.int x)] [(.int ((5 : Int32) + hd0)), (.ref ma)])) _
            refine own_ldI X0 hx hZ e0 V_ma (i := (2 + H + 3)) hj673 hl673 rfl (g := (mkF m 50 #[.val (.ref ma), .val (.int hd0), .val (.int ln), .val (.int x)] [(.int ((5 : Int32) + hd0)), (.ref ma)])) rfl rfl (hb hby d5_50) _ ?_
            show Steps p.tables e below (s₁.setTop (mkF m 51 #[.val (.ref ma), .val (.int hd0), .val (.int ln), .val (.int x)] [(.int (fm (2 + H + 3)))])) _
            refine XS.iloadN X0.here hx rfl (hb hby d5_51) rfl ?_
            show Steps p.tables e below (s₁.setTop (mkF m 52 #[.val (.ref ma), .val (.int hd0), .val (.int ln), .val (.int x)] [(.int x), (.int (fm (2 + H + 3)))])) _
            exact kt
          by_cases hc52_688 : (fm (2 + H + 3)) = x
          · have k689 : ∀ tg_, Steps p.tables e below (s₁.setTop (mkF m 60 #[.val (.ref ma), .val (.int hd0), .val (.int ln), .val (.int x)] [(.int (1 : Int32))])) tg_ → Steps p.tables e below (s₁.setTop (entryFrame m #[(.ref ma), (.int hd0), (.int ln), (.int x)] 4)) tg_ := by
              intro tg_ kt
              refine k687 tg_ ?_
              refine XS.icmpNo X0.here hx rfl (hb hby d5_52) rfl (teq hc52_688).2 ?_
              show Steps p.tables e below (s₁.setTop (mkF m 55 #[.val (.ref ma), .val (.int hd0), .val (.int ln), .val (.int x)] [])) _
              refine XS.iconst X0.here hx rfl (hb hby d5_55) ?_
              show Steps p.tables e below (s₁.setTop (mkF m 56 #[.val (.ref ma), .val (.int hd0), .val (.int ln), .val (.int x)] [(.int (1 : Int32))])) _
              refine XS.goto X0.here hx rfl (pc0 := 56) (pc' := 60) rfl (hb hby d5_56) (by decide) (by decide) ?_
              show Steps p.tables e below (s₁.setTop (mkF m 60 #[.val (.ref ma), .val (.int hd0), .val (.int ln), .val (.int x)] [(.int (1 : Int32))])) _
              exact kt
            have hm690 : x ∈ q := own_memD.mpr ⟨3, by
                have ar691 : (0 : Int32).toInt = 0 := by decide
                have ar692 := rng32 ln
                have ar693 : ¬ ((0 : Int32).toInt < ln.toInt) := fun qq_ => hc1_156 (Int32.lt_iff_toInt_lt.mpr qq_)
                have ar694 : (1 : Int32).toInt = 1 := by decide
                have ar695 : ¬ ((1 : Int32).toInt < ln.toInt) := fun qq_ => hc15_448 (Int32.lt_iff_toInt_lt.mpr qq_)
                have ar696 : (2 : Int32).toInt = 2 := by decide
                have ar697 : ¬ ((2 : Int32).toInt < ln.toInt) := fun qq_ => hc29_596 (Int32.lt_iff_toInt_lt.mpr qq_)
                have ar698 : (3 : Int32).toInt = 3 := by decide
                have ar699 : (3 : Int32).toInt < ln.toInt := Int32.lt_iff_toInt_lt.mp hc43_672
                omega, by
                rw [← hq 3 (by
                  have ar691 : (0 : Int32).toInt = 0 := by decide
                  have ar692 := rng32 ln
                  have ar693 : ¬ ((0 : Int32).toInt < ln.toInt) := fun qq_ => hc1_156 (Int32.lt_iff_toInt_lt.mpr qq_)
                  have ar694 : (1 : Int32).toInt = 1 := by decide
                  have ar695 : ¬ ((1 : Int32).toInt < ln.toInt) := fun qq_ => hc15_448 (Int32.lt_iff_toInt_lt.mpr qq_)
                  have ar696 : (2 : Int32).toInt = 2 := by decide
                  have ar697 : ¬ ((2 : Int32).toInt < ln.toInt) := fun qq_ => hc29_596 (Int32.lt_iff_toInt_lt.mpr qq_)
                  have ar698 : (3 : Int32).toInt = 3 := by decide
                  have ar699 : (3 : Int32).toInt < ln.toInt := Int32.lt_iff_toInt_lt.mp hc43_672
                  omega)]
                exact hc52_688⟩
            obtain ⟨fs, hr, hrun, hended, hW, hsame⟩ := X0.leave (v := some (.int (1 : Int32))) (fun h => by rw [Bd.returns] at h; cases h)
            refine ⟨_, _, k689 _ (retN X0 hx (t := .boolean) Bd.returns (by simp) (hb hby d5_60) hr), hrun, hended, _, _, rfl, ?_, ⟨_, rfl⟩, hW, hsame.mono (by decide) (by decide)⟩
            show Q5 Z ma hd0 ln x fm H q h0 n0 _ s₁.heap _
            rw [e0]
            exact ⟨(by rw [if_pos hm690]), N0, rfl⟩
          · have k700 : ∀ tg_, Steps p.tables e below (s₁.setTop (mkF m 60 #[.val (.ref ma), .val (.int hd0), .val (.int ln), .val (.int x)] [(.int (0 : Int32))])) tg_ → Steps p.tables e below (s₁.setTop (entryFrame m #[(.ref ma), (.int hd0), (.int ln), (.int x)] 4)) tg_ := by
              intro tg_ kt
              refine k687 tg_ ?_
              refine XS.icmpYes X0.here hx rfl (pc0 := 52) (pc' := 59) rfl (hb hby d5_52) rfl (feq hc52_688).2 (by decide) (by decide) ?_
              show Steps p.tables e below (s₁.setTop (mkF m 59 #[.val (.ref ma), .val (.int hd0), .val (.int ln), .val (.int x)] [])) _
              refine XS.iconst X0.here hx rfl (hb hby d5_59) ?_
              show Steps p.tables e below (s₁.setTop (mkF m 60 #[.val (.ref ma), .val (.int hd0), .val (.int ln), .val (.int x)] [(.int (0 : Int32))])) _
              exact kt
            have hm701 : ¬ x ∈ q := fun hx => by
              obtain ⟨j, hj, e⟩ := own_memD.mp hx
              rw [← hq j hj] at e
              have ar702 : (0 : Int32).toInt = 0 := by decide
              have ar703 := rng32 ln
              have ar704 : ¬ ((0 : Int32).toInt < ln.toInt) := fun qq_ => hc1_156 (Int32.lt_iff_toInt_lt.mpr qq_)
              have ar705 : (1 : Int32).toInt = 1 := by decide
              have ar706 : ¬ ((1 : Int32).toInt < ln.toInt) := fun qq_ => hc15_448 (Int32.lt_iff_toInt_lt.mpr qq_)
              have ar707 : (2 : Int32).toInt = 2 := by decide
              have ar708 : ¬ ((2 : Int32).toInt < ln.toInt) := fun qq_ => hc29_596 (Int32.lt_iff_toInt_lt.mpr qq_)
              have ar709 : (3 : Int32).toInt = 3 := by decide
              have ar710 : (3 : Int32).toInt < ln.toInt := Int32.lt_iff_toInt_lt.mp hc43_672
              have hj4 : j = 0 ∨ j = 1 ∨ j = 2 ∨ j = 3 := by omega
              rcases hj4 with rfl | rfl | rfl | rfl
              · omega
              · omega
              · omega
              · exact hc52_688 e
            obtain ⟨fs, hr, hrun, hended, hW, hsame⟩ := X0.leave (v := some (.int (0 : Int32))) (fun h => by rw [Bd.returns] at h; cases h)
            refine ⟨_, _, k700 _ (retN X0 hx (t := .boolean) Bd.returns (by simp) (hb hby d5_60) hr), hrun, hended, _, _, rfl, ?_, ⟨_, rfl⟩, hW, hsame.mono (by decide) (by decide)⟩
            show Q5 Z ma hd0 ln x fm H q h0 n0 _ s₁.heap _
            rw [e0]
            exact ⟨(by rw [if_neg hm701]), N0, rfl⟩
        · have k711 : ∀ tg_, Steps p.tables e below (s₁.setTop (mkF m 60 #[.val (.ref ma), .val (.int hd0), .val (.int ln), .val (.int x)] [(.int (0 : Int32))])) tg_ → Steps p.tables e below (s₁.setTop (entryFrame m #[(.ref ma), (.int hd0), (.int ln), (.int x)] 4)) tg_ := by
            intro tg_ kt
            refine k671 tg_ ?_
            refine XS.icmpYes X0.here hx rfl (pc0 := 43) (pc' := 59) rfl (hb hby d5_43) rfl (flt hc43_672).2.2.2 (by decide) (by decide) ?_
            show Steps p.tables e below (s₁.setTop (mkF m 59 #[.val (.ref ma), .val (.int hd0), .val (.int ln), .val (.int x)] [])) _
            refine XS.iconst X0.here hx rfl (hb hby d5_59) ?_
            show Steps p.tables e below (s₁.setTop (mkF m 60 #[.val (.ref ma), .val (.int hd0), .val (.int ln), .val (.int x)] [(.int (0 : Int32))])) _
            exact kt
          have hm712 : ¬ x ∈ q := fun hx => by
            obtain ⟨j, hj, e⟩ := own_memD.mp hx
            rw [← hq j hj] at e
            have ar713 : (0 : Int32).toInt = 0 := by decide
            have ar714 := rng32 ln
            have ar715 : ¬ ((0 : Int32).toInt < ln.toInt) := fun qq_ => hc1_156 (Int32.lt_iff_toInt_lt.mpr qq_)
            have ar716 : (1 : Int32).toInt = 1 := by decide
            have ar717 : ¬ ((1 : Int32).toInt < ln.toInt) := fun qq_ => hc15_448 (Int32.lt_iff_toInt_lt.mpr qq_)
            have ar718 : (2 : Int32).toInt = 2 := by decide
            have ar719 : ¬ ((2 : Int32).toInt < ln.toInt) := fun qq_ => hc29_596 (Int32.lt_iff_toInt_lt.mpr qq_)
            have ar720 : (3 : Int32).toInt = 3 := by decide
            have ar721 : ¬ ((3 : Int32).toInt < ln.toInt) := fun qq_ => hc43_672 (Int32.lt_iff_toInt_lt.mpr qq_)
            have hj4 : j = 0 ∨ j = 1 ∨ j = 2 ∨ j = 3 := by omega
            rcases hj4 with rfl | rfl | rfl | rfl
            · omega
            · omega
            · omega
            · omega
          obtain ⟨fs, hr, hrun, hended, hW, hsame⟩ := X0.leave (v := some (.int (0 : Int32))) (fun h => by rw [Bd.returns] at h; cases h)
          refine ⟨_, _, k711 _ (retN X0 hx (t := .boolean) Bd.returns (by simp) (hb hby d5_60) hr), hrun, hended, _, _, rfl, ?_, ⟨_, rfl⟩, hW, hsame.mono (by decide) (by decide)⟩
          show Q5 Z ma hd0 ln x fm H q h0 n0 _ s₁.heap _
          rw [e0]
          exact ⟨(by rw [if_neg hm712]), N0, rfl⟩
theorem pd_0 : parseMethodDescriptor "(I)V" = some ⟨[.int], none⟩ := by decide +kernel
theorem pd_3 : parseMethodDescriptor "([IIII)Z" = some ⟨[(.array .int), .int, .int, .int], some .boolean⟩ := by decide +kernel
theorem pd_4 : parseMethodDescriptor "()I" = some ⟨[], some .int⟩ := by decide +kernel
theorem d3_0 : decode method_4_code 0 = .ok (.iload_n 3, 1) := by decide +kernel
theorem d3_1 : decode method_4_code 1 = .ok (.iload 5, 2) := by decide +kernel
theorem d3_3 : decode method_4_code 3 = .ok (.iushr, 1) := by decide +kernel
theorem d3_4 : decode method_4_code 4 = .ok (.iconst 1, 1) := by decide +kernel
theorem d3_5 : decode method_4_code 5 = .ok (.iand, 1) := by decide +kernel
theorem d3_6 : decode method_4_code 6 = .ok (.istore 6, 2) := by decide +kernel
theorem d3_8 : decode method_4_code 8 = .ok (.iload 4, 2) := by decide +kernel
theorem d3_10 : decode method_4_code 10 = .ok (.iconst 4, 1) := by decide +kernel
theorem d3_11 : decode method_4_code 11 = .ok (.iload 5, 2) := by decide +kernel
theorem d3_13 : decode method_4_code 13 = .ok (.imul, 1) := by decide +kernel
theorem d3_14 : decode method_4_code 14 = .ok (.iushr, 1) := by decide +kernel
theorem d3_15 : decode method_4_code 15 = .ok (.bipush 15, 2) := by decide +kernel
theorem d3_17 : decode method_4_code 17 = .ok (.iand, 1) := by decide +kernel
theorem d3_18 : decode method_4_code 18 = .ok (.iload_n 2, 1) := by decide +kernel
theorem d3_19 : decode method_4_code 19 = .ok (.irem, 1) := by decide +kernel
theorem d3_20 : decode method_4_code 20 = .ok (.istore 7, 2) := by decide +kernel
theorem d3_22 : decode method_4_code 22 = .ok (.aload_n 1, 1) := by decide +kernel
theorem d3_23 : decode method_4_code 23 = .ok (.iconst 0, 1) := by decide +kernel
theorem d3_24 : decode method_4_code 24 = .ok (.iaload, 1) := by decide +kernel
theorem d3_25 : decode method_4_code 25 = .ok (.istore 8, 2) := by decide +kernel
theorem d3_27 : decode method_4_code 27 = .ok (.aload_n 1, 1) := by decide +kernel
theorem d3_28 : decode method_4_code 28 = .ok (.iconst 1, 1) := by decide +kernel
theorem d3_29 : decode method_4_code 29 = .ok (.iaload, 1) := by decide +kernel
theorem d3_30 : decode method_4_code 30 = .ok (.istore 9, 2) := by decide +kernel
theorem d3_32 : decode method_4_code 32 = .ok (.iload 9, 2) := by decide +kernel
theorem d3_34 : decode method_4_code 34 = .ok (.iload 8, 2) := by decide +kernel
theorem d3_36 : decode method_4_code 36 = .ok (.isub, 1) := by decide +kernel
theorem d3_37 : decode method_4_code 37 = .ok (.istore 10, 2) := by decide +kernel
theorem d3_39 : decode method_4_code 39 = .ok (.iload 6, 2) := by decide +kernel
theorem d3_41 : decode method_4_code 41 = .ok (.iconst 1, 1) := by decide +kernel
theorem d3_42 : decode method_4_code 42 = .ok (.if_icmp .eq 8, 3) := by decide +kernel
theorem d3_45 : decode method_4_code 45 = .ok (.iload 10, 2) := by decide +kernel
theorem d3_47 : decode method_4_code 47 = .ok (.ifCond .ne 39, 3) := by decide +kernel
theorem d3_50 : decode method_4_code 50 = .ok (.aload_n 0, 1) := by decide +kernel
theorem d3_51 : decode method_4_code 51 = .ok (.iload 7, 2) := by decide +kernel
theorem d3_53 : decode method_4_code 53 = .ok (.invokevirtual 18, 3) := by decide +kernel
theorem d3_56 : decode method_4_code 56 = .ok (.aload_n 1, 1) := by decide +kernel
theorem d3_57 : decode method_4_code 57 = .ok (.iload 8, 2) := by decide +kernel
theorem d3_59 : decode method_4_code 59 = .ok (.iload 10, 2) := by decide +kernel
theorem d3_61 : decode method_4_code 61 = .ok (.iload 7, 2) := by decide +kernel
theorem d3_63 : decode method_4_code 63 = .ok (.invokestatic 21, 3) := by decide +kernel
theorem d3_66 : decode method_4_code 66 = .ok (.ifCond .ne 18, 3) := by decide +kernel
theorem d3_69 : decode method_4_code 69 = .ok (.aload_n 1, 1) := by decide +kernel
theorem d3_70 : decode method_4_code 70 = .ok (.iconst 2, 1) := by decide +kernel
theorem d3_71 : decode method_4_code 71 = .ok (.iload 9, 2) := by decide +kernel
theorem d3_73 : decode method_4_code 73 = .ok (.iadd, 1) := by decide +kernel
theorem d3_74 : decode method_4_code 74 = .ok (.iload 7, 2) := by decide +kernel
theorem d3_76 : decode method_4_code 76 = .ok (.iastore, 1) := by decide +kernel
theorem d3_77 : decode method_4_code 77 = .ok (.aload_n 1, 1) := by decide +kernel
theorem d3_78 : decode method_4_code 78 = .ok (.iconst 1, 1) := by decide +kernel
theorem d3_79 : decode method_4_code 79 = .ok (.iload 9, 2) := by decide +kernel
theorem d3_81 : decode method_4_code 81 = .ok (.iconst 1, 1) := by decide +kernel
theorem d3_82 : decode method_4_code 82 = .ok (.iadd, 1) := by decide +kernel
theorem d3_83 : decode method_4_code 83 = .ok (.iastore, 1) := by decide +kernel
theorem d3_84 : decode method_4_code 84 = .ok (.iconst 1, 1) := by decide +kernel
theorem d3_85 : decode method_4_code 85 = .ok (.ireturn, 1) := by decide +kernel
theorem d3_86 : decode method_4_code 86 = .ok (.aload_n 0, 1) := by decide +kernel
theorem d3_87 : decode method_4_code 87 = .ok (.invokevirtual 25, 3) := by decide +kernel
theorem d3_90 : decode method_4_code 90 = .ok (.istore 11, 2) := by decide +kernel
theorem d3_92 : decode method_4_code 92 = .ok (.aload_n 1, 1) := by decide +kernel
theorem d3_93 : decode method_4_code 93 = .ok (.iconst 2, 1) := by decide +kernel
theorem d3_94 : decode method_4_code 94 = .ok (.iload 8, 2) := by decide +kernel
theorem d3_96 : decode method_4_code 96 = .ok (.iadd, 1) := by decide +kernel
theorem d3_97 : decode method_4_code 97 = .ok (.iaload, 1) := by decide +kernel
theorem d3_98 : decode method_4_code 98 = .ok (.istore 12, 2) := by decide +kernel
theorem d3_100 : decode method_4_code 100 = .ok (.aload_n 1, 1) := by decide +kernel
theorem d3_101 : decode method_4_code 101 = .ok (.iconst 0, 1) := by decide +kernel
theorem d3_102 : decode method_4_code 102 = .ok (.iload 8, 2) := by decide +kernel
theorem d3_104 : decode method_4_code 104 = .ok (.iconst 1, 1) := by decide +kernel
theorem d3_105 : decode method_4_code 105 = .ok (.iadd, 1) := by decide +kernel
theorem d3_106 : decode method_4_code 106 = .ok (.iastore, 1) := by decide +kernel
theorem d3_107 : decode method_4_code 107 = .ok (.iload 11, 2) := by decide +kernel
theorem d3_109 : decode method_4_code 109 = .ok (.iload 12, 2) := by decide +kernel
theorem d3_111 : decode method_4_code 111 = .ok (.if_icmp .ne 7, 3) := by decide +kernel
theorem d3_114 : decode method_4_code 114 = .ok (.iconst 1, 1) := by decide +kernel
theorem d3_115 : decode method_4_code 115 = .ok (.goto 4, 3) := by decide +kernel
theorem d3_119 : decode method_4_code 119 = .ok (.ireturn, 1) := by decide +kernel
theorem pn_3 : plainName "com/example/tablewise/tablewise/propagation/WaitingRingTakePinLaw" = true := by first | (simp [plainName, overriddenIn]; done) | decide +kernel
theorem ef_3 (m : MethodId) (x0 : Addr) (x1 : Addr) (x2 : Int32) (x3 : Int32) (x4 : Int32) (x5 : Int32) : entryFrame m #[(.ref x0), (.ref x1), (.int x2), (.int x3), (.int x4), (.int x5)] 13 = mkF m 0 #[.val (.ref x0), .val (.ref x1), .val (.int x2), .val (.int x3), .val (.int x4), .val (.int x5), .unset, .unset, .unset, .unset, .unset, .unset, .unset] [] := by first | (simp [entryFrame, mkF, argsToLocals, Value.category]; done) | rfl
def Q3 (Z : State) (r : Addr) (ma : Addr) (nn : Int32) (ops : Int32) (vals : Int32) (i : Int32) (ra : Addr) (wa : Addr) (n : Nat) (q : List Int32) (fm : Nat → Int32) (b : Nat) (h0 : Heap) (n0 : Nat) (rv_ : Option Value) (h : Heap) (LL_ : List Loc) : Prop := rv_ = some (.int (1 : Int32)) ∧ Fr n0 LL_ ∧ Keep h0 h [r, ra, wa, ma] ∧ (∃ (q' : List Int32) (fm' : Nat → Int32), own_Ring Z h r ra wa nn n q' ∧ own_AI Z h ma .int 16 fm' ∧ own_mdl fm' q' (b + 1))
set_option maxRecDepth 65536 in
set_option maxHeartbeats 40000000 in
theorem rm3 (l : Launch) (Z : State) (a0 : Array Value) (hw : ∀ d ∈ tables_1, d.before a0 Z = true) (ws : List Jvm.Cond) (r : Addr) (ma : Addr) (nn : Int32) (ops : Int32) (vals : Int32) (i : Int32) (ra : Addr) (wa : Addr) (n : Nat) (q : List Int32) (fm : Nat → Int32) (b : Nat) (h0 : Heap) (n0 : Nat) (Z0 : n0 ≤ h0.size) (V_ma : own_AI Z h0 ma .int 16 fm) (g_r : n0 ≤ r) (g_ra : n0 ≤ ra) (g_wa : n0 ≤ wa) (g_ma : n0 ≤ ma) (ne_r_ma : r ≠ ma) (ne_ra_ma : ra ≠ ma) (ne_wa_ma : wa ≠ ma) (R : own_Ring Z h0 r ra wa nn n q) (M : own_mdl fm q b) (hb7 : b ≤ 7) :
    MetFree l (⟨"com/example/tablewise/tablewise/propagation/WaitingRingTakePinLaw", "step", "(Lcom/example/tablewise/tablewise/propagation/WaitingRing;[IIIII)Z"⟩ : MethodName) (head1 (Jvm.Cond.code (⟨"com/example/tablewise/tablewise/propagation/WaitingRingTakePinLaw", "step", "(Lcom/example/tablewise/tablewise/propagation/WaitingRing;[IIIII)Z"⟩ : MethodName) method_4_code 13 (some .boolean) :: ws) ({ frames := 1, cells := 0, slots := 0, locals := 15 } : Room)) (fun aa UU => aa = #[(.ref r), (.ref ma), (.int nn), (.int ops), (.int vals), (.int i)] ∧ Z.Warmed39 UU.vm ∧ UU.heap = h0) (fun _ _ _ _ _ => True) (fun _ UU oo UV => ∃ vv LL, oo = .returned vv ∧ Q3 Z r ma nn ops vals i ra wa n q fm b h0 n0 vv UV.heap LL ∧ FrameEnd UU oo UV LL ({ frames := 1, cells := 0, slots := 0, locals := 15 } : Room).cells ({ frames := 1, cells := 0, slots := 0, locals := 15 } : Room).slots) := by
  refine MetFree.of_bodySF (plainFor_of_name pn_3) hisR ?_
  intro p e s m args below meth c s₁ Bd hml0 hP hK
  obtain ⟨rfl, hZ, hh⟩ := hP
  have hx := Bd.exec
  have hby := Bd.bytes
  have hml : c.maxLocals = 13 := hml0
  have hown : s.vm.findClass "com/example/tablewise/tablewise/propagation/WaitingRingTakePinLaw" = some m.cls := findClass_of_methodNamed Bd.named
  have hnm := (name_of_methodNamed Bd.named Bd.method).1
  have X0 : Stand p l e ({ frames := 1, cells := 0, slots := 0, locals := 15 } : Room) s m #[(.ref r), (.ref ma), (.int nn), (.int ops), (.int vals), (.int i)] below meth c s₁ [] 0 0 := Stand.of_body Bd
  have e0 : s₁.heap = h0 := by rw [← hh, Bd.state]; rfl
  have N0 := Fr.nil n0
  have k0 : ∀ tg_, Steps p.tables e below (s₁.setTop (mkF m 0 #[.val (.ref r), .val (.ref ma), .val (.int nn), .val (.int ops), .val (.int vals), .val (.int i), .unset, .unset, .unset, .unset, .unset, .unset, .unset] [])) tg_ → Steps p.tables e below (s₁.setTop (entryFrame m #[(.ref r), (.ref ma), (.int nn), (.int ops), (.int vals), (.int i)] 13)) tg_ := fun tg_ k => castTop (ef_3 m r ma nn ops vals i) k
  obtain ⟨H, T, hm0, hm1, hHT, hTb, hmq⟩ := M
  obtain ⟨hq4, hnn, hn1⟩ := own_Ring.len R
  have hH8 : H + q.length ≤ 8 := by omega
  have hnz : ¬ nn = (0 : Int32) := by
    intro z
    rw [z] at hnn
    have e : (0 : Int32).toInt = 0 := by decide
    omega
  have k722 : ∀ tg_, Steps p.tables e below (s₁.setTop (mkF m 6 #[.val (.ref r), .val (.ref ma), .val (.int nn), .val (.int ops), .val (.int vals), .val (.int i), .unset, .unset, .unset, .unset, .unset, .unset, .unset] [(.int (((ops.toUInt32 >>> (i &&& 31).toUInt32).toInt32) &&& (1 : Int32)))])) tg_ → Steps p.tables e below (s₁.setTop (entryFrame m #[(.ref r), (.ref ma), (.int nn), (.int ops), (.int vals), (.int i)] 13)) tg_ := by
    intro tg_ kt
    refine k0 tg_ ?_
    refine XS.iloadN X0.here hx rfl (hb hby d3_0) rfl ?_
    show Steps p.tables e below (s₁.setTop (mkF m 1 #[.val (.ref r), .val (.ref ma), .val (.int nn), .val (.int ops), .val (.int vals), .val (.int i), .unset, .unset, .unset, .unset, .unset, .unset, .unset] [(.int ops)])) _
    refine XS.iload X0.here hx rfl (hb hby d3_1) rfl ?_
    show Steps p.tables e below (s₁.setTop (mkF m 3 #[.val (.ref r), .val (.ref ma), .val (.int nn), .val (.int ops), .val (.int vals), .val (.int i), .unset, .unset, .unset, .unset, .unset, .unset, .unset] [(.int i), (.int ops)])) _
    refine XS.iushr X0.here hx rfl (hb hby d3_3) rfl ?_
    show Steps p.tables e below (s₁.setTop (mkF m 4 #[.val (.ref r), .val (.ref ma), .val (.int nn), .val (.int ops), .val (.int vals), .val (.int i), .unset, .unset, .unset, .unset, .unset, .unset, .unset] [(.int ((ops.toUInt32 >>> (i &&& 31).toUInt32).toInt32))])) _
    refine XS.iconst X0.here hx rfl (hb hby d3_4) ?_
    show Steps p.tables e below (s₁.setTop (mkF m 5 #[.val (.ref r), .val (.ref ma), .val (.int nn), .val (.int ops), .val (.int vals), .val (.int i), .unset, .unset, .unset, .unset, .unset, .unset, .unset] [(.int (1 : Int32)), (.int ((ops.toUInt32 >>> (i &&& 31).toUInt32).toInt32))])) _
    refine XS.iand X0.here hx rfl (hb hby d3_5) rfl ?_
    show Steps p.tables e below (s₁.setTop (mkF m 6 #[.val (.ref r), .val (.ref ma), .val (.int nn), .val (.int ops), .val (.int vals), .val (.int i), .unset, .unset, .unset, .unset, .unset, .unset, .unset] [(.int (((ops.toUInt32 >>> (i &&& 31).toUInt32).toInt32) &&& (1 : Int32)))])) _
    exact kt
  obtain ⟨v723, hv723⟩ : ∃ z : Int32, z = (((ops.toUInt32 >>> (i &&& 31).toUInt32).toInt32) &&& (1 : Int32)) := ⟨_, rfl⟩
  rw [← hv723] at k722
  have k724 : ∀ tg_, Steps p.tables e below (s₁.setTop (mkF m 20 #[.val (.ref r), .val (.ref ma), .val (.int nn), .val (.int ops), .val (.int vals), .val (.int i), .val (.int v723), .unset, .unset, .unset, .unset, .unset, .unset] [(.int ((((vals.toUInt32 >>> (((4 : Int32) * i) &&& 31).toUInt32).toInt32) &&& (15 : Int32)) % nn))])) tg_ → Steps p.tables e below (s₁.setTop (entryFrame m #[(.ref r), (.ref ma), (.int nn), (.int ops), (.int vals), (.int i)] 13)) tg_ := by
    intro tg_ kt
    refine k722 tg_ ?_
    refine XS.istore X0.here hx rfl (hb hby d3_6) rfl (l' := #[.val (.ref r), .val (.ref ma), .val (.int nn), .val (.int ops), .val (.int vals), .val (.int i), .val (.int v723), .unset, .unset, .unset, .unset, .unset, .unset]) rfl ?_
    show Steps p.tables e below (s₁.setTop (mkF m 8 #[.val (.ref r), .val (.ref ma), .val (.int nn), .val (.int ops), .val (.int vals), .val (.int i), .val (.int v723), .unset, .unset, .unset, .unset, .unset, .unset] [])) _
    refine XS.iload X0.here hx rfl (hb hby d3_8) rfl ?_
    show Steps p.tables e below (s₁.setTop (mkF m 10 #[.val (.ref r), .val (.ref ma), .val (.int nn), .val (.int ops), .val (.int vals), .val (.int i), .val (.int v723), .unset, .unset, .unset, .unset, .unset, .unset] [(.int vals)])) _
    refine XS.iconst X0.here hx rfl (hb hby d3_10) ?_
    show Steps p.tables e below (s₁.setTop (mkF m 11 #[.val (.ref r), .val (.ref ma), .val (.int nn), .val (.int ops), .val (.int vals), .val (.int i), .val (.int v723), .unset, .unset, .unset, .unset, .unset, .unset] [(.int (4 : Int32)), (.int vals)])) _
    refine XS.iload X0.here hx rfl (hb hby d3_11) rfl ?_
    show Steps p.tables e below (s₁.setTop (mkF m 13 #[.val (.ref r), .val (.ref ma), .val (.int nn), .val (.int ops), .val (.int vals), .val (.int i), .val (.int v723), .unset, .unset, .unset, .unset, .unset, .unset] [(.int i), (.int (4 : Int32)), (.int vals)])) _
    refine XS.imul X0.here hx rfl (hb hby d3_13) rfl ?_
    show Steps p.tables e below (s₁.setTop (mkF m 14 #[.val (.ref r), .val (.ref ma), .val (.int nn), .val (.int ops), .val (.int vals), .val (.int i), .val (.int v723), .unset, .unset, .unset, .unset, .unset, .unset] [(.int ((4 : Int32) * i)), (.int vals)])) _
    refine XS.iushr X0.here hx rfl (hb hby d3_14) rfl ?_
    show Steps p.tables e below (s₁.setTop (mkF m 15 #[.val (.ref r), .val (.ref ma), .val (.int nn), .val (.int ops), .val (.int vals), .val (.int i), .val (.int v723), .unset, .unset, .unset, .unset, .unset, .unset] [(.int ((vals.toUInt32 >>> (((4 : Int32) * i) &&& 31).toUInt32).toInt32))])) _
    refine XS.bipush X0.here hx rfl (hb hby d3_15) ?_
    show Steps p.tables e below (s₁.setTop (mkF m 17 #[.val (.ref r), .val (.ref ma), .val (.int nn), .val (.int ops), .val (.int vals), .val (.int i), .val (.int v723), .unset, .unset, .unset, .unset, .unset, .unset] [(.int (15 : Int32)), (.int ((vals.toUInt32 >>> (((4 : Int32) * i) &&& 31).toUInt32).toInt32))])) _
    refine XS.iand X0.here hx rfl (hb hby d3_17) rfl ?_
    show Steps p.tables e below (s₁.setTop (mkF m 18 #[.val (.ref r), .val (.ref ma), .val (.int nn), .val (.int ops), .val (.int vals), .val (.int i), .val (.int v723), .unset, .unset, .unset, .unset, .unset, .unset] [(.int (((vals.toUInt32 >>> (((4 : Int32) * i) &&& 31).toUInt32).toInt32) &&& (15 : Int32)))])) _
    refine XS.iloadN X0.here hx rfl (hb hby d3_18) rfl ?_
    show Steps p.tables e below (s₁.setTop (mkF m 19 #[.val (.ref r), .val (.ref ma), .val (.int nn), .val (.int ops), .val (.int vals), .val (.int i), .val (.int v723), .unset, .unset, .unset, .unset, .unset, .unset] [(.int nn), (.int (((vals.toUInt32 >>> (((4 : Int32) * i) &&& 31).toUInt32).toInt32) &&& (15 : Int32)))])) _
    refine iremM X0 hx rfl (hb hby d3_19) rfl hnz ?_
    show Steps p.tables e below (s₁.setTop (mkF m 20 #[.val (.ref r), .val (.ref ma), .val (.int nn), .val (.int ops), .val (.int vals), .val (.int i), .val (.int v723), .unset, .unset, .unset, .unset, .unset, .unset] [(.int ((((vals.toUInt32 >>> (((4 : Int32) * i) &&& 31).toUInt32).toInt32) &&& (15 : Int32)) % nn))])) _
    exact kt
  obtain ⟨v725, hv725⟩ : ∃ z : Int32, z = ((((vals.toUInt32 >>> (((4 : Int32) * i) &&& 31).toUInt32).toInt32) &&& (15 : Int32)) % nn) := ⟨_, rfl⟩
  rw [← hv725] at k724
  have k726 : ∀ tg_, Steps p.tables e below (s₁.setTop (mkF m 22 #[.val (.ref r), .val (.ref ma), .val (.int nn), .val (.int ops), .val (.int vals), .val (.int i), .val (.int v723), .val (.int v725), .unset, .unset, .unset, .unset, .unset] [])) tg_ → Steps p.tables e below (s₁.setTop (entryFrame m #[(.ref r), (.ref ma), (.int nn), (.int ops), (.int vals), (.int i)] 13)) tg_ := by
    intro tg_ kt
    refine k724 tg_ ?_
    refine XS.istore X0.here hx rfl (hb hby d3_20) rfl (l' := #[.val (.ref r), .val (.ref ma), .val (.int nn), .val (.int ops), .val (.int vals), .val (.int i), .val (.int v723), .val (.int v725), .unset, .unset, .unset, .unset, .unset]) rfl ?_
    show Steps p.tables e below (s₁.setTop (mkF m 22 #[.val (.ref r), .val (.ref ma), .val (.int nn), .val (.int ops), .val (.int vals), .val (.int i), .val (.int v723), .val (.int v725), .unset, .unset, .unset, .unset, .unset] [])) _
    exact kt
  obtain ⟨k, hk, hkn⟩ : ∃ k : Nat, v725.toInt = (k : Int) ∧ k < n := by
    have e := c_mask ((vals.toUInt32 >>> (((4 : Int32) * i) &&& 31).toUInt32).toInt32) 15 4 (by decide) (by decide)
    have e2 := (c_iremV (((vals.toUInt32 >>> (((4 : Int32) * i) &&& 31).toUInt32).toInt32) &&& (15 : Int32)) nn).1 (by rw [e]; exact Int.emod_nonneg _ (by decide)) (by omega)
    rw [← hv725] at e2
    exact ⟨v725.toInt.toNat, by omega, by omega⟩
  have k728 : ∀ tg_, Steps p.tables e below (s₁.setTop (mkF m 37 #[.val (.ref r), .val (.ref ma), .val (.int nn), .val (.int ops), .val (.int vals), .val (.int i), .val (.int v723), .val (.int v725), .val (.int (fm 0)), .val (.int (fm 1)), .unset, .unset, .unset] [(.int ((fm 1) - (fm 0)))])) tg_ → Steps p.tables e below (s₁.setTop (entryFrame m #[(.ref r), (.ref ma), (.int nn), (.int ops), (.int vals), (.int i)] 13)) tg_ := by
    intro tg_ kt
    refine k726 tg_ ?_
    refine XS.aloadN X0.here hx rfl (hb hby d3_22) rfl rfl ?_
    show Steps p.tables e below (s₁.setTop (mkF m 23 #[.val (.ref r), .val (.ref ma), .val (.int nn), .val (.int ops), .val (.int vals), .val (.int i), .val (.int v723), .val (.int v725), .unset, .unset, .unset, .unset, .unset] [(.ref ma)])) _
    refine XS.iconst X0.here hx rfl (hb hby d3_23) ?_
    show Steps p.tables e below (s₁.setTop (mkF m 24 #[.val (.ref r), .val (.ref ma), .val (.int nn), .val (.int ops), .val (.int vals), .val (.int i), .val (.int v723), .val (.int v725), .unset, .unset, .unset, .unset, .unset] [(.int (0 : Int32)), (.ref ma)])) _
    refine own_ldI X0 hx hZ e0 V_ma (i := 0) (by decide : (0 : Int32).toInt = ((0 : Nat) : Int)) (by decide) rfl (g := (mkF m 24 #[.val (.ref r), .val (.ref ma), .val (.int nn), .val (.int ops), .val (.int vals), .val (.int i), .val (.int v723), .val (.int v725), .unset, .unset, .unset, .unset, .unset] [(.int (0 : Int32)), (.ref ma)])) rfl rfl (hb hby d3_24) _ ?_
    show Steps p.tables e below (s₁.setTop (mkF m 25 #[.val (.ref r), .val (.ref ma), .val (.int nn), .val (.int ops), .val (.int vals), .val (.int i), .val (.int v723), .val (.int v725), .unset, .unset, .unset, .unset, .unset] [(.int (fm 0))])) _
    refine XS.istore X0.here hx rfl (hb hby d3_25) rfl (l' := #[.val (.ref r), .val (.ref ma), .val (.int nn), .val (.int ops), .val (.int vals), .val (.int i), .val (.int v723), .val (.int v725), .val (.int (fm 0)), .unset, .unset, .unset, .unset]) rfl ?_
    show Steps p.tables e below (s₁.setTop (mkF m 27 #[.val (.ref r), .val (.ref ma), .val (.int nn), .val (.int ops), .val (.int vals), .val (.int i), .val (.int v723), .val (.int v725), .val (.int (fm 0)), .unset, .unset, .unset, .unset] [])) _
    refine XS.aloadN X0.here hx rfl (hb hby d3_27) rfl rfl ?_
    show Steps p.tables e below (s₁.setTop (mkF m 28 #[.val (.ref r), .val (.ref ma), .val (.int nn), .val (.int ops), .val (.int vals), .val (.int i), .val (.int v723), .val (.int v725), .val (.int (fm 0)), .unset, .unset, .unset, .unset] [(.ref ma)])) _
    refine XS.iconst X0.here hx rfl (hb hby d3_28) ?_
    show Steps p.tables e below (s₁.setTop (mkF m 29 #[.val (.ref r), .val (.ref ma), .val (.int nn), .val (.int ops), .val (.int vals), .val (.int i), .val (.int v723), .val (.int v725), .val (.int (fm 0)), .unset, .unset, .unset, .unset] [(.int (1 : Int32)), (.ref ma)])) _
    refine own_ldI X0 hx hZ e0 V_ma (i := 1) (by decide : (1 : Int32).toInt = ((1 : Nat) : Int)) (by decide) rfl (g := (mkF m 29 #[.val (.ref r), .val (.ref ma), .val (.int nn), .val (.int ops), .val (.int vals), .val (.int i), .val (.int v723), .val (.int v725), .val (.int (fm 0)), .unset, .unset, .unset, .unset] [(.int (1 : Int32)), (.ref ma)])) rfl rfl (hb hby d3_29) _ ?_
    show Steps p.tables e below (s₁.setTop (mkF m 30 #[.val (.ref r), .val (.ref ma), .val (.int nn), .val (.int ops), .val (.int vals), .val (.int i), .val (.int v723), .val (.int v725), .val (.int (fm 0)), .unset, .unset, .unset, .unset] [(.int (fm 1))])) _
    refine XS.istore X0.here hx rfl (hb hby d3_30) rfl (l' := #[.val (.ref r), .val (.ref ma), .val (.int nn), .val (.int ops), .val (.int vals), .val (.int i), .val (.int v723), .val (.int v725), .val (.int (fm 0)), .val (.int (fm 1)), .unset, .unset, .unset]) rfl ?_
    show Steps p.tables e below (s₁.setTop (mkF m 32 #[.val (.ref r), .val (.ref ma), .val (.int nn), .val (.int ops), .val (.int vals), .val (.int i), .val (.int v723), .val (.int v725), .val (.int (fm 0)), .val (.int (fm 1)), .unset, .unset, .unset] [])) _
    refine XS.iload X0.here hx rfl (hb hby d3_32) rfl ?_
    show Steps p.tables e below (s₁.setTop (mkF m 34 #[.val (.ref r), .val (.ref ma), .val (.int nn), .val (.int ops), .val (.int vals), .val (.int i), .val (.int v723), .val (.int v725), .val (.int (fm 0)), .val (.int (fm 1)), .unset, .unset, .unset] [(.int (fm 1))])) _
    refine XS.iload X0.here hx rfl (hb hby d3_34) rfl ?_
    show Steps p.tables e below (s₁.setTop (mkF m 36 #[.val (.ref r), .val (.ref ma), .val (.int nn), .val (.int ops), .val (.int vals), .val (.int i), .val (.int v723), .val (.int v725), .val (.int (fm 0)), .val (.int (fm 1)), .unset, .unset, .unset] [(.int (fm 0)), (.int (fm 1))])) _
    refine XS.isub X0.here hx rfl (hb hby d3_36) rfl ?_
    show Steps p.tables e below (s₁.setTop (mkF m 37 #[.val (.ref r), .val (.ref ma), .val (.int nn), .val (.int ops), .val (.int vals), .val (.int i), .val (.int v723), .val (.int v725), .val (.int (fm 0)), .val (.int (fm 1)), .unset, .unset, .unset] [(.int ((fm 1) - (fm 0)))])) _
    exact kt
  obtain ⟨v729, hv729⟩ : ∃ z : Int32, z = ((fm 1) - (fm 0)) := ⟨_, rfl⟩
  rw [← hv729] at k728
  have k730 : ∀ tg_, Steps p.tables e below (s₁.setTop (mkF m 39 #[.val (.ref r), .val (.ref ma), .val (.int nn), .val (.int ops), .val (.int vals), .val (.int i), .val (.int v723), .val (.int v725), .val (.int (fm 0)), .val (.int (fm 1)), .val (.int v729), .unset, .unset] [])) tg_ → Steps p.tables e below (s₁.setTop (entryFrame m #[(.ref r), (.ref ma), (.int nn), (.int ops), (.int vals), (.int i)] 13)) tg_ := by
    intro tg_ kt
    refine k728 tg_ ?_
    refine XS.istore X0.here hx rfl (hb hby d3_37) rfl (l' := #[.val (.ref r), .val (.ref ma), .val (.int nn), .val (.int ops), .val (.int vals), .val (.int i), .val (.int v723), .val (.int v725), .val (.int (fm 0)), .val (.int (fm 1)), .val (.int v729), .unset, .unset]) rfl ?_
    show Steps p.tables e below (s₁.setTop (mkF m 39 #[.val (.ref r), .val (.ref ma), .val (.int nn), .val (.int ops), .val (.int vals), .val (.int i), .val (.int v723), .val (.int v725), .val (.int (fm 0)), .val (.int (fm 1)), .val (.int v729), .unset, .unset] [])) _
    exact kt
  have hhH : (fm 0).toInt = (H : Int) := by exact hm0
  have htT : (fm 1).toInt = (T : Int) := by exact hm1
  have hln : v729.toInt = (q.length : Int) := by
    rw [hv729]
    have a := c_isub (fm 1) (fm 0)
    have b := rng32 ((fm 1) - (fm 0))
    omega
  have k732 : ∀ tg_, Steps p.tables e below (s₁.setTop (mkF m 42 #[.val (.ref r), .val (.ref ma), .val (.int nn), .val (.int ops), .val (.int vals), .val (.int i), .val (.int v723), .val (.int v725), .val (.int (fm 0)), .val (.int (fm 1)), .val (.int v729), .unset, .unset] [(.int (1 : Int32)), (.int v723)])) tg_ → Steps p.tables e below (s₁.setTop (entryFrame m #[(.ref r), (.ref ma), (.int nn), (.int ops), (.int vals), (.int i)] 13)) tg_ := by
    intro tg_ kt
    refine k730 tg_ ?_
    refine XS.iload X0.here hx rfl (hb hby d3_39) rfl ?_
    show Steps p.tables e below (s₁.setTop (mkF m 41 #[.val (.ref r), .val (.ref ma), .val (.int nn), .val (.int ops), .val (.int vals), .val (.int i), .val (.int v723), .val (.int v725), .val (.int (fm 0)), .val (.int (fm 1)), .val (.int v729), .unset, .unset] [(.int v723)])) _
    refine XS.iconst X0.here hx rfl (hb hby d3_41) ?_
    show Steps p.tables e below (s₁.setTop (mkF m 42 #[.val (.ref r), .val (.ref ma), .val (.int nn), .val (.int ops), .val (.int vals), .val (.int i), .val (.int v723), .val (.int v725), .val (.int (fm 0)), .val (.int (fm 1)), .val (.int v729), .unset, .unset] [(.int (1 : Int32)), (.int v723)])) _
    exact kt
  by_cases hc42_733 : v723 = (1 : Int32)
  · obtain ⟨cq734, kq734, q734a, q734b, q734c⟩ := isOf hZ e0 (own_Ring.exa R)
    obtain ⟨_, _, ⟨T734, L734, kc734, nc734⟩, -, X734, ⟨Lc734, hQ734, l734, y734, z734⟩, st734⟩ := X0.virtualBack hx (y := (⟨"com/example/tablewise/tablewise/propagation/WaitingRing", "add", "(I)V"⟩ : MethodName)) (z := (⟨"com/example/tablewise/tablewise/propagation/WaitingRing", "add", "(I)V"⟩ : MethodName)) hown (mvT hZ (hw _ (List.mem_of_getElem? (i := 19) rfl))) (mvT hZ (hw _ (List.mem_of_getElem? (i := 20) rfl))) (notFace_of_selects (args := #[]) (mvT hZ (hw _ (List.mem_of_getElem? (i := 22) rfl)))) (mvT hZ (hw _ (List.mem_of_getElem? (i := 22) rfl))) (mvT hZ (hw _ (List.mem_of_getElem? (i := 21) rfl))) (by decide) (backOf (W := 0) (rm4 l Z a0 hw [] r v725 ra wa nn n q k h0 n0 Z0 g_r g_ra g_wa R hk hkn) hZ (hw _ (List.mem_of_getElem? (i := 23) rfl)) (hw _ (List.mem_of_getElem? (i := 2) rfl)) (by decide) (by decide)) q734a q734c (g := (mkF m 53 #[.val (.ref r), .val (.ref ma), .val (.int nn), .val (.int ops), .val (.int vals), .val (.int i), .val (.int v723), .val (.int v725), .val (.int (fm 0)), .val (.int (fm 1)), .val (.int v729), .unset, .unset] [(.int v725), (.ref r)])) rfl (by rw [hml]; rfl) (Steps.refl _) (argsL := [(.int v725)]) (rest := []) (lenOf pd_0 rfl) rfl (by show 2 * 0 + _ ≤ _; exact Nat.le_of_eq rfl) (hb hby d3_53) (fun _ _ => ⟨rfl, e0, (by decide : 0 + 0 ≤ _), (by decide : 0 + 0 ≤ _)⟩)
    dsimp only [Pt.U, Pt.locs, Pt.cells, Pt.slots] at X734 l734 y734 z734 st734 hQ734
    subst l734 y734 z734
    obtain ⟨rfl, Nq734, oK734, m0_734⟩ := hQ734
    have N734 := Fr.app N0 Nq734
    have R734 := m0_734
    have f735 := (V_ma.keep oK734 (ninS (Ne.symm ne_r_ma) (ninS (Ne.symm ne_ra_ma) (ninS (Ne.symm ne_wa_ma) nin0))))
    obtain ⟨_, _, ⟨T736, L736, kc736, nc736⟩, -, X736, ⟨Lc736, hQ736, l736, y736, z736⟩, st736⟩ := Jvm.LawKit.callS X734 hx (y := (⟨"com/example/tablewise/tablewise/propagation/WaitingRingTakePinLaw", "contains", "([IIII)Z"⟩ : MethodName)) hown (mvT hZ (hw _ (List.mem_of_getElem? (i := 28) rfl))) (mvT hZ (hw _ (List.mem_of_getElem? (i := 29) rfl))) (mvT hZ (hw _ (List.mem_of_getElem? (i := 17) rfl))) (mvT hZ (hw _ (List.mem_of_getElem? (i := 30) rfl))) (by decide) (backOf (W := 0) (rm5 l Z a0 hw [] ma (fm 0) v729 v725 fm H q T734.heap n0 f735 hhH hln hq4 hH8 hmq) hZ (hw _ (List.mem_of_getElem? (i := 30) rfl)) (hw _ (List.mem_of_getElem? (i := 17) rfl)) (by decide) (by decide)) (g := (mkF m 63 #[.val (.ref r), .val (.ref ma), .val (.int nn), .val (.int ops), .val (.int vals), .val (.int i), .val (.int v723), .val (.int v725), .val (.int (fm 0)), .val (.int (fm 1)), .val (.int v729), .unset, .unset] [(.int v725), (.int v729), (.int (fm 0)), (.ref ma)])) rfl (by rw [hml]; rfl) (argsL := [(.ref ma), (.int (fm 0)), (.int v729), (.int v725)]) (rest := []) (lenOf pd_3 rfl) rfl (by show 2 * 0 + _ ≤ _; exact Nat.le_of_eq rfl) (hb hby d3_63) (fun _ _ => ⟨rfl, rfl, (by decide : 0 + 0 ≤ _), (by decide : 0 + 0 ≤ _)⟩)
    dsimp only [Pt.U, Pt.locs, Pt.cells, Pt.slots] at X736 l736 y736 z736 st736 hQ736
    subst l736 y736 z736
    obtain ⟨rfl, Nq736, eq736⟩ := hQ736
    have N736 := Fr.app N734 Nq736
    have k737 : ∀ tg_, Steps p.tables e below (T736.setTop (mkF m 66 #[.val (.ref r), .val (.ref ma), .val (.int nn), .val (.int ops), .val (.int vals), .val (.int i), .val (.int v723), .val (.int v725), .val (.int (fm 0)), .val (.int (fm 1)), .val (.int v729), .unset, .unset] [(.int (if v725 ∈ q then (1 : Int32) else (0 : Int32)))])) tg_ → Steps p.tables e below (s₁.setTop (entryFrame m #[(.ref r), (.ref ma), (.int nn), (.int ops), (.int vals), (.int i)] 13)) tg_ := by
      intro tg_ kt
      refine k732 tg_ ?_
      refine XS.icmpYes X0.here hx rfl (pc0 := 42) (pc' := 50) rfl (hb hby d3_42) rfl (teq hc42_733).1 (by decide) (by decide) ?_
      show Steps p.tables e below (s₁.setTop (mkF m 50 #[.val (.ref r), .val (.ref ma), .val (.int nn), .val (.int ops), .val (.int vals), .val (.int i), .val (.int v723), .val (.int v725), .val (.int (fm 0)), .val (.int (fm 1)), .val (.int v729), .unset, .unset] [])) _
      refine XS.aloadN X0.here hx rfl (hb hby d3_50) rfl rfl ?_
      show Steps p.tables e below (s₁.setTop (mkF m 51 #[.val (.ref r), .val (.ref ma), .val (.int nn), .val (.int ops), .val (.int vals), .val (.int i), .val (.int v723), .val (.int v725), .val (.int (fm 0)), .val (.int (fm 1)), .val (.int v729), .unset, .unset] [(.ref r)])) _
      refine XS.iload X0.here hx rfl (hb hby d3_51) rfl ?_
      show Steps p.tables e below (s₁.setTop (mkF m 53 #[.val (.ref r), .val (.ref ma), .val (.int nn), .val (.int ops), .val (.int vals), .val (.int i), .val (.int v723), .val (.int v725), .val (.int (fm 0)), .val (.int (fm 1)), .val (.int v729), .unset, .unset] [(.int v725), (.ref r)])) _
      refine st734.trans ?_
      show Steps p.tables e below (T734.setTop (mkF m 56 #[.val (.ref r), .val (.ref ma), .val (.int nn), .val (.int ops), .val (.int vals), .val (.int i), .val (.int v723), .val (.int v725), .val (.int (fm 0)), .val (.int (fm 1)), .val (.int v729), .unset, .unset] [])) _
      refine XS.aloadN X734.here hx rfl (hb hby d3_56) rfl rfl ?_
      show Steps p.tables e below (T734.setTop (mkF m 57 #[.val (.ref r), .val (.ref ma), .val (.int nn), .val (.int ops), .val (.int vals), .val (.int i), .val (.int v723), .val (.int v725), .val (.int (fm 0)), .val (.int (fm 1)), .val (.int v729), .unset, .unset] [(.ref ma)])) _
      refine XS.iload X734.here hx rfl (hb hby d3_57) rfl ?_
      show Steps p.tables e below (T734.setTop (mkF m 59 #[.val (.ref r), .val (.ref ma), .val (.int nn), .val (.int ops), .val (.int vals), .val (.int i), .val (.int v723), .val (.int v725), .val (.int (fm 0)), .val (.int (fm 1)), .val (.int v729), .unset, .unset] [(.int (fm 0)), (.ref ma)])) _
      refine XS.iload X734.here hx rfl (hb hby d3_59) rfl ?_
      show Steps p.tables e below (T734.setTop (mkF m 61 #[.val (.ref r), .val (.ref ma), .val (.int nn), .val (.int ops), .val (.int vals), .val (.int i), .val (.int v723), .val (.int v725), .val (.int (fm 0)), .val (.int (fm 1)), .val (.int v729), .unset, .unset] [(.int v729), (.int (fm 0)), (.ref ma)])) _
      refine XS.iload X734.here hx rfl (hb hby d3_61) rfl ?_
      show Steps p.tables e below (T734.setTop (mkF m 63 #[.val (.ref r), .val (.ref ma), .val (.int nn), .val (.int ops), .val (.int vals), .val (.int i), .val (.int v723), .val (.int v725), .val (.int (fm 0)), .val (.int (fm 1)), .val (.int v729), .unset, .unset] [(.int v725), (.int v729), (.int (fm 0)), (.ref ma)])) _
      refine st736 _ ?_
      show Steps p.tables e below (T736.setTop (mkF m 66 #[.val (.ref r), .val (.ref ma), .val (.int nn), .val (.int ops), .val (.int vals), .val (.int i), .val (.int v723), .val (.int v725), .val (.int (fm 0)), .val (.int (fm 1)), .val (.int v729), .unset, .unset] [(.int (if v725 ∈ q then (1 : Int32) else (0 : Int32)))])) _
      exact kt
    by_cases hc66_738 : (if v725 ∈ q then (1 : Int32) else (0 : Int32)) = (0 : Int32)
    · have hj739 : ((2 : Int32) + (fm 1)).toInt = (((2 + T) : Nat) : Int) := by
        have ar740 : (2 : Int32).toInt = 2 := by decide
        have ar741 := rng32 (fm 1)
        have ar742 := rng32 ((2 : Int32) + (fm 1))
        first | have ar743 : ((2 : Int32) + (fm 1)).toInt = 2 + (fm 1).toInt := (by have qw := c_iadd (2 : Int32) (fm 1); omega) | (have ar743 := c_iadd (2 : Int32) (fm 1); skip)
        omega
      obtain ⟨T744, h744, X744, e744, W744, V744, st744⟩ := own_stI X736 hx hZ eq736 f735 (i := (2 + T)) hj739 (by omega) (g := (mkF m 76 #[.val (.ref r), .val (.ref ma), .val (.int nn), .val (.int ops), .val (.int vals), .val (.int i), .val (.int v723), .val (.int v725), .val (.int (fm 0)), .val (.int (fm 1)), .val (.int v729), .unset, .unset] [(.int v725), (.int ((2 : Int32) + (fm 1))), (.ref ma)])) rfl rfl (hb hby d3_76)
      have N744 := Fr.snoc X744 N736 g_ma
      obtain ⟨T745, h745, X745, e745, W745, V745, st745⟩ := own_stI X744 hx hZ e744 V744 (i := 1) (by decide : (1 : Int32).toInt = ((1 : Nat) : Int)) (by decide) (g := (mkF m 83 #[.val (.ref r), .val (.ref ma), .val (.int nn), .val (.int ops), .val (.int vals), .val (.int i), .val (.int v723), .val (.int v725), .val (.int (fm 0)), .val (.int (fm 1)), .val (.int v729), .unset, .unset] [(.int ((fm 1) + (1 : Int32))), (.int (1 : Int32)), (.ref ma)])) rfl rfl (hb hby d3_83)
      have N745 := Fr.snoc X745 N744 g_ma
      have k746 : ∀ tg_, Steps p.tables e below (T745.setTop (mkF m 85 #[.val (.ref r), .val (.ref ma), .val (.int nn), .val (.int ops), .val (.int vals), .val (.int i), .val (.int v723), .val (.int v725), .val (.int (fm 0)), .val (.int (fm 1)), .val (.int v729), .unset, .unset] [(.int (1 : Int32))])) tg_ → Steps p.tables e below (s₁.setTop (entryFrame m #[(.ref r), (.ref ma), (.int nn), (.int ops), (.int vals), (.int i)] 13)) tg_ := by
        intro tg_ kt
        refine k737 tg_ ?_
        refine XS.ifNo X736.here hx rfl (hb hby d3_66) rfl ((if0 _ _).trans (teq hc66_738).2) ?_
        show Steps p.tables e below (T736.setTop (mkF m 69 #[.val (.ref r), .val (.ref ma), .val (.int nn), .val (.int ops), .val (.int vals), .val (.int i), .val (.int v723), .val (.int v725), .val (.int (fm 0)), .val (.int (fm 1)), .val (.int v729), .unset, .unset] [])) _
        refine XS.aloadN X736.here hx rfl (hb hby d3_69) rfl rfl ?_
        show Steps p.tables e below (T736.setTop (mkF m 70 #[.val (.ref r), .val (.ref ma), .val (.int nn), .val (.int ops), .val (.int vals), .val (.int i), .val (.int v723), .val (.int v725), .val (.int (fm 0)), .val (.int (fm 1)), .val (.int v729), .unset, .unset] [(.ref ma)])) _
        refine XS.iconst X736.here hx rfl (hb hby d3_70) ?_
        show Steps p.tables e below (T736.setTop (mkF m 71 #[.val (.ref r), .val (.ref ma), .val (.int nn), .val (.int ops), .val (.int vals), .val (.int i), .val (.int v723), .val (.int v725), .val (.int (fm 0)), .val (.int (fm 1)), .val (.int v729), .unset, .unset] [(.int (2 : Int32)), (.ref ma)])) _
        refine XS.iload X736.here hx rfl (hb hby d3_71) rfl ?_
        show Steps p.tables e below (T736.setTop (mkF m 73 #[.val (.ref r), .val (.ref ma), .val (.int nn), .val (.int ops), .val (.int vals), .val (.int i), .val (.int v723), .val (.int v725), .val (.int (fm 0)), .val (.int (fm 1)), .val (.int v729), .unset, .unset] [(.int (fm 1)), (.int (2 : Int32)), (.ref ma)])) _
        refine XS.iadd X736.here hx rfl (hb hby d3_73) rfl ?_
        show Steps p.tables e below (T736.setTop (mkF m 74 #[.val (.ref r), .val (.ref ma), .val (.int nn), .val (.int ops), .val (.int vals), .val (.int i), .val (.int v723), .val (.int v725), .val (.int (fm 0)), .val (.int (fm 1)), .val (.int v729), .unset, .unset] [(.int ((2 : Int32) + (fm 1))), (.ref ma)])) _
        refine XS.iload X736.here hx rfl (hb hby d3_74) rfl ?_
        show Steps p.tables e below (T736.setTop (mkF m 76 #[.val (.ref r), .val (.ref ma), .val (.int nn), .val (.int ops), .val (.int vals), .val (.int i), .val (.int v723), .val (.int v725), .val (.int (fm 0)), .val (.int (fm 1)), .val (.int v729), .unset, .unset] [(.int v725), (.int ((2 : Int32) + (fm 1))), (.ref ma)])) _
        refine st744 _ ?_
        show Steps p.tables e below (T744.setTop (mkF m 77 #[.val (.ref r), .val (.ref ma), .val (.int nn), .val (.int ops), .val (.int vals), .val (.int i), .val (.int v723), .val (.int v725), .val (.int (fm 0)), .val (.int (fm 1)), .val (.int v729), .unset, .unset] [])) _
        refine XS.aloadN X744.here hx rfl (hb hby d3_77) rfl rfl ?_
        show Steps p.tables e below (T744.setTop (mkF m 78 #[.val (.ref r), .val (.ref ma), .val (.int nn), .val (.int ops), .val (.int vals), .val (.int i), .val (.int v723), .val (.int v725), .val (.int (fm 0)), .val (.int (fm 1)), .val (.int v729), .unset, .unset] [(.ref ma)])) _
        refine XS.iconst X744.here hx rfl (hb hby d3_78) ?_
        show Steps p.tables e below (T744.setTop (mkF m 79 #[.val (.ref r), .val (.ref ma), .val (.int nn), .val (.int ops), .val (.int vals), .val (.int i), .val (.int v723), .val (.int v725), .val (.int (fm 0)), .val (.int (fm 1)), .val (.int v729), .unset, .unset] [(.int (1 : Int32)), (.ref ma)])) _
        refine XS.iload X744.here hx rfl (hb hby d3_79) rfl ?_
        show Steps p.tables e below (T744.setTop (mkF m 81 #[.val (.ref r), .val (.ref ma), .val (.int nn), .val (.int ops), .val (.int vals), .val (.int i), .val (.int v723), .val (.int v725), .val (.int (fm 0)), .val (.int (fm 1)), .val (.int v729), .unset, .unset] [(.int (fm 1)), (.int (1 : Int32)), (.ref ma)])) _
        refine XS.iconst X744.here hx rfl (hb hby d3_81) ?_
        show Steps p.tables e below (T744.setTop (mkF m 82 #[.val (.ref r), .val (.ref ma), .val (.int nn), .val (.int ops), .val (.int vals), .val (.int i), .val (.int v723), .val (.int v725), .val (.int (fm 0)), .val (.int (fm 1)), .val (.int v729), .unset, .unset] [(.int (1 : Int32)), (.int (fm 1)), (.int (1 : Int32)), (.ref ma)])) _
        refine XS.iadd X744.here hx rfl (hb hby d3_82) rfl ?_
        show Steps p.tables e below (T744.setTop (mkF m 83 #[.val (.ref r), .val (.ref ma), .val (.int nn), .val (.int ops), .val (.int vals), .val (.int i), .val (.int v723), .val (.int v725), .val (.int (fm 0)), .val (.int (fm 1)), .val (.int v729), .unset, .unset] [(.int ((fm 1) + (1 : Int32))), (.int (1 : Int32)), (.ref ma)])) _
        refine st745 _ ?_
        show Steps p.tables e below (T745.setTop (mkF m 84 #[.val (.ref r), .val (.ref ma), .val (.int nn), .val (.int ops), .val (.int vals), .val (.int i), .val (.int v723), .val (.int v725), .val (.int (fm 0)), .val (.int (fm 1)), .val (.int v729), .unset, .unset] [])) _
        refine XS.iconst X745.here hx rfl (hb hby d3_84) ?_
        show Steps p.tables e below (T745.setTop (mkF m 85 #[.val (.ref r), .val (.ref ma), .val (.int nn), .val (.int ops), .val (.int vals), .val (.int i), .val (.int v723), .val (.int v725), .val (.int (fm 0)), .val (.int (fm 1)), .val (.int v729), .unset, .unset] [(.int (1 : Int32))])) _
        exact kt
      have f747 := ((((Keep.refl h0 [r, ra, wa, ma]).trans oK734 (allS (Or.inl (List.mem_of_getElem? (i := 0) rfl)) (allS (Or.inl (List.mem_of_getElem? (i := 1) rfl)) (allS (Or.inl (List.mem_of_getElem? (i := 2) rfl)) all0)))).trans (Keep.of_wr W744) (allS (Or.inl (List.mem_of_getElem? (i := 3) rfl)) all0)).trans (Keep.of_wr W745) (allS (Or.inl (List.mem_of_getElem? (i := 3) rfl)) all0))
      have f749 := ((R734.keep (Keep.of_wr W744) (ninS ne_r_ma nin0) (ninS ne_ra_ma nin0) (ninS ne_wa_ma nin0)).keep (Keep.of_wr W745) (ninS ne_r_ma nin0) (ninS ne_ra_ma nin0) (ninS ne_wa_ma nin0))
      have hnm748 : ¬ v725 ∈ q := fun hx => by have e := hc66_738; rw [if_pos hx] at e; exact absurd e (by decide)
      have ht748 : ((fm 1) + (1 : Int32)).toInt = ((T + 1 : Nat) : Int) := by
        have a := c_iadd (fm 1) 1
        have b := rng32 ((fm 1) + (1 : Int32))
        have o : (1 : Int32).toInt = 1 := by decide
        omega
      obtain ⟨fs, hr, hrun, hended, hW, hsame⟩ := X745.leave (v := some (.int (1 : Int32))) (fun h => by rw [Bd.returns] at h; cases h)
      refine ⟨_, _, k746 _ (retN X745 hx (t := .boolean) Bd.returns (by simp) (hb hby d3_85) hr), hrun, hended, _, _, rfl, ?_, ⟨_, rfl⟩, hW, hsame.mono (by decide) (by decide)⟩
      show Q3 Z r ma nn ops vals i ra wa n q fm b h0 n0 _ T745.heap _
      rw [e745]
      exact ⟨rfl, N745, f747, ⟨q ++ [v725], _, (by have q0 := f749; rw [own_add, if_neg hnm748] at q0; exact q0), V745, own_mdl_add hm0 hm1 hHT hTb hmq ht748⟩⟩
    · have k750 : ∀ tg_, Steps p.tables e below (T736.setTop (mkF m 85 #[.val (.ref r), .val (.ref ma), .val (.int nn), .val (.int ops), .val (.int vals), .val (.int i), .val (.int v723), .val (.int v725), .val (.int (fm 0)), .val (.int (fm 1)), .val (.int v729), .unset, .unset] [(.int (1 : Int32))])) tg_ → Steps p.tables e below (s₁.setTop (entryFrame m #[(.ref r), (.ref ma), (.int nn), (.int ops), (.int vals), (.int i)] 13)) tg_ := by
        intro tg_ kt
        refine k737 tg_ ?_
        refine XS.ifYes X736.here hx rfl (pc0 := 66) (pc' := 84) rfl (hb hby d3_66) rfl ((if0 _ _).trans (feq hc66_738).2) (by decide) (by decide) ?_
        show Steps p.tables e below (T736.setTop (mkF m 84 #[.val (.ref r), .val (.ref ma), .val (.int nn), .val (.int ops), .val (.int vals), .val (.int i), .val (.int v723), .val (.int v725), .val (.int (fm 0)), .val (.int (fm 1)), .val (.int v729), .unset, .unset] [])) _
        refine XS.iconst X736.here hx rfl (hb hby d3_84) ?_
        show Steps p.tables e below (T736.setTop (mkF m 85 #[.val (.ref r), .val (.ref ma), .val (.int nn), .val (.int ops), .val (.int vals), .val (.int i), .val (.int v723), .val (.int v725), .val (.int (fm 0)), .val (.int (fm 1)), .val (.int v729), .unset, .unset] [(.int (1 : Int32))])) _
        exact kt
      have f751 := ((Keep.refl h0 [r, ra, wa, ma]).trans oK734 (allS (Or.inl (List.mem_of_getElem? (i := 0) rfl)) (allS (Or.inl (List.mem_of_getElem? (i := 1) rfl)) (allS (Or.inl (List.mem_of_getElem? (i := 2) rfl)) all0))))
      have hme752 : v725 ∈ q := Classical.byContradiction fun hx => hc66_738 (by rw [if_neg hx])
      obtain ⟨fs, hr, hrun, hended, hW, hsame⟩ := X736.leave (v := some (.int (1 : Int32))) (fun h => by rw [Bd.returns] at h; cases h)
      refine ⟨_, _, k750 _ (retN X736 hx (t := .boolean) Bd.returns (by simp) (hb hby d3_85) hr), hrun, hended, _, _, rfl, ?_, ⟨_, rfl⟩, hW, hsame.mono (by decide) (by decide)⟩
      show Q3 Z r ma nn ops vals i ra wa n q fm b h0 n0 _ T736.heap _
      rw [eq736]
      exact ⟨rfl, N736, f751, ⟨q, _, (by have q0 := R734; rw [own_add, if_pos hme752] at q0; exact q0), f735, ⟨H, T, hm0, hm1, hHT, by omega, hmq⟩⟩⟩
  · have k753 : ∀ tg_, Steps p.tables e below (s₁.setTop (mkF m 47 #[.val (.ref r), .val (.ref ma), .val (.int nn), .val (.int ops), .val (.int vals), .val (.int i), .val (.int v723), .val (.int v725), .val (.int (fm 0)), .val (.int (fm 1)), .val (.int v729), .unset, .unset] [(.int v729)])) tg_ → Steps p.tables e below (s₁.setTop (entryFrame m #[(.ref r), (.ref ma), (.int nn), (.int ops), (.int vals), (.int i)] 13)) tg_ := by
      intro tg_ kt
      refine k732 tg_ ?_
      refine XS.icmpNo X0.here hx rfl (hb hby d3_42) rfl (feq hc42_733).1 ?_
      show Steps p.tables e below (s₁.setTop (mkF m 45 #[.val (.ref r), .val (.ref ma), .val (.int nn), .val (.int ops), .val (.int vals), .val (.int i), .val (.int v723), .val (.int v725), .val (.int (fm 0)), .val (.int (fm 1)), .val (.int v729), .unset, .unset] [])) _
      refine XS.iload X0.here hx rfl (hb hby d3_45) rfl ?_
      show Steps p.tables e below (s₁.setTop (mkF m 47 #[.val (.ref r), .val (.ref ma), .val (.int nn), .val (.int ops), .val (.int vals), .val (.int i), .val (.int v723), .val (.int v725), .val (.int (fm 0)), .val (.int (fm 1)), .val (.int v729), .unset, .unset] [(.int v729)])) _
      exact kt
    by_cases hc47_754 : v729 = (0 : Int32)
    · obtain ⟨cq755, kq755, q755a, q755b, q755c⟩ := isOf hZ e0 (own_Ring.exa R)
      obtain ⟨_, _, ⟨T755, L755, kc755, nc755⟩, -, X755, ⟨Lc755, hQ755, l755, y755, z755⟩, st755⟩ := X0.virtualBack hx (y := (⟨"com/example/tablewise/tablewise/propagation/WaitingRing", "add", "(I)V"⟩ : MethodName)) (z := (⟨"com/example/tablewise/tablewise/propagation/WaitingRing", "add", "(I)V"⟩ : MethodName)) hown (mvT hZ (hw _ (List.mem_of_getElem? (i := 19) rfl))) (mvT hZ (hw _ (List.mem_of_getElem? (i := 20) rfl))) (notFace_of_selects (args := #[]) (mvT hZ (hw _ (List.mem_of_getElem? (i := 22) rfl)))) (mvT hZ (hw _ (List.mem_of_getElem? (i := 22) rfl))) (mvT hZ (hw _ (List.mem_of_getElem? (i := 21) rfl))) (by decide) (backOf (W := 0) (rm4 l Z a0 hw [] r v725 ra wa nn n q k h0 n0 Z0 g_r g_ra g_wa R hk hkn) hZ (hw _ (List.mem_of_getElem? (i := 23) rfl)) (hw _ (List.mem_of_getElem? (i := 2) rfl)) (by decide) (by decide)) q755a q755c (g := (mkF m 53 #[.val (.ref r), .val (.ref ma), .val (.int nn), .val (.int ops), .val (.int vals), .val (.int i), .val (.int v723), .val (.int v725), .val (.int (fm 0)), .val (.int (fm 1)), .val (.int v729), .unset, .unset] [(.int v725), (.ref r)])) rfl (by rw [hml]; rfl) (Steps.refl _) (argsL := [(.int v725)]) (rest := []) (lenOf pd_0 rfl) rfl (by show 2 * 0 + _ ≤ _; exact Nat.le_of_eq rfl) (hb hby d3_53) (fun _ _ => ⟨rfl, e0, (by decide : 0 + 0 ≤ _), (by decide : 0 + 0 ≤ _)⟩)
      dsimp only [Pt.U, Pt.locs, Pt.cells, Pt.slots] at X755 l755 y755 z755 st755 hQ755
      subst l755 y755 z755
      obtain ⟨rfl, Nq755, oK755, m0_755⟩ := hQ755
      have N755 := Fr.app N0 Nq755
      have R755 := m0_755
      have f756 := (V_ma.keep oK755 (ninS (Ne.symm ne_r_ma) (ninS (Ne.symm ne_ra_ma) (ninS (Ne.symm ne_wa_ma) nin0))))
      obtain ⟨_, _, ⟨T757, L757, kc757, nc757⟩, -, X757, ⟨Lc757, hQ757, l757, y757, z757⟩, st757⟩ := Jvm.LawKit.callS X755 hx (y := (⟨"com/example/tablewise/tablewise/propagation/WaitingRingTakePinLaw", "contains", "([IIII)Z"⟩ : MethodName)) hown (mvT hZ (hw _ (List.mem_of_getElem? (i := 28) rfl))) (mvT hZ (hw _ (List.mem_of_getElem? (i := 29) rfl))) (mvT hZ (hw _ (List.mem_of_getElem? (i := 17) rfl))) (mvT hZ (hw _ (List.mem_of_getElem? (i := 30) rfl))) (by decide) (backOf (W := 0) (rm5 l Z a0 hw [] ma (fm 0) v729 v725 fm H q T755.heap n0 f756 hhH hln hq4 hH8 hmq) hZ (hw _ (List.mem_of_getElem? (i := 30) rfl)) (hw _ (List.mem_of_getElem? (i := 17) rfl)) (by decide) (by decide)) (g := (mkF m 63 #[.val (.ref r), .val (.ref ma), .val (.int nn), .val (.int ops), .val (.int vals), .val (.int i), .val (.int v723), .val (.int v725), .val (.int (fm 0)), .val (.int (fm 1)), .val (.int v729), .unset, .unset] [(.int v725), (.int v729), (.int (fm 0)), (.ref ma)])) rfl (by rw [hml]; rfl) (argsL := [(.ref ma), (.int (fm 0)), (.int v729), (.int v725)]) (rest := []) (lenOf pd_3 rfl) rfl (by show 2 * 0 + _ ≤ _; exact Nat.le_of_eq rfl) (hb hby d3_63) (fun _ _ => ⟨rfl, rfl, (by decide : 0 + 0 ≤ _), (by decide : 0 + 0 ≤ _)⟩)
      dsimp only [Pt.U, Pt.locs, Pt.cells, Pt.slots] at X757 l757 y757 z757 st757 hQ757
      subst l757 y757 z757
      obtain ⟨rfl, Nq757, eq757⟩ := hQ757
      have N757 := Fr.app N755 Nq757
      have k758 : ∀ tg_, Steps p.tables e below (T757.setTop (mkF m 66 #[.val (.ref r), .val (.ref ma), .val (.int nn), .val (.int ops), .val (.int vals), .val (.int i), .val (.int v723), .val (.int v725), .val (.int (fm 0)), .val (.int (fm 1)), .val (.int v729), .unset, .unset] [(.int (if v725 ∈ q then (1 : Int32) else (0 : Int32)))])) tg_ → Steps p.tables e below (s₁.setTop (entryFrame m #[(.ref r), (.ref ma), (.int nn), (.int ops), (.int vals), (.int i)] 13)) tg_ := by
        intro tg_ kt
        refine k753 tg_ ?_
        refine XS.ifNo X0.here hx rfl (hb hby d3_47) rfl ((if0 _ _).trans (teq hc47_754).2) ?_
        show Steps p.tables e below (s₁.setTop (mkF m 50 #[.val (.ref r), .val (.ref ma), .val (.int nn), .val (.int ops), .val (.int vals), .val (.int i), .val (.int v723), .val (.int v725), .val (.int (fm 0)), .val (.int (fm 1)), .val (.int v729), .unset, .unset] [])) _
        refine XS.aloadN X0.here hx rfl (hb hby d3_50) rfl rfl ?_
        show Steps p.tables e below (s₁.setTop (mkF m 51 #[.val (.ref r), .val (.ref ma), .val (.int nn), .val (.int ops), .val (.int vals), .val (.int i), .val (.int v723), .val (.int v725), .val (.int (fm 0)), .val (.int (fm 1)), .val (.int v729), .unset, .unset] [(.ref r)])) _
        refine XS.iload X0.here hx rfl (hb hby d3_51) rfl ?_
        show Steps p.tables e below (s₁.setTop (mkF m 53 #[.val (.ref r), .val (.ref ma), .val (.int nn), .val (.int ops), .val (.int vals), .val (.int i), .val (.int v723), .val (.int v725), .val (.int (fm 0)), .val (.int (fm 1)), .val (.int v729), .unset, .unset] [(.int v725), (.ref r)])) _
        refine st755.trans ?_
        show Steps p.tables e below (T755.setTop (mkF m 56 #[.val (.ref r), .val (.ref ma), .val (.int nn), .val (.int ops), .val (.int vals), .val (.int i), .val (.int v723), .val (.int v725), .val (.int (fm 0)), .val (.int (fm 1)), .val (.int v729), .unset, .unset] [])) _
        refine XS.aloadN X755.here hx rfl (hb hby d3_56) rfl rfl ?_
        show Steps p.tables e below (T755.setTop (mkF m 57 #[.val (.ref r), .val (.ref ma), .val (.int nn), .val (.int ops), .val (.int vals), .val (.int i), .val (.int v723), .val (.int v725), .val (.int (fm 0)), .val (.int (fm 1)), .val (.int v729), .unset, .unset] [(.ref ma)])) _
        refine XS.iload X755.here hx rfl (hb hby d3_57) rfl ?_
        show Steps p.tables e below (T755.setTop (mkF m 59 #[.val (.ref r), .val (.ref ma), .val (.int nn), .val (.int ops), .val (.int vals), .val (.int i), .val (.int v723), .val (.int v725), .val (.int (fm 0)), .val (.int (fm 1)), .val (.int v729), .unset, .unset] [(.int (fm 0)), (.ref ma)])) _
        refine XS.iload X755.here hx rfl (hb hby d3_59) rfl ?_
        show Steps p.tables e below (T755.setTop (mkF m 61 #[.val (.ref r), .val (.ref ma), .val (.int nn), .val (.int ops), .val (.int vals), .val (.int i), .val (.int v723), .val (.int v725), .val (.int (fm 0)), .val (.int (fm 1)), .val (.int v729), .unset, .unset] [(.int v729), (.int (fm 0)), (.ref ma)])) _
        refine XS.iload X755.here hx rfl (hb hby d3_61) rfl ?_
        show Steps p.tables e below (T755.setTop (mkF m 63 #[.val (.ref r), .val (.ref ma), .val (.int nn), .val (.int ops), .val (.int vals), .val (.int i), .val (.int v723), .val (.int v725), .val (.int (fm 0)), .val (.int (fm 1)), .val (.int v729), .unset, .unset] [(.int v725), (.int v729), (.int (fm 0)), (.ref ma)])) _
        refine st757 _ ?_
        show Steps p.tables e below (T757.setTop (mkF m 66 #[.val (.ref r), .val (.ref ma), .val (.int nn), .val (.int ops), .val (.int vals), .val (.int i), .val (.int v723), .val (.int v725), .val (.int (fm 0)), .val (.int (fm 1)), .val (.int v729), .unset, .unset] [(.int (if v725 ∈ q then (1 : Int32) else (0 : Int32)))])) _
        exact kt
      by_cases hc66_759 : (if v725 ∈ q then (1 : Int32) else (0 : Int32)) = (0 : Int32)
      · have hj760 : ((2 : Int32) + (fm 1)).toInt = (((2 + T) : Nat) : Int) := by
          have ar761 : (2 : Int32).toInt = 2 := by decide
          have ar762 := rng32 (fm 1)
          have ar763 := rng32 ((2 : Int32) + (fm 1))
          first | have ar764 : ((2 : Int32) + (fm 1)).toInt = 2 + (fm 1).toInt := (by have qw := c_iadd (2 : Int32) (fm 1); omega) | (have ar764 := c_iadd (2 : Int32) (fm 1); skip)
          omega
        obtain ⟨T765, h765, X765, e765, W765, V765, st765⟩ := own_stI X757 hx hZ eq757 f756 (i := (2 + T)) hj760 (by omega) (g := (mkF m 76 #[.val (.ref r), .val (.ref ma), .val (.int nn), .val (.int ops), .val (.int vals), .val (.int i), .val (.int v723), .val (.int v725), .val (.int (fm 0)), .val (.int (fm 1)), .val (.int v729), .unset, .unset] [(.int v725), (.int ((2 : Int32) + (fm 1))), (.ref ma)])) rfl rfl (hb hby d3_76)
        have N765 := Fr.snoc X765 N757 g_ma
        obtain ⟨T766, h766, X766, e766, W766, V766, st766⟩ := own_stI X765 hx hZ e765 V765 (i := 1) (by decide : (1 : Int32).toInt = ((1 : Nat) : Int)) (by decide) (g := (mkF m 83 #[.val (.ref r), .val (.ref ma), .val (.int nn), .val (.int ops), .val (.int vals), .val (.int i), .val (.int v723), .val (.int v725), .val (.int (fm 0)), .val (.int (fm 1)), .val (.int v729), .unset, .unset] [(.int ((fm 1) + (1 : Int32))), (.int (1 : Int32)), (.ref ma)])) rfl rfl (hb hby d3_83)
        have N766 := Fr.snoc X766 N765 g_ma
        have k767 : ∀ tg_, Steps p.tables e below (T766.setTop (mkF m 85 #[.val (.ref r), .val (.ref ma), .val (.int nn), .val (.int ops), .val (.int vals), .val (.int i), .val (.int v723), .val (.int v725), .val (.int (fm 0)), .val (.int (fm 1)), .val (.int v729), .unset, .unset] [(.int (1 : Int32))])) tg_ → Steps p.tables e below (s₁.setTop (entryFrame m #[(.ref r), (.ref ma), (.int nn), (.int ops), (.int vals), (.int i)] 13)) tg_ := by
          intro tg_ kt
          refine k758 tg_ ?_
          refine XS.ifNo X757.here hx rfl (hb hby d3_66) rfl ((if0 _ _).trans (teq hc66_759).2) ?_
          show Steps p.tables e below (T757.setTop (mkF m 69 #[.val (.ref r), .val (.ref ma), .val (.int nn), .val (.int ops), .val (.int vals), .val (.int i), .val (.int v723), .val (.int v725), .val (.int (fm 0)), .val (.int (fm 1)), .val (.int v729), .unset, .unset] [])) _
          refine XS.aloadN X757.here hx rfl (hb hby d3_69) rfl rfl ?_
          show Steps p.tables e below (T757.setTop (mkF m 70 #[.val (.ref r), .val (.ref ma), .val (.int nn), .val (.int ops), .val (.int vals), .val (.int i), .val (.int v723), .val (.int v725), .val (.int (fm 0)), .val (.int (fm 1)), .val (.int v729), .unset, .unset] [(.ref ma)])) _
          refine XS.iconst X757.here hx rfl (hb hby d3_70) ?_
          show Steps p.tables e below (T757.setTop (mkF m 71 #[.val (.ref r), .val (.ref ma), .val (.int nn), .val (.int ops), .val (.int vals), .val (.int i), .val (.int v723), .val (.int v725), .val (.int (fm 0)), .val (.int (fm 1)), .val (.int v729), .unset, .unset] [(.int (2 : Int32)), (.ref ma)])) _
          refine XS.iload X757.here hx rfl (hb hby d3_71) rfl ?_
          show Steps p.tables e below (T757.setTop (mkF m 73 #[.val (.ref r), .val (.ref ma), .val (.int nn), .val (.int ops), .val (.int vals), .val (.int i), .val (.int v723), .val (.int v725), .val (.int (fm 0)), .val (.int (fm 1)), .val (.int v729), .unset, .unset] [(.int (fm 1)), (.int (2 : Int32)), (.ref ma)])) _
          refine XS.iadd X757.here hx rfl (hb hby d3_73) rfl ?_
          show Steps p.tables e below (T757.setTop (mkF m 74 #[.val (.ref r), .val (.ref ma), .val (.int nn), .val (.int ops), .val (.int vals), .val (.int i), .val (.int v723), .val (.int v725), .val (.int (fm 0)), .val (.int (fm 1)), .val (.int v729), .unset, .unset] [(.int ((2 : Int32) + (fm 1))), (.ref ma)])) _
          refine XS.iload X757.here hx rfl (hb hby d3_74) rfl ?_
          show Steps p.tables e below (T757.setTop (mkF m 76 #[.val (.ref r), .val (.ref ma), .val (.int nn), .val (.int ops), .val (.int vals), .val (.int i), .val (.int v723), .val (.int v725), .val (.int (fm 0)), .val (.int (fm 1)), .val (.int v729), .unset, .unset] [(.int v725), (.int ((2 : Int32) + (fm 1))), (.ref ma)])) _
          refine st765 _ ?_
          show Steps p.tables e below (T765.setTop (mkF m 77 #[.val (.ref r), .val (.ref ma), .val (.int nn), .val (.int ops), .val (.int vals), .val (.int i), .val (.int v723), .val (.int v725), .val (.int (fm 0)), .val (.int (fm 1)), .val (.int v729), .unset, .unset] [])) _
          refine XS.aloadN X765.here hx rfl (hb hby d3_77) rfl rfl ?_
          show Steps p.tables e below (T765.setTop (mkF m 78 #[.val (.ref r), .val (.ref ma), .val (.int nn), .val (.int ops), .val (.int vals), .val (.int i), .val (.int v723), .val (.int v725), .val (.int (fm 0)), .val (.int (fm 1)), .val (.int v729), .unset, .unset] [(.ref ma)])) _
          refine XS.iconst X765.here hx rfl (hb hby d3_78) ?_
          show Steps p.tables e below (T765.setTop (mkF m 79 #[.val (.ref r), .val (.ref ma), .val (.int nn), .val (.int ops), .val (.int vals), .val (.int i), .val (.int v723), .val (.int v725), .val (.int (fm 0)), .val (.int (fm 1)), .val (.int v729), .unset, .unset] [(.int (1 : Int32)), (.ref ma)])) _
          refine XS.iload X765.here hx rfl (hb hby d3_79) rfl ?_
          show Steps p.tables e below (T765.setTop (mkF m 81 #[.val (.ref r), .val (.ref ma), .val (.int nn), .val (.int ops), .val (.int vals), .val (.int i), .val (.int v723), .val (.int v725), .val (.int (fm 0)), .val (.int (fm 1)), .val (.int v729), .unset, .unset] [(.int (fm 1)), (.int (1 : Int32)), (.ref ma)])) _
          refine XS.iconst X765.here hx rfl (hb hby d3_81) ?_
          show Steps p.tables e below (T765.setTop (mkF m 82 #[.val (.ref r), .val (.ref ma), .val (.int nn), .val (.int ops), .val (.int vals), .val (.int i), .val (.int v723), .val (.int v725), .val (.int (fm 0)), .val (.int (fm 1)), .val (.int v729), .unset, .unset] [(.int (1 : Int32)), (.int (fm 1)), (.int (1 : Int32)), (.ref ma)])) _
          refine XS.iadd X765.here hx rfl (hb hby d3_82) rfl ?_
          show Steps p.tables e below (T765.setTop (mkF m 83 #[.val (.ref r), .val (.ref ma), .val (.int nn), .val (.int ops), .val (.int vals), .val (.int i), .val (.int v723), .val (.int v725), .val (.int (fm 0)), .val (.int (fm 1)), .val (.int v729), .unset, .unset] [(.int ((fm 1) + (1 : Int32))), (.int (1 : Int32)), (.ref ma)])) _
          refine st766 _ ?_
          show Steps p.tables e below (T766.setTop (mkF m 84 #[.val (.ref r), .val (.ref ma), .val (.int nn), .val (.int ops), .val (.int vals), .val (.int i), .val (.int v723), .val (.int v725), .val (.int (fm 0)), .val (.int (fm 1)), .val (.int v729), .unset, .unset] [])) _
          refine XS.iconst X766.here hx rfl (hb hby d3_84) ?_
          show Steps p.tables e below (T766.setTop (mkF m 85 #[.val (.ref r), .val (.ref ma), .val (.int nn), .val (.int ops), .val (.int vals), .val (.int i), .val (.int v723), .val (.int v725), .val (.int (fm 0)), .val (.int (fm 1)), .val (.int v729), .unset, .unset] [(.int (1 : Int32))])) _
          exact kt
        have f768 := ((((Keep.refl h0 [r, ra, wa, ma]).trans oK755 (allS (Or.inl (List.mem_of_getElem? (i := 0) rfl)) (allS (Or.inl (List.mem_of_getElem? (i := 1) rfl)) (allS (Or.inl (List.mem_of_getElem? (i := 2) rfl)) all0)))).trans (Keep.of_wr W765) (allS (Or.inl (List.mem_of_getElem? (i := 3) rfl)) all0)).trans (Keep.of_wr W766) (allS (Or.inl (List.mem_of_getElem? (i := 3) rfl)) all0))
        have f770 := ((R755.keep (Keep.of_wr W765) (ninS ne_r_ma nin0) (ninS ne_ra_ma nin0) (ninS ne_wa_ma nin0)).keep (Keep.of_wr W766) (ninS ne_r_ma nin0) (ninS ne_ra_ma nin0) (ninS ne_wa_ma nin0))
        have hnm769 : ¬ v725 ∈ q := fun hx => by have e := hc66_759; rw [if_pos hx] at e; exact absurd e (by decide)
        have ht769 : ((fm 1) + (1 : Int32)).toInt = ((T + 1 : Nat) : Int) := by
          have a := c_iadd (fm 1) 1
          have b := rng32 ((fm 1) + (1 : Int32))
          have o : (1 : Int32).toInt = 1 := by decide
          omega
        obtain ⟨fs, hr, hrun, hended, hW, hsame⟩ := X766.leave (v := some (.int (1 : Int32))) (fun h => by rw [Bd.returns] at h; cases h)
        refine ⟨_, _, k767 _ (retN X766 hx (t := .boolean) Bd.returns (by simp) (hb hby d3_85) hr), hrun, hended, _, _, rfl, ?_, ⟨_, rfl⟩, hW, hsame.mono (by decide) (by decide)⟩
        show Q3 Z r ma nn ops vals i ra wa n q fm b h0 n0 _ T766.heap _
        rw [e766]
        exact ⟨rfl, N766, f768, ⟨q ++ [v725], _, (by have q0 := f770; rw [own_add, if_neg hnm769] at q0; exact q0), V766, own_mdl_add hm0 hm1 hHT hTb hmq ht769⟩⟩
      · have k771 : ∀ tg_, Steps p.tables e below (T757.setTop (mkF m 85 #[.val (.ref r), .val (.ref ma), .val (.int nn), .val (.int ops), .val (.int vals), .val (.int i), .val (.int v723), .val (.int v725), .val (.int (fm 0)), .val (.int (fm 1)), .val (.int v729), .unset, .unset] [(.int (1 : Int32))])) tg_ → Steps p.tables e below (s₁.setTop (entryFrame m #[(.ref r), (.ref ma), (.int nn), (.int ops), (.int vals), (.int i)] 13)) tg_ := by
          intro tg_ kt
          refine k758 tg_ ?_
          refine XS.ifYes X757.here hx rfl (pc0 := 66) (pc' := 84) rfl (hb hby d3_66) rfl ((if0 _ _).trans (feq hc66_759).2) (by decide) (by decide) ?_
          show Steps p.tables e below (T757.setTop (mkF m 84 #[.val (.ref r), .val (.ref ma), .val (.int nn), .val (.int ops), .val (.int vals), .val (.int i), .val (.int v723), .val (.int v725), .val (.int (fm 0)), .val (.int (fm 1)), .val (.int v729), .unset, .unset] [])) _
          refine XS.iconst X757.here hx rfl (hb hby d3_84) ?_
          show Steps p.tables e below (T757.setTop (mkF m 85 #[.val (.ref r), .val (.ref ma), .val (.int nn), .val (.int ops), .val (.int vals), .val (.int i), .val (.int v723), .val (.int v725), .val (.int (fm 0)), .val (.int (fm 1)), .val (.int v729), .unset, .unset] [(.int (1 : Int32))])) _
          exact kt
        have f772 := ((Keep.refl h0 [r, ra, wa, ma]).trans oK755 (allS (Or.inl (List.mem_of_getElem? (i := 0) rfl)) (allS (Or.inl (List.mem_of_getElem? (i := 1) rfl)) (allS (Or.inl (List.mem_of_getElem? (i := 2) rfl)) all0))))
        have hme773 : v725 ∈ q := Classical.byContradiction fun hx => hc66_759 (by rw [if_neg hx])
        obtain ⟨fs, hr, hrun, hended, hW, hsame⟩ := X757.leave (v := some (.int (1 : Int32))) (fun h => by rw [Bd.returns] at h; cases h)
        refine ⟨_, _, k771 _ (retN X757 hx (t := .boolean) Bd.returns (by simp) (hb hby d3_85) hr), hrun, hended, _, _, rfl, ?_, ⟨_, rfl⟩, hW, hsame.mono (by decide) (by decide)⟩
        show Q3 Z r ma nn ops vals i ra wa n q fm b h0 n0 _ T757.heap _
        rw [eq757]
        exact ⟨rfl, N757, f772, ⟨q, _, (by have q0 := R755; rw [own_add, if_pos hme773] at q0; exact q0), f756, ⟨H, T, hm0, hm1, hHT, by omega, hmq⟩⟩⟩
    · have k774 : ∀ tg_, Steps p.tables e below (s₁.setTop (mkF m 86 #[.val (.ref r), .val (.ref ma), .val (.int nn), .val (.int ops), .val (.int vals), .val (.int i), .val (.int v723), .val (.int v725), .val (.int (fm 0)), .val (.int (fm 1)), .val (.int v729), .unset, .unset] [])) tg_ → Steps p.tables e below (s₁.setTop (entryFrame m #[(.ref r), (.ref ma), (.int nn), (.int ops), (.int vals), (.int i)] 13)) tg_ := by
        intro tg_ kt
        refine k753 tg_ ?_
        refine XS.ifYes X0.here hx rfl (pc0 := 47) (pc' := 86) rfl (hb hby d3_47) rfl ((if0 _ _).trans (feq hc47_754).2) (by decide) (by decide) ?_
        show Steps p.tables e below (s₁.setTop (mkF m 86 #[.val (.ref r), .val (.ref ma), .val (.int nn), .val (.int ops), .val (.int vals), .val (.int i), .val (.int v723), .val (.int v725), .val (.int (fm 0)), .val (.int (fm 1)), .val (.int v729), .unset, .unset] [])) _
        exact kt
      obtain ⟨x, q1, hqx⟩ : ∃ x q1, q = x :: q1 := by
        cases q with
        | nil => exact absurd (Int32.toInt_inj.mp (by rw [hln]; rfl)) hc47_754
        | cons x q1 => exact ⟨x, q1, rfl⟩
      have Rt775 : own_Ring Z h0 r ra wa nn n (x :: q1) := (by have q := R; rw [hqx] at q; exact q)
      obtain ⟨cq776, kq776, q776a, q776b, q776c⟩ := isOf hZ e0 (own_Ring.exa R)
      obtain ⟨_, _, ⟨T776, L776, kc776, nc776⟩, -, X776, ⟨Lc776, hQ776, l776, y776, z776⟩, st776⟩ := X0.virtualBack hx (y := (⟨"com/example/tablewise/tablewise/propagation/WaitingRing", "take", "()I"⟩ : MethodName)) (z := (⟨"com/example/tablewise/tablewise/propagation/WaitingRing", "take", "()I"⟩ : MethodName)) hown (mvT hZ (hw _ (List.mem_of_getElem? (i := 31) rfl))) (mvT hZ (hw _ (List.mem_of_getElem? (i := 32) rfl))) (notFace_of_selects (args := #[]) (mvT hZ (hw _ (List.mem_of_getElem? (i := 34) rfl)))) (mvT hZ (hw _ (List.mem_of_getElem? (i := 34) rfl))) (mvT hZ (hw _ (List.mem_of_getElem? (i := 33) rfl))) (by decide) (backOf (W := 0) (rm6 l Z a0 hw [] r ra wa nn n x q1 h0 n0 Z0 g_r g_ra g_wa Rt775) hZ (hw _ (List.mem_of_getElem? (i := 35) rfl)) (hw _ (List.mem_of_getElem? (i := 2) rfl)) (by decide) (by decide)) q776a q776c (g := (mkF m 87 #[.val (.ref r), .val (.ref ma), .val (.int nn), .val (.int ops), .val (.int vals), .val (.int i), .val (.int v723), .val (.int v725), .val (.int (fm 0)), .val (.int (fm 1)), .val (.int v729), .unset, .unset] [(.ref r)])) rfl (by rw [hml]; rfl) (Steps.refl _) (argsL := []) (rest := []) (lenOf pd_4 rfl) rfl (by show 2 * 0 + _ ≤ _; exact Nat.le_of_eq rfl) (hb hby d3_87) (fun _ _ => ⟨rfl, e0, (by decide : 0 + 0 ≤ _), (by decide : 0 + 0 ≤ _)⟩)
      dsimp only [Pt.U, Pt.locs, Pt.cells, Pt.slots] at X776 l776 y776 z776 st776 hQ776
      subst l776 y776 z776
      obtain ⟨rfl, Nq776, oK776, m0_776⟩ := hQ776
      have N776 := Fr.app N0 Nq776
      have R776 := m0_776
      have f777 := (V_ma.keep oK776 (ninS (Ne.symm ne_r_ma) (ninS (Ne.symm ne_ra_ma) (ninS (Ne.symm ne_wa_ma) nin0))))
      have hj778 : ((2 : Int32) + (fm 0)).toInt = (((2 + H + 0) : Nat) : Int) := by
        have ar779 : (2 : Int32).toInt = 2 := by decide
        have ar780 := rng32 (fm 0)
        have ar781 := rng32 ((2 : Int32) + (fm 0))
        first | have ar782 : ((2 : Int32) + (fm 0)).toInt = 2 + (fm 0).toInt := (by have qw := c_iadd (2 : Int32) (fm 0); omega) | (have ar782 := c_iadd (2 : Int32) (fm 0); skip)
        omega
      obtain ⟨T783, h783, X783, e783, W783, V783, st783⟩ := own_stI X776 hx hZ rfl f777 (i := 0) (by decide : (0 : Int32).toInt = ((0 : Nat) : Int)) (by decide) (g := (mkF m 106 #[.val (.ref r), .val (.ref ma), .val (.int nn), .val (.int ops), .val (.int vals), .val (.int i), .val (.int v723), .val (.int v725), .val (.int (fm 0)), .val (.int (fm 1)), .val (.int v729), .val (.int x), .val (.int x)] [(.int ((fm 0) + (1 : Int32))), (.int (0 : Int32)), (.ref ma)])) rfl rfl (hb hby d3_106)
      have N783 := Fr.snoc X783 N776 g_ma
      have hc111_784 : x = x := rfl
      have k785 : ∀ tg_, Steps p.tables e below (T783.setTop (mkF m 119 #[.val (.ref r), .val (.ref ma), .val (.int nn), .val (.int ops), .val (.int vals), .val (.int i), .val (.int v723), .val (.int v725), .val (.int (fm 0)), .val (.int (fm 1)), .val (.int v729), .val (.int x), .val (.int x)] [(.int (1 : Int32))])) tg_ → Steps p.tables e below (s₁.setTop (entryFrame m #[(.ref r), (.ref ma), (.int nn), (.int ops), (.int vals), (.int i)] 13)) tg_ := by
        intro tg_ kt
        refine k774 tg_ ?_
        refine XS.aloadN X0.here hx rfl (hb hby d3_86) rfl rfl ?_
        show Steps p.tables e below (s₁.setTop (mkF m 87 #[.val (.ref r), .val (.ref ma), .val (.int nn), .val (.int ops), .val (.int vals), .val (.int i), .val (.int v723), .val (.int v725), .val (.int (fm 0)), .val (.int (fm 1)), .val (.int v729), .unset, .unset] [(.ref r)])) _
        refine st776.trans ?_
        show Steps p.tables e below (T776.setTop (mkF m 90 #[.val (.ref r), .val (.ref ma), .val (.int nn), .val (.int ops), .val (.int vals), .val (.int i), .val (.int v723), .val (.int v725), .val (.int (fm 0)), .val (.int (fm 1)), .val (.int v729), .unset, .unset] [(.int x)])) _
        refine XS.istore X776.here hx rfl (hb hby d3_90) rfl (l' := #[.val (.ref r), .val (.ref ma), .val (.int nn), .val (.int ops), .val (.int vals), .val (.int i), .val (.int v723), .val (.int v725), .val (.int (fm 0)), .val (.int (fm 1)), .val (.int v729), .val (.int x), .unset]) rfl ?_
        show Steps p.tables e below (T776.setTop (mkF m 92 #[.val (.ref r), .val (.ref ma), .val (.int nn), .val (.int ops), .val (.int vals), .val (.int i), .val (.int v723), .val (.int v725), .val (.int (fm 0)), .val (.int (fm 1)), .val (.int v729), .val (.int x), .unset] [])) _
        refine XS.aloadN X776.here hx rfl (hb hby d3_92) rfl rfl ?_
        show Steps p.tables e below (T776.setTop (mkF m 93 #[.val (.ref r), .val (.ref ma), .val (.int nn), .val (.int ops), .val (.int vals), .val (.int i), .val (.int v723), .val (.int v725), .val (.int (fm 0)), .val (.int (fm 1)), .val (.int v729), .val (.int x), .unset] [(.ref ma)])) _
        refine XS.iconst X776.here hx rfl (hb hby d3_93) ?_
        show Steps p.tables e below (T776.setTop (mkF m 94 #[.val (.ref r), .val (.ref ma), .val (.int nn), .val (.int ops), .val (.int vals), .val (.int i), .val (.int v723), .val (.int v725), .val (.int (fm 0)), .val (.int (fm 1)), .val (.int v729), .val (.int x), .unset] [(.int (2 : Int32)), (.ref ma)])) _
        refine XS.iload X776.here hx rfl (hb hby d3_94) rfl ?_
        show Steps p.tables e below (T776.setTop (mkF m 96 #[.val (.ref r), .val (.ref ma), .val (.int nn), .val (.int ops), .val (.int vals), .val (.int i), .val (.int v723), .val (.int v725), .val (.int (fm 0)), .val (.int (fm 1)), .val (.int v729), .val (.int x), .unset] [(.int (fm 0)), (.int (2 : Int32)), (.ref ma)])) _
        refine XS.iadd X776.here hx rfl (hb hby d3_96) rfl ?_
        show Steps p.tables e below (T776.setTop (mkF m 97 #[.val (.ref r), .val (.ref ma), .val (.int nn), .val (.int ops), .val (.int vals), .val (.int i), .val (.int v723), .val (.int v725), .val (.int (fm 0)), .val (.int (fm 1)), .val (.int v729), .val (.int x), .unset] [(.int ((2 : Int32) + (fm 0))), (.ref ma)])) _
        refine own_ldI X776 hx hZ rfl f777 (i := (2 + H + 0)) hj778 (by omega) (by rw [hmq 0 (by rw [hqx]; simp), hqx]; first | done | rfl) (g := (mkF m 97 #[.val (.ref r), .val (.ref ma), .val (.int nn), .val (.int ops), .val (.int vals), .val (.int i), .val (.int v723), .val (.int v725), .val (.int (fm 0)), .val (.int (fm 1)), .val (.int v729), .val (.int x), .unset] [(.int ((2 : Int32) + (fm 0))), (.ref ma)])) rfl rfl (hb hby d3_97) _ ?_
        show Steps p.tables e below (T776.setTop (mkF m 98 #[.val (.ref r), .val (.ref ma), .val (.int nn), .val (.int ops), .val (.int vals), .val (.int i), .val (.int v723), .val (.int v725), .val (.int (fm 0)), .val (.int (fm 1)), .val (.int v729), .val (.int x), .unset] [(.int x)])) _
        refine XS.istore X776.here hx rfl (hb hby d3_98) rfl (l' := #[.val (.ref r), .val (.ref ma), .val (.int nn), .val (.int ops), .val (.int vals), .val (.int i), .val (.int v723), .val (.int v725), .val (.int (fm 0)), .val (.int (fm 1)), .val (.int v729), .val (.int x), .val (.int x)]) rfl ?_
        show Steps p.tables e below (T776.setTop (mkF m 100 #[.val (.ref r), .val (.ref ma), .val (.int nn), .val (.int ops), .val (.int vals), .val (.int i), .val (.int v723), .val (.int v725), .val (.int (fm 0)), .val (.int (fm 1)), .val (.int v729), .val (.int x), .val (.int x)] [])) _
        refine XS.aloadN X776.here hx rfl (hb hby d3_100) rfl rfl ?_
        show Steps p.tables e below (T776.setTop (mkF m 101 #[.val (.ref r), .val (.ref ma), .val (.int nn), .val (.int ops), .val (.int vals), .val (.int i), .val (.int v723), .val (.int v725), .val (.int (fm 0)), .val (.int (fm 1)), .val (.int v729), .val (.int x), .val (.int x)] [(.ref ma)])) _
        refine XS.iconst X776.here hx rfl (hb hby d3_101) ?_
        show Steps p.tables e below (T776.setTop (mkF m 102 #[.val (.ref r), .val (.ref ma), .val (.int nn), .val (.int ops), .val (.int vals), .val (.int i), .val (.int v723), .val (.int v725), .val (.int (fm 0)), .val (.int (fm 1)), .val (.int v729), .val (.int x), .val (.int x)] [(.int (0 : Int32)), (.ref ma)])) _
        refine XS.iload X776.here hx rfl (hb hby d3_102) rfl ?_
        show Steps p.tables e below (T776.setTop (mkF m 104 #[.val (.ref r), .val (.ref ma), .val (.int nn), .val (.int ops), .val (.int vals), .val (.int i), .val (.int v723), .val (.int v725), .val (.int (fm 0)), .val (.int (fm 1)), .val (.int v729), .val (.int x), .val (.int x)] [(.int (fm 0)), (.int (0 : Int32)), (.ref ma)])) _
        refine XS.iconst X776.here hx rfl (hb hby d3_104) ?_
        show Steps p.tables e below (T776.setTop (mkF m 105 #[.val (.ref r), .val (.ref ma), .val (.int nn), .val (.int ops), .val (.int vals), .val (.int i), .val (.int v723), .val (.int v725), .val (.int (fm 0)), .val (.int (fm 1)), .val (.int v729), .val (.int x), .val (.int x)] [(.int (1 : Int32)), (.int (fm 0)), (.int (0 : Int32)), (.ref ma)])) _
        refine XS.iadd X776.here hx rfl (hb hby d3_105) rfl ?_
        show Steps p.tables e below (T776.setTop (mkF m 106 #[.val (.ref r), .val (.ref ma), .val (.int nn), .val (.int ops), .val (.int vals), .val (.int i), .val (.int v723), .val (.int v725), .val (.int (fm 0)), .val (.int (fm 1)), .val (.int v729), .val (.int x), .val (.int x)] [(.int ((fm 0) + (1 : Int32))), (.int (0 : Int32)), (.ref ma)])) _
        refine st783 _ ?_
        show Steps p.tables e below (T783.setTop (mkF m 107 #[.val (.ref r), .val (.ref ma), .val (.int nn), .val (.int ops), .val (.int vals), .val (.int i), .val (.int v723), .val (.int v725), .val (.int (fm 0)), .val (.int (fm 1)), .val (.int v729), .val (.int x), .val (.int x)] [])) _
        refine XS.iload X783.here hx rfl (hb hby d3_107) rfl ?_
        show Steps p.tables e below (T783.setTop (mkF m 109 #[.val (.ref r), .val (.ref ma), .val (.int nn), .val (.int ops), .val (.int vals), .val (.int i), .val (.int v723), .val (.int v725), .val (.int (fm 0)), .val (.int (fm 1)), .val (.int v729), .val (.int x), .val (.int x)] [(.int x)])) _
        refine XS.iload X783.here hx rfl (hb hby d3_109) rfl ?_
        show Steps p.tables e below (T783.setTop (mkF m 111 #[.val (.ref r), .val (.ref ma), .val (.int nn), .val (.int ops), .val (.int vals), .val (.int i), .val (.int v723), .val (.int v725), .val (.int (fm 0)), .val (.int (fm 1)), .val (.int v729), .val (.int x), .val (.int x)] [(.int x), (.int x)])) _
        refine XS.icmpNo X783.here hx rfl (hb hby d3_111) rfl (teq hc111_784).2 ?_
        show Steps p.tables e below (T783.setTop (mkF m 114 #[.val (.ref r), .val (.ref ma), .val (.int nn), .val (.int ops), .val (.int vals), .val (.int i), .val (.int v723), .val (.int v725), .val (.int (fm 0)), .val (.int (fm 1)), .val (.int v729), .val (.int x), .val (.int x)] [])) _
        refine XS.iconst X783.here hx rfl (hb hby d3_114) ?_
        show Steps p.tables e below (T783.setTop (mkF m 115 #[.val (.ref r), .val (.ref ma), .val (.int nn), .val (.int ops), .val (.int vals), .val (.int i), .val (.int v723), .val (.int v725), .val (.int (fm 0)), .val (.int (fm 1)), .val (.int v729), .val (.int x), .val (.int x)] [(.int (1 : Int32))])) _
        refine XS.goto X783.here hx rfl (pc0 := 115) (pc' := 119) rfl (hb hby d3_115) (by decide) (by decide) ?_
        show Steps p.tables e below (T783.setTop (mkF m 119 #[.val (.ref r), .val (.ref ma), .val (.int nn), .val (.int ops), .val (.int vals), .val (.int i), .val (.int v723), .val (.int v725), .val (.int (fm 0)), .val (.int (fm 1)), .val (.int v729), .val (.int x), .val (.int x)] [(.int (1 : Int32))])) _
        exact kt
      have f786 := (((Keep.refl h0 [r, ra, wa, ma]).trans oK776 (allS (Or.inl (List.mem_of_getElem? (i := 0) rfl)) (allS (Or.inl (List.mem_of_getElem? (i := 1) rfl)) (allS (Or.inl (List.mem_of_getElem? (i := 2) rfl)) all0)))).trans (Keep.of_wr W783) (allS (Or.inl (List.mem_of_getElem? (i := 3) rfl)) all0))
      have f788 := (R776.keep (Keep.of_wr W783) (ninS ne_r_ma nin0) (ninS ne_ra_ma nin0) (ninS ne_wa_ma nin0))
      have ht787 : ((fm 0) + (1 : Int32)).toInt = ((H + 1 : Nat) : Int) := by
        have a := c_iadd (fm 0) 1
        have b := rng32 ((fm 0) + (1 : Int32))
        have o : (1 : Int32).toInt = 1 := by decide
        omega
      have hM787 : own_mdl (own_upd fm 0 ((fm 0) + (1 : Int32))) q1 (b + 1) := by
        subst hqx; exact own_mdl_take hm0 hm1 hHT hTb hmq ht787
      obtain ⟨fs, hr, hrun, hended, hW, hsame⟩ := X783.leave (v := some (.int (1 : Int32))) (fun h => by rw [Bd.returns] at h; cases h)
      refine ⟨_, _, k785 _ (retN X783 hx (t := .boolean) Bd.returns (by simp) (hb hby d3_119) hr), hrun, hended, _, _, rfl, ?_, ⟨_, rfl⟩, hW, hsame.mono (by decide) (by decide)⟩
      show Q3 Z r ma nn ops vals i ra wa n q fm b h0 n0 _ T783.heap _
      rw [e783]
      exact ⟨rfl, N783, f786, ⟨q1, _, f788, V783, hM787⟩⟩

theorem own_size (a : Int32) : ∃ n : Nat, ((1 : Int32) + (a &&& (3 : Int32))).toInt = (n : Int) ∧ 0 < n ∧ n ≤ 4 := by
  have e := c_mask a 3 2 (by decide) (by decide)
  have e1 := c_iadd 1 (a &&& 3)
  have r := rng32 (1 + (a &&& 3))
  have o : (1 : Int32).toInt = 1 := by decide
  exact ⟨((1 : Int32) + (a &&& 3)).toInt.toNat, by omega, by omega, by omega⟩
theorem own_mdl0 : own_mdl (fun _ => 0) [] 0 := ⟨0, 0, by decide, by decide, rfl, Nat.le_refl _, fun j hj => absurd hj (by simp)⟩

theorem pd_2 : parseMethodDescriptor "(Lcom/example/tablewise/tablewise/propagation/WaitingRing;[IIIII)Z" = some ⟨[(.object "com/example/tablewise/tablewise/propagation/WaitingRing"), (.array .int), .int, .int, .int, .int], some .boolean⟩ := by decide +kernel
theorem pn_0 : plainName "com/example/tablewise/tablewise/propagation/WaitingRingTakePinLaw" = true := by first | (simp [plainName, overriddenIn]; done) | decide +kernel
theorem ef_0 (m : MethodId) (x0 : Int32) (x1 : Int32) (x2 : Int32) : entryFrame m #[(.int x0), (.int x1), (.int x2)] maxLocals = mkF m 0 #[.val (.int x0), .val (.int x1), .val (.int x2), .unset, .unset, .unset, .unset] [] := by first | (simp [entryFrame, mkF, argsToLocals, Value.category, maxLocals]; done) | rfl
def Q0 (Z : State) (p0 : Int32) (p1 : Int32) (p2 : Int32) (h0 : Heap) (n0 : Nat) (rv_ : Option Value) (h : Heap) (LL_ : List Loc) : Prop := rv_ = some (.int 1) ∧ Fr n0 LL_
set_option maxRecDepth 65536 in
set_option maxHeartbeats 40000000 in
theorem rm0 (l : Launch) (Z : State) (a0 : Array Value) (hw : ∀ d ∈ tables_1, d.before a0 Z = true) (ws : List Jvm.Cond) (p0 : Int32) (p1 : Int32) (p2 : Int32) (h0 : Heap) (n0 : Nat) (Z0 : n0 ≤ h0.size) :
    MetFree l x (head1 (Jvm.Cond.code x code maxLocals ret :: ws) room_1) (fun aa UU => aa = #[(.int p0), (.int p1), (.int p2)] ∧ Z.Warmed39 UU.vm ∧ UU.heap = h0) (fun _ _ _ _ _ => True) (fun _ UU oo UV => ∃ vv LL, oo = .returned vv ∧ Q0 Z p0 p1 p2 h0 n0 vv UV.heap LL ∧ FrameEnd UU oo UV LL room_1.cells room_1.slots) := by
  refine MetFree.of_bodySF (plainFor_of_name pn_0) hisR ?_
  intro p e s m args below meth c s₁ Bd hml0 hP hK
  obtain ⟨rfl, hZ, hh⟩ := hP
  have hx := Bd.exec
  have hby := Bd.bytes
  have hml : c.maxLocals = 7 := hml0
  have hown : s.vm.findClass "com/example/tablewise/tablewise/propagation/WaitingRingTakePinLaw" = some m.cls := findClass_of_methodNamed Bd.named
  have hnm := (name_of_methodNamed Bd.named Bd.method).1
  have X0 : Stand p l e room_1 s m #[(.int p0), (.int p1), (.int p2)] below meth c s₁ [] 0 0 := Stand.of_body Bd
  have e0 : s₁.heap = h0 := by rw [← hh, Bd.state]; rfl
  have N0 := Fr.nil n0
  have k0 : ∀ tg_, Steps p.tables e below (s₁.setTop (mkF m 0 #[.val (.int p0), .val (.int p1), .val (.int p2), .unset, .unset, .unset, .unset] [])) tg_ → Steps p.tables e below (s₁.setTop (entryFrame m #[(.int p0), (.int p1), (.int p2)] maxLocals)) tg_ := fun tg_ k => castTop (ef_0 m p0 p1 p2) k
  have k789 : ∀ tg_, Steps p.tables e below (s₁.setTop (mkF m 5 #[.val (.int p0), .val (.int p1), .val (.int p2), .unset, .unset, .unset, .unset] [(.int ((1 : Int32) + (p0 &&& (3 : Int32))))])) tg_ → Steps p.tables e below (s₁.setTop (entryFrame m #[(.int p0), (.int p1), (.int p2)] maxLocals)) tg_ := by
    intro tg_ kt
    refine k0 tg_ ?_
    refine XS.iconst X0.here hx rfl (hb hby at_0) ?_
    show Steps p.tables e below (s₁.setTop (mkF m 1 #[.val (.int p0), .val (.int p1), .val (.int p2), .unset, .unset, .unset, .unset] [(.int (1 : Int32))])) _
    refine XS.iloadN X0.here hx rfl (hb hby at_1) rfl ?_
    show Steps p.tables e below (s₁.setTop (mkF m 2 #[.val (.int p0), .val (.int p1), .val (.int p2), .unset, .unset, .unset, .unset] [(.int p0), (.int (1 : Int32))])) _
    refine XS.iconst X0.here hx rfl (hb hby at_2) ?_
    show Steps p.tables e below (s₁.setTop (mkF m 3 #[.val (.int p0), .val (.int p1), .val (.int p2), .unset, .unset, .unset, .unset] [(.int (3 : Int32)), (.int p0), (.int (1 : Int32))])) _
    refine XS.iand X0.here hx rfl (hb hby at_3) rfl ?_
    show Steps p.tables e below (s₁.setTop (mkF m 4 #[.val (.int p0), .val (.int p1), .val (.int p2), .unset, .unset, .unset, .unset] [(.int (p0 &&& (3 : Int32))), (.int (1 : Int32))])) _
    refine XS.iadd X0.here hx rfl (hb hby at_4) rfl ?_
    show Steps p.tables e below (s₁.setTop (mkF m 5 #[.val (.int p0), .val (.int p1), .val (.int p2), .unset, .unset, .unset, .unset] [(.int ((1 : Int32) + (p0 &&& (3 : Int32))))])) _
    exact kt
  obtain ⟨v790, hv790⟩ : ∃ z : Int32, z = ((1 : Int32) + (p0 &&& (3 : Int32))) := ⟨_, rfl⟩
  rw [← hv790] at k789
  have k791 : ∀ tg_, Steps p.tables e below (s₁.setTop (mkF m 6 #[.val (.int p0), .val (.int p1), .val (.int p2), .val (.int v790), .unset, .unset, .unset] [])) tg_ → Steps p.tables e below (s₁.setTop (entryFrame m #[(.int p0), (.int p1), (.int p2)] maxLocals)) tg_ := by
    intro tg_ kt
    refine k789 tg_ ?_
    refine XS.istoreN X0.here hx rfl (hb hby at_5) rfl (l' := #[.val (.int p0), .val (.int p1), .val (.int p2), .val (.int v790), .unset, .unset, .unset]) rfl ?_
    show Steps p.tables e below (s₁.setTop (mkF m 6 #[.val (.int p0), .val (.int p1), .val (.int p2), .val (.int v790), .unset, .unset, .unset] [])) _
    exact kt
  obtain ⟨n, hnn, hn1, hn4⟩ : ∃ n : Nat, v790.toInt = (n : Int) ∧ 0 < n ∧ n ≤ 4 := by rw [hv790]; exact own_size _
  obtain ⟨T792, h792, X792, e792, E792, A792, D792, -, st792⟩ := newO X0 hx hZ hown (hw _ (List.mem_of_getElem? (i := 0) rfl)) (hw _ (List.mem_of_getElem? (i := 1) rfl)) (hw _ (List.mem_of_getElem? (i := 2) rfl)) e0 (g := (mkF m 6 #[.val (.int p0), .val (.int p1), .val (.int p2), .val (.int v790), .unset, .unset, .unset] [])) rfl (hb hby at_6) (by decide) (by decide)
  obtain ⟨b792, g792⟩ : ∃ z, z = h0.size := ⟨_, rfl⟩
  rw [← g792] at A792 D792 st792
  have ge_b792 : n0 ≤ b792 := Nat.le_trans Z0 (Nat.le_of_eq g792.symm)
  have F793 : Fld Z h792 b792 "com/example/tablewise/tablewise/propagation/WaitingRing" "ring" "[I" .null := D792 (Or.inr (hw _ (List.mem_of_getElem? (i := 11) rfl))) (ty := (.array .int)) (by decide)
  have F794 : Fld Z h792 b792 "com/example/tablewise/tablewise/propagation/WaitingRing" "waiting" "[Z" .null := D792 (Or.inr (hw _ (List.mem_of_getElem? (i := 14) rfl))) (ty := (.array .boolean)) (by decide)
  have F795 : Fld Z h792 b792 "com/example/tablewise/tablewise/propagation/WaitingRing" "head" "I" (.int (0 : Int32)) := D792 (Or.inl (hw _ (List.mem_of_getElem? (i := 25) rfl))) (ty := .int) (by decide)
  have F796 : Fld Z h792 b792 "com/example/tablewise/tablewise/propagation/WaitingRing" "count" "I" (.int (0 : Int32)) := D792 (Or.inl (hw _ (List.mem_of_getElem? (i := 27) rfl))) (ty := .int) (by decide)
  have f797 := (Nat.le_trans Z0 ((Keep.refl _ []).ext E792).1)
  obtain ⟨_, _, ⟨T798, L798, kc798, nc798⟩, -, X798, ⟨Lc798, hQ798, l798, y798, z798⟩, st798⟩ := X792.specialBack hx (y := (⟨"com/example/tablewise/tablewise/propagation/WaitingRing", "<init>", "(I)V"⟩ : MethodName)) rfl hown (mvT hZ (hw _ (List.mem_of_getElem? (i := 3) rfl))) (mvT hZ (hw _ (List.mem_of_getElem? (i := 4) rfl))) (mvT hZ (hw _ (List.mem_of_getElem? (i := 5) rfl))) (by decide) (backOf (W := 1) (rm1 l Z a0 hw [] b792 v790 n h792 n0 f797 A792 F793 F794 F795 F796 ge_b792 hnn hn1 hn4) hZ (hw _ (List.mem_of_getElem? (i := 5) rfl)) (hw _ (List.mem_of_getElem? (i := 2) rfl)) (by decide) (by decide)) (g := (mkF m 11 #[.val (.int p0), .val (.int p1), .val (.int p2), .val (.int v790), .unset, .unset, .unset] [(.int v790), (.ref b792), (.ref b792)])) rfl (by rw [hml]; rfl) (Steps.refl _) (a := b792) (argsL := [(.int v790)]) (rest := [(.ref b792)]) (lenOf pd_0 rfl) rfl (by show 2 * 0 + _ ≤ _; exact Nat.le_of_eq rfl) (hb hby at_11) (fun _ _ => ⟨rfl, e792, (by decide : 1 + 2 ≤ _), (by decide : 4 + 8 ≤ _)⟩)
  dsimp only [Pt.U, Pt.locs, Pt.cells, Pt.slots] at X798 l798 y798 z798 st798 hQ798
  subst l798 y798 z798
  obtain ⟨rfl, Nq798, oK798, m0_798⟩ := hQ798
  have N798 := Fr.app N0 Nq798
  obtain ⟨ra798, wa798, R798, gra798, gwa798⟩ := m0_798
  obtain ⟨T799, h799, kA799, X799, e799, E799, A799, st799⟩ := newP X798 hx hZ (hw _ (List.mem_of_getElem? (i := 9) rfl)) rfl (g := (mkF m 18 #[.val (.int p0), .val (.int p1), .val (.int p2), .val (.int v790), .val (.ref b792), .unset, .unset] [(.int (16 : Int32))])) rfl (hb hby at_18) rfl (by decide) (cap := 16) (by decide) (by decide) (by decide) (by decide)
  obtain ⟨b799, g799⟩ : ∃ z, z = T798.heap.size := ⟨_, rfl⟩
  rw [← g799] at A799 st799
  have ne_b792_b799 : b792 ≠ b799 := Nat.ne_of_lt (Nat.lt_of_lt_of_le (R798).lt (Nat.le_of_eq g799.symm))
  have f800 := (Nat.le_trans f797 oK798.1)
  have ge_b799 : n0 ≤ b799 := Nat.le_trans f800 (Nat.le_of_eq g799.symm)
  have ne_ra798_b799 : ra798 ≠ b799 := Nat.ne_of_lt (Nat.lt_of_lt_of_le (own_Ring.lt2 R798) (Nat.le_of_eq g799.symm))
  have ne_wa798_b799 : wa798 ≠ b799 := Nat.ne_of_lt (Nat.lt_of_lt_of_le (own_Ring.lt3 R798) (Nat.le_of_eq g799.symm))
  have V799 : own_AI Z h799 b799 .int 16 (fun _ => 0) := own_newI (by decide : (16 : Int32).toInt = ((16 : Nat) : Int)) A799 rfl
  have f801 := (Nat.le_trans f800 ((Keep.refl _ []).ext E799).1)
  have f802 := (R798.keep ((Keep.refl _ []).ext E799) nin0 nin0 nin0)
  obtain ⟨_, _, ⟨T803, L803, kc803, nc803⟩, -, X803, ⟨Lc803, hQ803, l803, y803, z803⟩, st803⟩ := Jvm.LawKit.callS X799 hx (y := (⟨"com/example/tablewise/tablewise/propagation/WaitingRingTakePinLaw", "step", "(Lcom/example/tablewise/tablewise/propagation/WaitingRing;[IIIII)Z"⟩ : MethodName)) hown (mvT hZ (hw _ (List.mem_of_getElem? (i := 15) rfl))) (mvT hZ (hw _ (List.mem_of_getElem? (i := 16) rfl))) (mvT hZ (hw _ (List.mem_of_getElem? (i := 17) rfl))) (mvT hZ (hw _ (List.mem_of_getElem? (i := 18) rfl))) (by decide) (backOf (W := 0) (rm3 l Z a0 hw [] b792 b799 v790 p1 p2 (0 : Int32) ra798 wa798 n ([] : List Int32) (fun _ => 0) 0 h799 n0 f801 V799 ge_b792 gra798 gwa798 ge_b799 ne_b792_b799 ne_ra798_b799 ne_wa798_b799 f802 own_mdl0 (by decide)) hZ (hw _ (List.mem_of_getElem? (i := 18) rfl)) (hw _ (List.mem_of_getElem? (i := 17) rfl)) (by decide) (by decide)) (g := (mkF m 30 #[.val (.int p0), .val (.int p1), .val (.int p2), .val (.int v790), .val (.ref b792), .val (.ref b799), .unset] [(.int (0 : Int32)), (.int p2), (.int p1), (.int v790), (.ref b799), (.ref b792)])) rfl (by rw [hml]; rfl) (argsL := [(.ref b792), (.ref b799), (.int v790), (.int p1), (.int p2), (.int (0 : Int32))]) (rest := []) (lenOf pd_2 rfl) rfl (by show 2 * 0 + _ ≤ _; exact Nat.le_of_eq rfl) (hb hby at_30) (fun _ _ => ⟨rfl, e799, (by decide : 4 + 0 ≤ _), (by decide : 28 + 0 ≤ _)⟩)
  dsimp only [Pt.U, Pt.locs, Pt.cells, Pt.slots] at X803 l803 y803 z803 st803 hQ803
  subst l803 y803 z803
  obtain ⟨rfl, Nq803, oK803, m0_803⟩ := hQ803
  have N803 := Fr.app N798 Nq803
  obtain ⟨q803, fm803, R803, Vm803, M803⟩ := m0_803
  have f804 := (Nat.le_trans f801 oK803.1)
  obtain ⟨_, _, ⟨T805, L805, kc805, nc805⟩, -, X805, ⟨Lc805, hQ805, l805, y805, z805⟩, st805⟩ := Jvm.LawKit.callS X803 hx (y := (⟨"com/example/tablewise/tablewise/propagation/WaitingRingTakePinLaw", "step", "(Lcom/example/tablewise/tablewise/propagation/WaitingRing;[IIIII)Z"⟩ : MethodName)) hown (mvT hZ (hw _ (List.mem_of_getElem? (i := 15) rfl))) (mvT hZ (hw _ (List.mem_of_getElem? (i := 16) rfl))) (mvT hZ (hw _ (List.mem_of_getElem? (i := 17) rfl))) (mvT hZ (hw _ (List.mem_of_getElem? (i := 18) rfl))) (by decide) (backOf (W := 0) (rm3 l Z a0 hw [] b792 b799 v790 p1 p2 (1 : Int32) ra798 wa798 n q803 fm803 1 T803.heap n0 f804 Vm803 ge_b792 gra798 gwa798 ge_b799 ne_b792_b799 ne_ra798_b799 ne_wa798_b799 R803 M803 (by decide)) hZ (hw _ (List.mem_of_getElem? (i := 18) rfl)) (hw _ (List.mem_of_getElem? (i := 17) rfl)) (by decide) (by decide)) (g := (mkF m 48 #[.val (.int p0), .val (.int p1), .val (.int p2), .val (.int v790), .val (.ref b792), .val (.ref b799), .val (.int (1 : Int32))] [(.int (1 : Int32)), (.int p2), (.int p1), (.int v790), (.ref b799), (.ref b792)])) rfl (by rw [hml]; rfl) (argsL := [(.ref b792), (.ref b799), (.int v790), (.int p1), (.int p2), (.int (1 : Int32))]) (rest := []) (lenOf pd_2 rfl) rfl (by show 2 * 0 + _ ≤ _; exact Nat.le_of_eq rfl) (hb hby at_48) (fun _ _ => ⟨rfl, rfl, (by decide : 4 + 0 ≤ _), (by decide : 28 + 0 ≤ _)⟩)
  dsimp only [Pt.U, Pt.locs, Pt.cells, Pt.slots] at X805 l805 y805 z805 st805 hQ805
  subst l805 y805 z805
  obtain ⟨rfl, Nq805, oK805, m0_805⟩ := hQ805
  have N805 := Fr.app N803 Nq805
  obtain ⟨q805, fm805, R805, Vm805, M805⟩ := m0_805
  have f806 := (Nat.le_trans f804 oK805.1)
  obtain ⟨_, _, ⟨T807, L807, kc807, nc807⟩, -, X807, ⟨Lc807, hQ807, l807, y807, z807⟩, st807⟩ := Jvm.LawKit.callS X805 hx (y := (⟨"com/example/tablewise/tablewise/propagation/WaitingRingTakePinLaw", "step", "(Lcom/example/tablewise/tablewise/propagation/WaitingRing;[IIIII)Z"⟩ : MethodName)) hown (mvT hZ (hw _ (List.mem_of_getElem? (i := 15) rfl))) (mvT hZ (hw _ (List.mem_of_getElem? (i := 16) rfl))) (mvT hZ (hw _ (List.mem_of_getElem? (i := 17) rfl))) (mvT hZ (hw _ (List.mem_of_getElem? (i := 18) rfl))) (by decide) (backOf (W := 0) (rm3 l Z a0 hw [] b792 b799 v790 p1 p2 (2 : Int32) ra798 wa798 n q805 fm805 2 T805.heap n0 f806 Vm805 ge_b792 gra798 gwa798 ge_b799 ne_b792_b799 ne_ra798_b799 ne_wa798_b799 R805 M805 (by decide)) hZ (hw _ (List.mem_of_getElem? (i := 18) rfl)) (hw _ (List.mem_of_getElem? (i := 17) rfl)) (by decide) (by decide)) (g := (mkF m 74 #[.val (.int p0), .val (.int p1), .val (.int p2), .val (.int v790), .val (.ref b792), .val (.ref b799), .val (.int (1 : Int32))] [(.int (2 : Int32)), (.int p2), (.int p1), (.int v790), (.ref b799), (.ref b792)])) rfl (by rw [hml]; rfl) (argsL := [(.ref b792), (.ref b799), (.int v790), (.int p1), (.int p2), (.int (2 : Int32))]) (rest := []) (lenOf pd_2 rfl) rfl (by show 2 * 0 + _ ≤ _; exact Nat.le_of_eq rfl) (hb hby at_74) (fun _ _ => ⟨rfl, rfl, (by decide : 4 + 0 ≤ _), (by decide : 28 + 0 ≤ _)⟩)
  dsimp only [Pt.U, Pt.locs, Pt.cells, Pt.slots] at X807 l807 y807 z807 st807 hQ807
  subst l807 y807 z807
  obtain ⟨rfl, Nq807, oK807, m0_807⟩ := hQ807
  have N807 := Fr.app N805 Nq807
  obtain ⟨q807, fm807, R807, Vm807, M807⟩ := m0_807
  have f808 := (Nat.le_trans f806 oK807.1)
  obtain ⟨_, _, ⟨T809, L809, kc809, nc809⟩, -, X809, ⟨Lc809, hQ809, l809, y809, z809⟩, st809⟩ := Jvm.LawKit.callS X807 hx (y := (⟨"com/example/tablewise/tablewise/propagation/WaitingRingTakePinLaw", "step", "(Lcom/example/tablewise/tablewise/propagation/WaitingRing;[IIIII)Z"⟩ : MethodName)) hown (mvT hZ (hw _ (List.mem_of_getElem? (i := 15) rfl))) (mvT hZ (hw _ (List.mem_of_getElem? (i := 16) rfl))) (mvT hZ (hw _ (List.mem_of_getElem? (i := 17) rfl))) (mvT hZ (hw _ (List.mem_of_getElem? (i := 18) rfl))) (by decide) (backOf (W := 0) (rm3 l Z a0 hw [] b792 b799 v790 p1 p2 (3 : Int32) ra798 wa798 n q807 fm807 3 T807.heap n0 f808 Vm807 ge_b792 gra798 gwa798 ge_b799 ne_b792_b799 ne_ra798_b799 ne_wa798_b799 R807 M807 (by decide)) hZ (hw _ (List.mem_of_getElem? (i := 18) rfl)) (hw _ (List.mem_of_getElem? (i := 17) rfl)) (by decide) (by decide)) (g := (mkF m 100 #[.val (.int p0), .val (.int p1), .val (.int p2), .val (.int v790), .val (.ref b792), .val (.ref b799), .val (.int (1 : Int32))] [(.int (3 : Int32)), (.int p2), (.int p1), (.int v790), (.ref b799), (.ref b792)])) rfl (by rw [hml]; rfl) (argsL := [(.ref b792), (.ref b799), (.int v790), (.int p1), (.int p2), (.int (3 : Int32))]) (rest := []) (lenOf pd_2 rfl) rfl (by show 2 * 0 + _ ≤ _; exact Nat.le_of_eq rfl) (hb hby at_100) (fun _ _ => ⟨rfl, rfl, (by decide : 4 + 0 ≤ _), (by decide : 28 + 0 ≤ _)⟩)
  dsimp only [Pt.U, Pt.locs, Pt.cells, Pt.slots] at X809 l809 y809 z809 st809 hQ809
  subst l809 y809 z809
  obtain ⟨rfl, Nq809, oK809, m0_809⟩ := hQ809
  have N809 := Fr.app N807 Nq809
  obtain ⟨q809, fm809, R809, Vm809, M809⟩ := m0_809
  have f810 := (Nat.le_trans f808 oK809.1)
  obtain ⟨_, _, ⟨T811, L811, kc811, nc811⟩, -, X811, ⟨Lc811, hQ811, l811, y811, z811⟩, st811⟩ := Jvm.LawKit.callS X809 hx (y := (⟨"com/example/tablewise/tablewise/propagation/WaitingRingTakePinLaw", "step", "(Lcom/example/tablewise/tablewise/propagation/WaitingRing;[IIIII)Z"⟩ : MethodName)) hown (mvT hZ (hw _ (List.mem_of_getElem? (i := 15) rfl))) (mvT hZ (hw _ (List.mem_of_getElem? (i := 16) rfl))) (mvT hZ (hw _ (List.mem_of_getElem? (i := 17) rfl))) (mvT hZ (hw _ (List.mem_of_getElem? (i := 18) rfl))) (by decide) (backOf (W := 0) (rm3 l Z a0 hw [] b792 b799 v790 p1 p2 (4 : Int32) ra798 wa798 n q809 fm809 4 T809.heap n0 f810 Vm809 ge_b792 gra798 gwa798 ge_b799 ne_b792_b799 ne_ra798_b799 ne_wa798_b799 R809 M809 (by decide)) hZ (hw _ (List.mem_of_getElem? (i := 18) rfl)) (hw _ (List.mem_of_getElem? (i := 17) rfl)) (by decide) (by decide)) (g := (mkF m 126 #[.val (.int p0), .val (.int p1), .val (.int p2), .val (.int v790), .val (.ref b792), .val (.ref b799), .val (.int (1 : Int32))] [(.int (4 : Int32)), (.int p2), (.int p1), (.int v790), (.ref b799), (.ref b792)])) rfl (by rw [hml]; rfl) (argsL := [(.ref b792), (.ref b799), (.int v790), (.int p1), (.int p2), (.int (4 : Int32))]) (rest := []) (lenOf pd_2 rfl) rfl (by show 2 * 0 + _ ≤ _; exact Nat.le_of_eq rfl) (hb hby at_126) (fun _ _ => ⟨rfl, rfl, (by decide : 4 + 0 ≤ _), (by decide : 28 + 0 ≤ _)⟩)
  dsimp only [Pt.U, Pt.locs, Pt.cells, Pt.slots] at X811 l811 y811 z811 st811 hQ811
  subst l811 y811 z811
  obtain ⟨rfl, Nq811, oK811, m0_811⟩ := hQ811
  have N811 := Fr.app N809 Nq811
  obtain ⟨q811, fm811, R811, Vm811, M811⟩ := m0_811
  have f812 := (Nat.le_trans f810 oK811.1)
  obtain ⟨_, _, ⟨T813, L813, kc813, nc813⟩, -, X813, ⟨Lc813, hQ813, l813, y813, z813⟩, st813⟩ := Jvm.LawKit.callS X811 hx (y := (⟨"com/example/tablewise/tablewise/propagation/WaitingRingTakePinLaw", "step", "(Lcom/example/tablewise/tablewise/propagation/WaitingRing;[IIIII)Z"⟩ : MethodName)) hown (mvT hZ (hw _ (List.mem_of_getElem? (i := 15) rfl))) (mvT hZ (hw _ (List.mem_of_getElem? (i := 16) rfl))) (mvT hZ (hw _ (List.mem_of_getElem? (i := 17) rfl))) (mvT hZ (hw _ (List.mem_of_getElem? (i := 18) rfl))) (by decide) (backOf (W := 0) (rm3 l Z a0 hw [] b792 b799 v790 p1 p2 (5 : Int32) ra798 wa798 n q811 fm811 5 T811.heap n0 f812 Vm811 ge_b792 gra798 gwa798 ge_b799 ne_b792_b799 ne_ra798_b799 ne_wa798_b799 R811 M811 (by decide)) hZ (hw _ (List.mem_of_getElem? (i := 18) rfl)) (hw _ (List.mem_of_getElem? (i := 17) rfl)) (by decide) (by decide)) (g := (mkF m 152 #[.val (.int p0), .val (.int p1), .val (.int p2), .val (.int v790), .val (.ref b792), .val (.ref b799), .val (.int (1 : Int32))] [(.int (5 : Int32)), (.int p2), (.int p1), (.int v790), (.ref b799), (.ref b792)])) rfl (by rw [hml]; rfl) (argsL := [(.ref b792), (.ref b799), (.int v790), (.int p1), (.int p2), (.int (5 : Int32))]) (rest := []) (lenOf pd_2 rfl) rfl (by show 2 * 0 + _ ≤ _; exact Nat.le_of_eq rfl) (hb hby at_152) (fun _ _ => ⟨rfl, rfl, (by decide : 4 + 0 ≤ _), (by decide : 28 + 0 ≤ _)⟩)
  dsimp only [Pt.U, Pt.locs, Pt.cells, Pt.slots] at X813 l813 y813 z813 st813 hQ813
  subst l813 y813 z813
  obtain ⟨rfl, Nq813, oK813, m0_813⟩ := hQ813
  have N813 := Fr.app N811 Nq813
  obtain ⟨q813, fm813, R813, Vm813, M813⟩ := m0_813
  have f814 := (Nat.le_trans f812 oK813.1)
  obtain ⟨_, _, ⟨T815, L815, kc815, nc815⟩, -, X815, ⟨Lc815, hQ815, l815, y815, z815⟩, st815⟩ := Jvm.LawKit.callS X813 hx (y := (⟨"com/example/tablewise/tablewise/propagation/WaitingRingTakePinLaw", "step", "(Lcom/example/tablewise/tablewise/propagation/WaitingRing;[IIIII)Z"⟩ : MethodName)) hown (mvT hZ (hw _ (List.mem_of_getElem? (i := 15) rfl))) (mvT hZ (hw _ (List.mem_of_getElem? (i := 16) rfl))) (mvT hZ (hw _ (List.mem_of_getElem? (i := 17) rfl))) (mvT hZ (hw _ (List.mem_of_getElem? (i := 18) rfl))) (by decide) (backOf (W := 0) (rm3 l Z a0 hw [] b792 b799 v790 p1 p2 (6 : Int32) ra798 wa798 n q813 fm813 6 T813.heap n0 f814 Vm813 ge_b792 gra798 gwa798 ge_b799 ne_b792_b799 ne_ra798_b799 ne_wa798_b799 R813 M813 (by decide)) hZ (hw _ (List.mem_of_getElem? (i := 18) rfl)) (hw _ (List.mem_of_getElem? (i := 17) rfl)) (by decide) (by decide)) (g := (mkF m 179 #[.val (.int p0), .val (.int p1), .val (.int p2), .val (.int v790), .val (.ref b792), .val (.ref b799), .val (.int (1 : Int32))] [(.int (6 : Int32)), (.int p2), (.int p1), (.int v790), (.ref b799), (.ref b792)])) rfl (by rw [hml]; rfl) (argsL := [(.ref b792), (.ref b799), (.int v790), (.int p1), (.int p2), (.int (6 : Int32))]) (rest := []) (lenOf pd_2 rfl) rfl (by show 2 * 0 + _ ≤ _; exact Nat.le_of_eq rfl) (hb hby at_179) (fun _ _ => ⟨rfl, rfl, (by decide : 4 + 0 ≤ _), (by decide : 28 + 0 ≤ _)⟩)
  dsimp only [Pt.U, Pt.locs, Pt.cells, Pt.slots] at X815 l815 y815 z815 st815 hQ815
  subst l815 y815 z815
  obtain ⟨rfl, Nq815, oK815, m0_815⟩ := hQ815
  have N815 := Fr.app N813 Nq815
  obtain ⟨q815, fm815, R815, Vm815, M815⟩ := m0_815
  have f816 := (Nat.le_trans f814 oK815.1)
  obtain ⟨_, _, ⟨T817, L817, kc817, nc817⟩, -, X817, ⟨Lc817, hQ817, l817, y817, z817⟩, st817⟩ := Jvm.LawKit.callS X815 hx (y := (⟨"com/example/tablewise/tablewise/propagation/WaitingRingTakePinLaw", "step", "(Lcom/example/tablewise/tablewise/propagation/WaitingRing;[IIIII)Z"⟩ : MethodName)) hown (mvT hZ (hw _ (List.mem_of_getElem? (i := 15) rfl))) (mvT hZ (hw _ (List.mem_of_getElem? (i := 16) rfl))) (mvT hZ (hw _ (List.mem_of_getElem? (i := 17) rfl))) (mvT hZ (hw _ (List.mem_of_getElem? (i := 18) rfl))) (by decide) (backOf (W := 0) (rm3 l Z a0 hw [] b792 b799 v790 p1 p2 (7 : Int32) ra798 wa798 n q815 fm815 7 T815.heap n0 f816 Vm815 ge_b792 gra798 gwa798 ge_b799 ne_b792_b799 ne_ra798_b799 ne_wa798_b799 R815 M815 (by decide)) hZ (hw _ (List.mem_of_getElem? (i := 18) rfl)) (hw _ (List.mem_of_getElem? (i := 17) rfl)) (by decide) (by decide)) (g := (mkF m 206 #[.val (.int p0), .val (.int p1), .val (.int p2), .val (.int v790), .val (.ref b792), .val (.ref b799), .val (.int (1 : Int32))] [(.int (7 : Int32)), (.int p2), (.int p1), (.int v790), (.ref b799), (.ref b792)])) rfl (by rw [hml]; rfl) (argsL := [(.ref b792), (.ref b799), (.int v790), (.int p1), (.int p2), (.int (7 : Int32))]) (rest := []) (lenOf pd_2 rfl) rfl (by show 2 * 0 + _ ≤ _; exact Nat.le_of_eq rfl) (hb hby at_206) (fun _ _ => ⟨rfl, rfl, (by decide : 4 + 0 ≤ _), (by decide : 28 + 0 ≤ _)⟩)
  dsimp only [Pt.U, Pt.locs, Pt.cells, Pt.slots] at X817 l817 y817 z817 st817 hQ817
  subst l817 y817 z817
  obtain ⟨rfl, Nq817, oK817, m0_817⟩ := hQ817
  have N817 := Fr.app N815 Nq817
  obtain ⟨q817, fm817, R817, Vm817, M817⟩ := m0_817
  have k818 : ∀ tg_, Steps p.tables e below (T817.setTop (mkF m 221 #[.val (.int p0), .val (.int p1), .val (.int p2), .val (.int v790), .val (.ref b792), .val (.ref b799), .val (.int (1 : Int32))] [(.int (1 : Int32))])) tg_ → Steps p.tables e below (s₁.setTop (entryFrame m #[(.int p0), (.int p1), (.int p2)] maxLocals)) tg_ := by
    intro tg_ kt
    refine k791 tg_ ?_
    refine st792 _ ?_
    show Steps p.tables e below (T792.setTop (mkF m 9 #[.val (.int p0), .val (.int p1), .val (.int p2), .val (.int v790), .unset, .unset, .unset] [(.ref b792)])) _
    refine XS.dup X792.here hx rfl (hb hby at_9) rfl rfl ?_
    show Steps p.tables e below (T792.setTop (mkF m 10 #[.val (.int p0), .val (.int p1), .val (.int p2), .val (.int v790), .unset, .unset, .unset] [(.ref b792), (.ref b792)])) _
    refine XS.iloadN X792.here hx rfl (hb hby at_10) rfl ?_
    show Steps p.tables e below (T792.setTop (mkF m 11 #[.val (.int p0), .val (.int p1), .val (.int p2), .val (.int v790), .unset, .unset, .unset] [(.int v790), (.ref b792), (.ref b792)])) _
    refine st798.trans ?_
    show Steps p.tables e below (T798.setTop (mkF m 14 #[.val (.int p0), .val (.int p1), .val (.int p2), .val (.int v790), .unset, .unset, .unset] [(.ref b792)])) _
    refine XS.astore X798.here hx rfl (hb hby at_14) rfl rfl (l' := #[.val (.int p0), .val (.int p1), .val (.int p2), .val (.int v790), .val (.ref b792), .unset, .unset]) rfl ?_
    show Steps p.tables e below (T798.setTop (mkF m 16 #[.val (.int p0), .val (.int p1), .val (.int p2), .val (.int v790), .val (.ref b792), .unset, .unset] [])) _
    refine XS.bipush X798.here hx rfl (hb hby at_16) ?_
    show Steps p.tables e below (T798.setTop (mkF m 18 #[.val (.int p0), .val (.int p1), .val (.int p2), .val (.int v790), .val (.ref b792), .unset, .unset] [(.int (16 : Int32))])) _
    refine st799 _ ?_
    show Steps p.tables e below (T799.setTop (mkF m 20 #[.val (.int p0), .val (.int p1), .val (.int p2), .val (.int v790), .val (.ref b792), .unset, .unset] [(.ref b799)])) _
    refine XS.astore X799.here hx rfl (hb hby at_20) rfl rfl (l' := #[.val (.int p0), .val (.int p1), .val (.int p2), .val (.int v790), .val (.ref b792), .val (.ref b799), .unset]) rfl ?_
    show Steps p.tables e below (T799.setTop (mkF m 22 #[.val (.int p0), .val (.int p1), .val (.int p2), .val (.int v790), .val (.ref b792), .val (.ref b799), .unset] [])) _
    refine XS.aload X799.here hx rfl (hb hby at_22) rfl rfl ?_
    show Steps p.tables e below (T799.setTop (mkF m 24 #[.val (.int p0), .val (.int p1), .val (.int p2), .val (.int v790), .val (.ref b792), .val (.ref b799), .unset] [(.ref b792)])) _
    refine XS.aload X799.here hx rfl (hb hby at_24) rfl rfl ?_
    show Steps p.tables e below (T799.setTop (mkF m 26 #[.val (.int p0), .val (.int p1), .val (.int p2), .val (.int v790), .val (.ref b792), .val (.ref b799), .unset] [(.ref b799), (.ref b792)])) _
    refine XS.iloadN X799.here hx rfl (hb hby at_26) rfl ?_
    show Steps p.tables e below (T799.setTop (mkF m 27 #[.val (.int p0), .val (.int p1), .val (.int p2), .val (.int v790), .val (.ref b792), .val (.ref b799), .unset] [(.int v790), (.ref b799), (.ref b792)])) _
    refine XS.iloadN X799.here hx rfl (hb hby at_27) rfl ?_
    show Steps p.tables e below (T799.setTop (mkF m 28 #[.val (.int p0), .val (.int p1), .val (.int p2), .val (.int v790), .val (.ref b792), .val (.ref b799), .unset] [(.int p1), (.int v790), (.ref b799), (.ref b792)])) _
    refine XS.iloadN X799.here hx rfl (hb hby at_28) rfl ?_
    show Steps p.tables e below (T799.setTop (mkF m 29 #[.val (.int p0), .val (.int p1), .val (.int p2), .val (.int v790), .val (.ref b792), .val (.ref b799), .unset] [(.int p2), (.int p1), (.int v790), (.ref b799), (.ref b792)])) _
    refine XS.iconst X799.here hx rfl (hb hby at_29) ?_
    show Steps p.tables e below (T799.setTop (mkF m 30 #[.val (.int p0), .val (.int p1), .val (.int p2), .val (.int v790), .val (.ref b792), .val (.ref b799), .unset] [(.int (0 : Int32)), (.int p2), (.int p1), (.int v790), (.ref b799), (.ref b792)])) _
    refine st803 _ ?_
    show Steps p.tables e below (T803.setTop (mkF m 33 #[.val (.int p0), .val (.int p1), .val (.int p2), .val (.int v790), .val (.ref b792), .val (.ref b799), .unset] [(.int (1 : Int32))])) _
    refine XS.istore X803.here hx rfl (hb hby at_33) rfl (l' := #[.val (.int p0), .val (.int p1), .val (.int p2), .val (.int v790), .val (.ref b792), .val (.ref b799), .val (.int (1 : Int32))]) rfl ?_
    show Steps p.tables e below (T803.setTop (mkF m 35 #[.val (.int p0), .val (.int p1), .val (.int p2), .val (.int v790), .val (.ref b792), .val (.ref b799), .val (.int (1 : Int32))] [])) _
    refine XS.iload X803.here hx rfl (hb hby at_35) rfl ?_
    show Steps p.tables e below (T803.setTop (mkF m 37 #[.val (.int p0), .val (.int p1), .val (.int p2), .val (.int v790), .val (.ref b792), .val (.ref b799), .val (.int (1 : Int32))] [(.int (1 : Int32))])) _
    refine XS.ifNo X803.here hx rfl (hb hby at_37) rfl ((if0 _ _).trans (feq (by decide : ¬ ((1 : Int32) = (0 : Int32)))).1) ?_
    show Steps p.tables e below (T803.setTop (mkF m 40 #[.val (.int p0), .val (.int p1), .val (.int p2), .val (.int v790), .val (.ref b792), .val (.ref b799), .val (.int (1 : Int32))] [])) _
    refine XS.aload X803.here hx rfl (hb hby at_40) rfl rfl ?_
    show Steps p.tables e below (T803.setTop (mkF m 42 #[.val (.int p0), .val (.int p1), .val (.int p2), .val (.int v790), .val (.ref b792), .val (.ref b799), .val (.int (1 : Int32))] [(.ref b792)])) _
    refine XS.aload X803.here hx rfl (hb hby at_42) rfl rfl ?_
    show Steps p.tables e below (T803.setTop (mkF m 44 #[.val (.int p0), .val (.int p1), .val (.int p2), .val (.int v790), .val (.ref b792), .val (.ref b799), .val (.int (1 : Int32))] [(.ref b799), (.ref b792)])) _
    refine XS.iloadN X803.here hx rfl (hb hby at_44) rfl ?_
    show Steps p.tables e below (T803.setTop (mkF m 45 #[.val (.int p0), .val (.int p1), .val (.int p2), .val (.int v790), .val (.ref b792), .val (.ref b799), .val (.int (1 : Int32))] [(.int v790), (.ref b799), (.ref b792)])) _
    refine XS.iloadN X803.here hx rfl (hb hby at_45) rfl ?_
    show Steps p.tables e below (T803.setTop (mkF m 46 #[.val (.int p0), .val (.int p1), .val (.int p2), .val (.int v790), .val (.ref b792), .val (.ref b799), .val (.int (1 : Int32))] [(.int p1), (.int v790), (.ref b799), (.ref b792)])) _
    refine XS.iloadN X803.here hx rfl (hb hby at_46) rfl ?_
    show Steps p.tables e below (T803.setTop (mkF m 47 #[.val (.int p0), .val (.int p1), .val (.int p2), .val (.int v790), .val (.ref b792), .val (.ref b799), .val (.int (1 : Int32))] [(.int p2), (.int p1), (.int v790), (.ref b799), (.ref b792)])) _
    refine XS.iconst X803.here hx rfl (hb hby at_47) ?_
    show Steps p.tables e below (T803.setTop (mkF m 48 #[.val (.int p0), .val (.int p1), .val (.int p2), .val (.int v790), .val (.ref b792), .val (.ref b799), .val (.int (1 : Int32))] [(.int (1 : Int32)), (.int p2), (.int p1), (.int v790), (.ref b799), (.ref b792)])) _
    refine st805 _ ?_
    show Steps p.tables e below (T805.setTop (mkF m 51 #[.val (.int p0), .val (.int p1), .val (.int p2), .val (.int v790), .val (.ref b792), .val (.ref b799), .val (.int (1 : Int32))] [(.int (1 : Int32))])) _
    refine XS.ifNo X805.here hx rfl (hb hby at_51) rfl ((if0 _ _).trans (feq (by decide : ¬ ((1 : Int32) = (0 : Int32)))).1) ?_
    show Steps p.tables e below (T805.setTop (mkF m 54 #[.val (.int p0), .val (.int p1), .val (.int p2), .val (.int v790), .val (.ref b792), .val (.ref b799), .val (.int (1 : Int32))] [])) _
    refine XS.iconst X805.here hx rfl (hb hby at_54) ?_
    show Steps p.tables e below (T805.setTop (mkF m 55 #[.val (.int p0), .val (.int p1), .val (.int p2), .val (.int v790), .val (.ref b792), .val (.ref b799), .val (.int (1 : Int32))] [(.int (1 : Int32))])) _
    refine XS.goto X805.here hx rfl (pc0 := 55) (pc' := 59) rfl (hb hby at_55) (by decide) (by decide) ?_
    show Steps p.tables e below (T805.setTop (mkF m 59 #[.val (.int p0), .val (.int p1), .val (.int p2), .val (.int v790), .val (.ref b792), .val (.ref b799), .val (.int (1 : Int32))] [(.int (1 : Int32))])) _
    refine XS.istore X805.here hx rfl (hb hby at_59) rfl (l' := #[.val (.int p0), .val (.int p1), .val (.int p2), .val (.int v790), .val (.ref b792), .val (.ref b799), .val (.int (1 : Int32))]) rfl ?_
    show Steps p.tables e below (T805.setTop (mkF m 61 #[.val (.int p0), .val (.int p1), .val (.int p2), .val (.int v790), .val (.ref b792), .val (.ref b799), .val (.int (1 : Int32))] [])) _
    refine XS.iload X805.here hx rfl (hb hby at_61) rfl ?_
    show Steps p.tables e below (T805.setTop (mkF m 63 #[.val (.int p0), .val (.int p1), .val (.int p2), .val (.int v790), .val (.ref b792), .val (.ref b799), .val (.int (1 : Int32))] [(.int (1 : Int32))])) _
    refine XS.ifNo X805.here hx rfl (hb hby at_63) rfl ((if0 _ _).trans (feq (by decide : ¬ ((1 : Int32) = (0 : Int32)))).1) ?_
    show Steps p.tables e below (T805.setTop (mkF m 66 #[.val (.int p0), .val (.int p1), .val (.int p2), .val (.int v790), .val (.ref b792), .val (.ref b799), .val (.int (1 : Int32))] [])) _
    refine XS.aload X805.here hx rfl (hb hby at_66) rfl rfl ?_
    show Steps p.tables e below (T805.setTop (mkF m 68 #[.val (.int p0), .val (.int p1), .val (.int p2), .val (.int v790), .val (.ref b792), .val (.ref b799), .val (.int (1 : Int32))] [(.ref b792)])) _
    refine XS.aload X805.here hx rfl (hb hby at_68) rfl rfl ?_
    show Steps p.tables e below (T805.setTop (mkF m 70 #[.val (.int p0), .val (.int p1), .val (.int p2), .val (.int v790), .val (.ref b792), .val (.ref b799), .val (.int (1 : Int32))] [(.ref b799), (.ref b792)])) _
    refine XS.iloadN X805.here hx rfl (hb hby at_70) rfl ?_
    show Steps p.tables e below (T805.setTop (mkF m 71 #[.val (.int p0), .val (.int p1), .val (.int p2), .val (.int v790), .val (.ref b792), .val (.ref b799), .val (.int (1 : Int32))] [(.int v790), (.ref b799), (.ref b792)])) _
    refine XS.iloadN X805.here hx rfl (hb hby at_71) rfl ?_
    show Steps p.tables e below (T805.setTop (mkF m 72 #[.val (.int p0), .val (.int p1), .val (.int p2), .val (.int v790), .val (.ref b792), .val (.ref b799), .val (.int (1 : Int32))] [(.int p1), (.int v790), (.ref b799), (.ref b792)])) _
    refine XS.iloadN X805.here hx rfl (hb hby at_72) rfl ?_
    show Steps p.tables e below (T805.setTop (mkF m 73 #[.val (.int p0), .val (.int p1), .val (.int p2), .val (.int v790), .val (.ref b792), .val (.ref b799), .val (.int (1 : Int32))] [(.int p2), (.int p1), (.int v790), (.ref b799), (.ref b792)])) _
    refine XS.iconst X805.here hx rfl (hb hby at_73) ?_
    show Steps p.tables e below (T805.setTop (mkF m 74 #[.val (.int p0), .val (.int p1), .val (.int p2), .val (.int v790), .val (.ref b792), .val (.ref b799), .val (.int (1 : Int32))] [(.int (2 : Int32)), (.int p2), (.int p1), (.int v790), (.ref b799), (.ref b792)])) _
    refine st807 _ ?_
    show Steps p.tables e below (T807.setTop (mkF m 77 #[.val (.int p0), .val (.int p1), .val (.int p2), .val (.int v790), .val (.ref b792), .val (.ref b799), .val (.int (1 : Int32))] [(.int (1 : Int32))])) _
    refine XS.ifNo X807.here hx rfl (hb hby at_77) rfl ((if0 _ _).trans (feq (by decide : ¬ ((1 : Int32) = (0 : Int32)))).1) ?_
    show Steps p.tables e below (T807.setTop (mkF m 80 #[.val (.int p0), .val (.int p1), .val (.int p2), .val (.int v790), .val (.ref b792), .val (.ref b799), .val (.int (1 : Int32))] [])) _
    refine XS.iconst X807.here hx rfl (hb hby at_80) ?_
    show Steps p.tables e below (T807.setTop (mkF m 81 #[.val (.int p0), .val (.int p1), .val (.int p2), .val (.int v790), .val (.ref b792), .val (.ref b799), .val (.int (1 : Int32))] [(.int (1 : Int32))])) _
    refine XS.goto X807.here hx rfl (pc0 := 81) (pc' := 85) rfl (hb hby at_81) (by decide) (by decide) ?_
    show Steps p.tables e below (T807.setTop (mkF m 85 #[.val (.int p0), .val (.int p1), .val (.int p2), .val (.int v790), .val (.ref b792), .val (.ref b799), .val (.int (1 : Int32))] [(.int (1 : Int32))])) _
    refine XS.istore X807.here hx rfl (hb hby at_85) rfl (l' := #[.val (.int p0), .val (.int p1), .val (.int p2), .val (.int v790), .val (.ref b792), .val (.ref b799), .val (.int (1 : Int32))]) rfl ?_
    show Steps p.tables e below (T807.setTop (mkF m 87 #[.val (.int p0), .val (.int p1), .val (.int p2), .val (.int v790), .val (.ref b792), .val (.ref b799), .val (.int (1 : Int32))] [])) _
    refine XS.iload X807.here hx rfl (hb hby at_87) rfl ?_
    show Steps p.tables e below (T807.setTop (mkF m 89 #[.val (.int p0), .val (.int p1), .val (.int p2), .val (.int v790), .val (.ref b792), .val (.ref b799), .val (.int (1 : Int32))] [(.int (1 : Int32))])) _
    refine XS.ifNo X807.here hx rfl (hb hby at_89) rfl ((if0 _ _).trans (feq (by decide : ¬ ((1 : Int32) = (0 : Int32)))).1) ?_
    show Steps p.tables e below (T807.setTop (mkF m 92 #[.val (.int p0), .val (.int p1), .val (.int p2), .val (.int v790), .val (.ref b792), .val (.ref b799), .val (.int (1 : Int32))] [])) _
    refine XS.aload X807.here hx rfl (hb hby at_92) rfl rfl ?_
    show Steps p.tables e below (T807.setTop (mkF m 94 #[.val (.int p0), .val (.int p1), .val (.int p2), .val (.int v790), .val (.ref b792), .val (.ref b799), .val (.int (1 : Int32))] [(.ref b792)])) _
    refine XS.aload X807.here hx rfl (hb hby at_94) rfl rfl ?_
    show Steps p.tables e below (T807.setTop (mkF m 96 #[.val (.int p0), .val (.int p1), .val (.int p2), .val (.int v790), .val (.ref b792), .val (.ref b799), .val (.int (1 : Int32))] [(.ref b799), (.ref b792)])) _
    refine XS.iloadN X807.here hx rfl (hb hby at_96) rfl ?_
    show Steps p.tables e below (T807.setTop (mkF m 97 #[.val (.int p0), .val (.int p1), .val (.int p2), .val (.int v790), .val (.ref b792), .val (.ref b799), .val (.int (1 : Int32))] [(.int v790), (.ref b799), (.ref b792)])) _
    refine XS.iloadN X807.here hx rfl (hb hby at_97) rfl ?_
    show Steps p.tables e below (T807.setTop (mkF m 98 #[.val (.int p0), .val (.int p1), .val (.int p2), .val (.int v790), .val (.ref b792), .val (.ref b799), .val (.int (1 : Int32))] [(.int p1), (.int v790), (.ref b799), (.ref b792)])) _
    refine XS.iloadN X807.here hx rfl (hb hby at_98) rfl ?_
    show Steps p.tables e below (T807.setTop (mkF m 99 #[.val (.int p0), .val (.int p1), .val (.int p2), .val (.int v790), .val (.ref b792), .val (.ref b799), .val (.int (1 : Int32))] [(.int p2), (.int p1), (.int v790), (.ref b799), (.ref b792)])) _
    refine XS.iconst X807.here hx rfl (hb hby at_99) ?_
    show Steps p.tables e below (T807.setTop (mkF m 100 #[.val (.int p0), .val (.int p1), .val (.int p2), .val (.int v790), .val (.ref b792), .val (.ref b799), .val (.int (1 : Int32))] [(.int (3 : Int32)), (.int p2), (.int p1), (.int v790), (.ref b799), (.ref b792)])) _
    refine st809 _ ?_
    show Steps p.tables e below (T809.setTop (mkF m 103 #[.val (.int p0), .val (.int p1), .val (.int p2), .val (.int v790), .val (.ref b792), .val (.ref b799), .val (.int (1 : Int32))] [(.int (1 : Int32))])) _
    refine XS.ifNo X809.here hx rfl (hb hby at_103) rfl ((if0 _ _).trans (feq (by decide : ¬ ((1 : Int32) = (0 : Int32)))).1) ?_
    show Steps p.tables e below (T809.setTop (mkF m 106 #[.val (.int p0), .val (.int p1), .val (.int p2), .val (.int v790), .val (.ref b792), .val (.ref b799), .val (.int (1 : Int32))] [])) _
    refine XS.iconst X809.here hx rfl (hb hby at_106) ?_
    show Steps p.tables e below (T809.setTop (mkF m 107 #[.val (.int p0), .val (.int p1), .val (.int p2), .val (.int v790), .val (.ref b792), .val (.ref b799), .val (.int (1 : Int32))] [(.int (1 : Int32))])) _
    refine XS.goto X809.here hx rfl (pc0 := 107) (pc' := 111) rfl (hb hby at_107) (by decide) (by decide) ?_
    show Steps p.tables e below (T809.setTop (mkF m 111 #[.val (.int p0), .val (.int p1), .val (.int p2), .val (.int v790), .val (.ref b792), .val (.ref b799), .val (.int (1 : Int32))] [(.int (1 : Int32))])) _
    refine XS.istore X809.here hx rfl (hb hby at_111) rfl (l' := #[.val (.int p0), .val (.int p1), .val (.int p2), .val (.int v790), .val (.ref b792), .val (.ref b799), .val (.int (1 : Int32))]) rfl ?_
    show Steps p.tables e below (T809.setTop (mkF m 113 #[.val (.int p0), .val (.int p1), .val (.int p2), .val (.int v790), .val (.ref b792), .val (.ref b799), .val (.int (1 : Int32))] [])) _
    refine XS.iload X809.here hx rfl (hb hby at_113) rfl ?_
    show Steps p.tables e below (T809.setTop (mkF m 115 #[.val (.int p0), .val (.int p1), .val (.int p2), .val (.int v790), .val (.ref b792), .val (.ref b799), .val (.int (1 : Int32))] [(.int (1 : Int32))])) _
    refine XS.ifNo X809.here hx rfl (hb hby at_115) rfl ((if0 _ _).trans (feq (by decide : ¬ ((1 : Int32) = (0 : Int32)))).1) ?_
    show Steps p.tables e below (T809.setTop (mkF m 118 #[.val (.int p0), .val (.int p1), .val (.int p2), .val (.int v790), .val (.ref b792), .val (.ref b799), .val (.int (1 : Int32))] [])) _
    refine XS.aload X809.here hx rfl (hb hby at_118) rfl rfl ?_
    show Steps p.tables e below (T809.setTop (mkF m 120 #[.val (.int p0), .val (.int p1), .val (.int p2), .val (.int v790), .val (.ref b792), .val (.ref b799), .val (.int (1 : Int32))] [(.ref b792)])) _
    refine XS.aload X809.here hx rfl (hb hby at_120) rfl rfl ?_
    show Steps p.tables e below (T809.setTop (mkF m 122 #[.val (.int p0), .val (.int p1), .val (.int p2), .val (.int v790), .val (.ref b792), .val (.ref b799), .val (.int (1 : Int32))] [(.ref b799), (.ref b792)])) _
    refine XS.iloadN X809.here hx rfl (hb hby at_122) rfl ?_
    show Steps p.tables e below (T809.setTop (mkF m 123 #[.val (.int p0), .val (.int p1), .val (.int p2), .val (.int v790), .val (.ref b792), .val (.ref b799), .val (.int (1 : Int32))] [(.int v790), (.ref b799), (.ref b792)])) _
    refine XS.iloadN X809.here hx rfl (hb hby at_123) rfl ?_
    show Steps p.tables e below (T809.setTop (mkF m 124 #[.val (.int p0), .val (.int p1), .val (.int p2), .val (.int v790), .val (.ref b792), .val (.ref b799), .val (.int (1 : Int32))] [(.int p1), (.int v790), (.ref b799), (.ref b792)])) _
    refine XS.iloadN X809.here hx rfl (hb hby at_124) rfl ?_
    show Steps p.tables e below (T809.setTop (mkF m 125 #[.val (.int p0), .val (.int p1), .val (.int p2), .val (.int v790), .val (.ref b792), .val (.ref b799), .val (.int (1 : Int32))] [(.int p2), (.int p1), (.int v790), (.ref b799), (.ref b792)])) _
    refine XS.iconst X809.here hx rfl (hb hby at_125) ?_
    show Steps p.tables e below (T809.setTop (mkF m 126 #[.val (.int p0), .val (.int p1), .val (.int p2), .val (.int v790), .val (.ref b792), .val (.ref b799), .val (.int (1 : Int32))] [(.int (4 : Int32)), (.int p2), (.int p1), (.int v790), (.ref b799), (.ref b792)])) _
    refine st811 _ ?_
    show Steps p.tables e below (T811.setTop (mkF m 129 #[.val (.int p0), .val (.int p1), .val (.int p2), .val (.int v790), .val (.ref b792), .val (.ref b799), .val (.int (1 : Int32))] [(.int (1 : Int32))])) _
    refine XS.ifNo X811.here hx rfl (hb hby at_129) rfl ((if0 _ _).trans (feq (by decide : ¬ ((1 : Int32) = (0 : Int32)))).1) ?_
    show Steps p.tables e below (T811.setTop (mkF m 132 #[.val (.int p0), .val (.int p1), .val (.int p2), .val (.int v790), .val (.ref b792), .val (.ref b799), .val (.int (1 : Int32))] [])) _
    refine XS.iconst X811.here hx rfl (hb hby at_132) ?_
    show Steps p.tables e below (T811.setTop (mkF m 133 #[.val (.int p0), .val (.int p1), .val (.int p2), .val (.int v790), .val (.ref b792), .val (.ref b799), .val (.int (1 : Int32))] [(.int (1 : Int32))])) _
    refine XS.goto X811.here hx rfl (pc0 := 133) (pc' := 137) rfl (hb hby at_133) (by decide) (by decide) ?_
    show Steps p.tables e below (T811.setTop (mkF m 137 #[.val (.int p0), .val (.int p1), .val (.int p2), .val (.int v790), .val (.ref b792), .val (.ref b799), .val (.int (1 : Int32))] [(.int (1 : Int32))])) _
    refine XS.istore X811.here hx rfl (hb hby at_137) rfl (l' := #[.val (.int p0), .val (.int p1), .val (.int p2), .val (.int v790), .val (.ref b792), .val (.ref b799), .val (.int (1 : Int32))]) rfl ?_
    show Steps p.tables e below (T811.setTop (mkF m 139 #[.val (.int p0), .val (.int p1), .val (.int p2), .val (.int v790), .val (.ref b792), .val (.ref b799), .val (.int (1 : Int32))] [])) _
    refine XS.iload X811.here hx rfl (hb hby at_139) rfl ?_
    show Steps p.tables e below (T811.setTop (mkF m 141 #[.val (.int p0), .val (.int p1), .val (.int p2), .val (.int v790), .val (.ref b792), .val (.ref b799), .val (.int (1 : Int32))] [(.int (1 : Int32))])) _
    refine XS.ifNo X811.here hx rfl (hb hby at_141) rfl ((if0 _ _).trans (feq (by decide : ¬ ((1 : Int32) = (0 : Int32)))).1) ?_
    show Steps p.tables e below (T811.setTop (mkF m 144 #[.val (.int p0), .val (.int p1), .val (.int p2), .val (.int v790), .val (.ref b792), .val (.ref b799), .val (.int (1 : Int32))] [])) _
    refine XS.aload X811.here hx rfl (hb hby at_144) rfl rfl ?_
    show Steps p.tables e below (T811.setTop (mkF m 146 #[.val (.int p0), .val (.int p1), .val (.int p2), .val (.int v790), .val (.ref b792), .val (.ref b799), .val (.int (1 : Int32))] [(.ref b792)])) _
    refine XS.aload X811.here hx rfl (hb hby at_146) rfl rfl ?_
    show Steps p.tables e below (T811.setTop (mkF m 148 #[.val (.int p0), .val (.int p1), .val (.int p2), .val (.int v790), .val (.ref b792), .val (.ref b799), .val (.int (1 : Int32))] [(.ref b799), (.ref b792)])) _
    refine XS.iloadN X811.here hx rfl (hb hby at_148) rfl ?_
    show Steps p.tables e below (T811.setTop (mkF m 149 #[.val (.int p0), .val (.int p1), .val (.int p2), .val (.int v790), .val (.ref b792), .val (.ref b799), .val (.int (1 : Int32))] [(.int v790), (.ref b799), (.ref b792)])) _
    refine XS.iloadN X811.here hx rfl (hb hby at_149) rfl ?_
    show Steps p.tables e below (T811.setTop (mkF m 150 #[.val (.int p0), .val (.int p1), .val (.int p2), .val (.int v790), .val (.ref b792), .val (.ref b799), .val (.int (1 : Int32))] [(.int p1), (.int v790), (.ref b799), (.ref b792)])) _
    refine XS.iloadN X811.here hx rfl (hb hby at_150) rfl ?_
    show Steps p.tables e below (T811.setTop (mkF m 151 #[.val (.int p0), .val (.int p1), .val (.int p2), .val (.int v790), .val (.ref b792), .val (.ref b799), .val (.int (1 : Int32))] [(.int p2), (.int p1), (.int v790), (.ref b799), (.ref b792)])) _
    refine XS.iconst X811.here hx rfl (hb hby at_151) ?_
    show Steps p.tables e below (T811.setTop (mkF m 152 #[.val (.int p0), .val (.int p1), .val (.int p2), .val (.int v790), .val (.ref b792), .val (.ref b799), .val (.int (1 : Int32))] [(.int (5 : Int32)), (.int p2), (.int p1), (.int v790), (.ref b799), (.ref b792)])) _
    refine st813 _ ?_
    show Steps p.tables e below (T813.setTop (mkF m 155 #[.val (.int p0), .val (.int p1), .val (.int p2), .val (.int v790), .val (.ref b792), .val (.ref b799), .val (.int (1 : Int32))] [(.int (1 : Int32))])) _
    refine XS.ifNo X813.here hx rfl (hb hby at_155) rfl ((if0 _ _).trans (feq (by decide : ¬ ((1 : Int32) = (0 : Int32)))).1) ?_
    show Steps p.tables e below (T813.setTop (mkF m 158 #[.val (.int p0), .val (.int p1), .val (.int p2), .val (.int v790), .val (.ref b792), .val (.ref b799), .val (.int (1 : Int32))] [])) _
    refine XS.iconst X813.here hx rfl (hb hby at_158) ?_
    show Steps p.tables e below (T813.setTop (mkF m 159 #[.val (.int p0), .val (.int p1), .val (.int p2), .val (.int v790), .val (.ref b792), .val (.ref b799), .val (.int (1 : Int32))] [(.int (1 : Int32))])) _
    refine XS.goto X813.here hx rfl (pc0 := 159) (pc' := 163) rfl (hb hby at_159) (by decide) (by decide) ?_
    show Steps p.tables e below (T813.setTop (mkF m 163 #[.val (.int p0), .val (.int p1), .val (.int p2), .val (.int v790), .val (.ref b792), .val (.ref b799), .val (.int (1 : Int32))] [(.int (1 : Int32))])) _
    refine XS.istore X813.here hx rfl (hb hby at_163) rfl (l' := #[.val (.int p0), .val (.int p1), .val (.int p2), .val (.int v790), .val (.ref b792), .val (.ref b799), .val (.int (1 : Int32))]) rfl ?_
    show Steps p.tables e below (T813.setTop (mkF m 165 #[.val (.int p0), .val (.int p1), .val (.int p2), .val (.int v790), .val (.ref b792), .val (.ref b799), .val (.int (1 : Int32))] [])) _
    refine XS.iload X813.here hx rfl (hb hby at_165) rfl ?_
    show Steps p.tables e below (T813.setTop (mkF m 167 #[.val (.int p0), .val (.int p1), .val (.int p2), .val (.int v790), .val (.ref b792), .val (.ref b799), .val (.int (1 : Int32))] [(.int (1 : Int32))])) _
    refine XS.ifNo X813.here hx rfl (hb hby at_167) rfl ((if0 _ _).trans (feq (by decide : ¬ ((1 : Int32) = (0 : Int32)))).1) ?_
    show Steps p.tables e below (T813.setTop (mkF m 170 #[.val (.int p0), .val (.int p1), .val (.int p2), .val (.int v790), .val (.ref b792), .val (.ref b799), .val (.int (1 : Int32))] [])) _
    refine XS.aload X813.here hx rfl (hb hby at_170) rfl rfl ?_
    show Steps p.tables e below (T813.setTop (mkF m 172 #[.val (.int p0), .val (.int p1), .val (.int p2), .val (.int v790), .val (.ref b792), .val (.ref b799), .val (.int (1 : Int32))] [(.ref b792)])) _
    refine XS.aload X813.here hx rfl (hb hby at_172) rfl rfl ?_
    show Steps p.tables e below (T813.setTop (mkF m 174 #[.val (.int p0), .val (.int p1), .val (.int p2), .val (.int v790), .val (.ref b792), .val (.ref b799), .val (.int (1 : Int32))] [(.ref b799), (.ref b792)])) _
    refine XS.iloadN X813.here hx rfl (hb hby at_174) rfl ?_
    show Steps p.tables e below (T813.setTop (mkF m 175 #[.val (.int p0), .val (.int p1), .val (.int p2), .val (.int v790), .val (.ref b792), .val (.ref b799), .val (.int (1 : Int32))] [(.int v790), (.ref b799), (.ref b792)])) _
    refine XS.iloadN X813.here hx rfl (hb hby at_175) rfl ?_
    show Steps p.tables e below (T813.setTop (mkF m 176 #[.val (.int p0), .val (.int p1), .val (.int p2), .val (.int v790), .val (.ref b792), .val (.ref b799), .val (.int (1 : Int32))] [(.int p1), (.int v790), (.ref b799), (.ref b792)])) _
    refine XS.iloadN X813.here hx rfl (hb hby at_176) rfl ?_
    show Steps p.tables e below (T813.setTop (mkF m 177 #[.val (.int p0), .val (.int p1), .val (.int p2), .val (.int v790), .val (.ref b792), .val (.ref b799), .val (.int (1 : Int32))] [(.int p2), (.int p1), (.int v790), (.ref b799), (.ref b792)])) _
    refine XS.bipush X813.here hx rfl (hb hby at_177) ?_
    show Steps p.tables e below (T813.setTop (mkF m 179 #[.val (.int p0), .val (.int p1), .val (.int p2), .val (.int v790), .val (.ref b792), .val (.ref b799), .val (.int (1 : Int32))] [(.int (6 : Int32)), (.int p2), (.int p1), (.int v790), (.ref b799), (.ref b792)])) _
    refine st815 _ ?_
    show Steps p.tables e below (T815.setTop (mkF m 182 #[.val (.int p0), .val (.int p1), .val (.int p2), .val (.int v790), .val (.ref b792), .val (.ref b799), .val (.int (1 : Int32))] [(.int (1 : Int32))])) _
    refine XS.ifNo X815.here hx rfl (hb hby at_182) rfl ((if0 _ _).trans (feq (by decide : ¬ ((1 : Int32) = (0 : Int32)))).1) ?_
    show Steps p.tables e below (T815.setTop (mkF m 185 #[.val (.int p0), .val (.int p1), .val (.int p2), .val (.int v790), .val (.ref b792), .val (.ref b799), .val (.int (1 : Int32))] [])) _
    refine XS.iconst X815.here hx rfl (hb hby at_185) ?_
    show Steps p.tables e below (T815.setTop (mkF m 186 #[.val (.int p0), .val (.int p1), .val (.int p2), .val (.int v790), .val (.ref b792), .val (.ref b799), .val (.int (1 : Int32))] [(.int (1 : Int32))])) _
    refine XS.goto X815.here hx rfl (pc0 := 186) (pc' := 190) rfl (hb hby at_186) (by decide) (by decide) ?_
    show Steps p.tables e below (T815.setTop (mkF m 190 #[.val (.int p0), .val (.int p1), .val (.int p2), .val (.int v790), .val (.ref b792), .val (.ref b799), .val (.int (1 : Int32))] [(.int (1 : Int32))])) _
    refine XS.istore X815.here hx rfl (hb hby at_190) rfl (l' := #[.val (.int p0), .val (.int p1), .val (.int p2), .val (.int v790), .val (.ref b792), .val (.ref b799), .val (.int (1 : Int32))]) rfl ?_
    show Steps p.tables e below (T815.setTop (mkF m 192 #[.val (.int p0), .val (.int p1), .val (.int p2), .val (.int v790), .val (.ref b792), .val (.ref b799), .val (.int (1 : Int32))] [])) _
    refine XS.iload X815.here hx rfl (hb hby at_192) rfl ?_
    show Steps p.tables e below (T815.setTop (mkF m 194 #[.val (.int p0), .val (.int p1), .val (.int p2), .val (.int v790), .val (.ref b792), .val (.ref b799), .val (.int (1 : Int32))] [(.int (1 : Int32))])) _
    refine XS.ifNo X815.here hx rfl (hb hby at_194) rfl ((if0 _ _).trans (feq (by decide : ¬ ((1 : Int32) = (0 : Int32)))).1) ?_
    show Steps p.tables e below (T815.setTop (mkF m 197 #[.val (.int p0), .val (.int p1), .val (.int p2), .val (.int v790), .val (.ref b792), .val (.ref b799), .val (.int (1 : Int32))] [])) _
    refine XS.aload X815.here hx rfl (hb hby at_197) rfl rfl ?_
    show Steps p.tables e below (T815.setTop (mkF m 199 #[.val (.int p0), .val (.int p1), .val (.int p2), .val (.int v790), .val (.ref b792), .val (.ref b799), .val (.int (1 : Int32))] [(.ref b792)])) _
    refine XS.aload X815.here hx rfl (hb hby at_199) rfl rfl ?_
    show Steps p.tables e below (T815.setTop (mkF m 201 #[.val (.int p0), .val (.int p1), .val (.int p2), .val (.int v790), .val (.ref b792), .val (.ref b799), .val (.int (1 : Int32))] [(.ref b799), (.ref b792)])) _
    refine XS.iloadN X815.here hx rfl (hb hby at_201) rfl ?_
    show Steps p.tables e below (T815.setTop (mkF m 202 #[.val (.int p0), .val (.int p1), .val (.int p2), .val (.int v790), .val (.ref b792), .val (.ref b799), .val (.int (1 : Int32))] [(.int v790), (.ref b799), (.ref b792)])) _
    refine XS.iloadN X815.here hx rfl (hb hby at_202) rfl ?_
    show Steps p.tables e below (T815.setTop (mkF m 203 #[.val (.int p0), .val (.int p1), .val (.int p2), .val (.int v790), .val (.ref b792), .val (.ref b799), .val (.int (1 : Int32))] [(.int p1), (.int v790), (.ref b799), (.ref b792)])) _
    refine XS.iloadN X815.here hx rfl (hb hby at_203) rfl ?_
    show Steps p.tables e below (T815.setTop (mkF m 204 #[.val (.int p0), .val (.int p1), .val (.int p2), .val (.int v790), .val (.ref b792), .val (.ref b799), .val (.int (1 : Int32))] [(.int p2), (.int p1), (.int v790), (.ref b799), (.ref b792)])) _
    refine XS.bipush X815.here hx rfl (hb hby at_204) ?_
    show Steps p.tables e below (T815.setTop (mkF m 206 #[.val (.int p0), .val (.int p1), .val (.int p2), .val (.int v790), .val (.ref b792), .val (.ref b799), .val (.int (1 : Int32))] [(.int (7 : Int32)), (.int p2), (.int p1), (.int v790), (.ref b799), (.ref b792)])) _
    refine st817 _ ?_
    show Steps p.tables e below (T817.setTop (mkF m 209 #[.val (.int p0), .val (.int p1), .val (.int p2), .val (.int v790), .val (.ref b792), .val (.ref b799), .val (.int (1 : Int32))] [(.int (1 : Int32))])) _
    refine XS.ifNo X817.here hx rfl (hb hby at_209) rfl ((if0 _ _).trans (feq (by decide : ¬ ((1 : Int32) = (0 : Int32)))).1) ?_
    show Steps p.tables e below (T817.setTop (mkF m 212 #[.val (.int p0), .val (.int p1), .val (.int p2), .val (.int v790), .val (.ref b792), .val (.ref b799), .val (.int (1 : Int32))] [])) _
    refine XS.iconst X817.here hx rfl (hb hby at_212) ?_
    show Steps p.tables e below (T817.setTop (mkF m 213 #[.val (.int p0), .val (.int p1), .val (.int p2), .val (.int v790), .val (.ref b792), .val (.ref b799), .val (.int (1 : Int32))] [(.int (1 : Int32))])) _
    refine XS.goto X817.here hx rfl (pc0 := 213) (pc' := 217) rfl (hb hby at_213) (by decide) (by decide) ?_
    show Steps p.tables e below (T817.setTop (mkF m 217 #[.val (.int p0), .val (.int p1), .val (.int p2), .val (.int v790), .val (.ref b792), .val (.ref b799), .val (.int (1 : Int32))] [(.int (1 : Int32))])) _
    refine XS.istore X817.here hx rfl (hb hby at_217) rfl (l' := #[.val (.int p0), .val (.int p1), .val (.int p2), .val (.int v790), .val (.ref b792), .val (.ref b799), .val (.int (1 : Int32))]) rfl ?_
    show Steps p.tables e below (T817.setTop (mkF m 219 #[.val (.int p0), .val (.int p1), .val (.int p2), .val (.int v790), .val (.ref b792), .val (.ref b799), .val (.int (1 : Int32))] [])) _
    refine XS.iload X817.here hx rfl (hb hby at_219) rfl ?_
    show Steps p.tables e below (T817.setTop (mkF m 221 #[.val (.int p0), .val (.int p1), .val (.int p2), .val (.int v790), .val (.ref b792), .val (.ref b799), .val (.int (1 : Int32))] [(.int (1 : Int32))])) _
    exact kt
  obtain ⟨fs, hr, hrun, hended, hW, hsame⟩ := X817.leave (v := some (.int (1 : Int32))) (fun h => by rw [Bd.returns] at h; cases h)
  refine ⟨_, _, k818 _ (retN X817 hx (t := .boolean) Bd.returns (by simp) (hb hby at_221) hr), hrun, hended, _, _, rfl, ?_, ⟨_, rfl⟩, hW, hsame.mono (by decide) (by decide)⟩
  show Q0 Z p0 p1 p2 h0 n0 _ T817.heap _
  exact ⟨rfl, N817⟩
set_option maxRecDepth 65536 in
set_option maxHeartbeats 40000000 in
theorem comes_1 {Post : Tables → Env → Array Value → State → Outcome → State → Prop} (hpost : ∀ tb e args s v u, (limb_1_1.after args s (.returned v) u = true ∧ limb_1_2.after args s (.returned v) u = true ∧ True) → FrameEnd s (.returned v) u (Jvm.fieldLocs frame_1_writes args s ++ Jvm.arrayLocs frame_1_arrays args s ++ Jvm.staticLocs frame_1_statics s) 16 128 → Post tb e args s (.returned v) u) :
    ArmFor flags0 classFile x code maxLocals ret World_1 tables_1 room_1 Calls_1 rest_1 Pre_1 Post := by
  intro l hfl _ _ p e ha hc hk s m args below hf hA hF happ hP
  obtain ⟨hcalls, hrest, hpre⟩ := hP
  obtain ⟨-, -, -, hnamed, -, -, -, hat⟩ := (Spec.applies_iff hf).mp happ
  obtain ⟨hg, hn⟩ := and_e (Cond.before_iff.mp (show (Jvm.Cond.and given_1 narrow_1).before args s = true from hpre))
  have hcount := (and_e hg).1
  have hgs0 := (and_e hg).2
  have hi0 := (and_e hgs0).1
  have hgs1 := (and_e hgs0).2
  have hi1 := (and_e hgs1).1
  have hgs2 := (and_e hgs1).2
  have hi2 := hgs2
  obtain ⟨w0, w1, w2, rfl⟩ : ∃ w0 w1 w2 : Value, args = #[w0, w1, w2] := by
    have hs : args.size = 3 := by simpa [Cond.value, given_1] using hcount
    obtain ⟨L⟩ := args
    match L, hs with
    | [w0, w1, w2], _ => exact ⟨w0, w1, w2, rfl⟩
  have hw := fun d (hd : d ∈ tables_1) => atoms_spec (ws := Jvm.Cond.code x code maxLocals ret :: tables_1) hat d (List.mem_cons_of_mem _ hd)
  have hfit : Fit s := fun {y c} hc i hi => by
    obtain ⟨ha, rfl⟩ := Array.getElem?_eq_some_iff.mp hc
    have q := List.all_eq_true.mp ((Array.all_eq_true_iff_forall_mem.mp hF) _ (Array.getElem_mem ha)) i (List.mem_range.mpr hi)
    simpa [Array.getElem?_eq_getElem hi] using q
  obtain ⟨i0, ei0⟩ := is_v hi0
  obtain rfl : w0 = (.int i0) := Option.some.inj ei0
  obtain ⟨i1, ei1⟩ := is_v hi1
  obtain rfl : w1 = (.int i1) := Option.some.inj ei1
  obtain ⟨i2, ei2⟩ := is_v hi2
  obtain rfl : w2 = (.int i2) := Option.some.inj ei2
  obtain ⟨n, o, h1, h2, h3, _, L, rfl, ⟨rfl, N⟩, hq⟩ := rm0 l s _ hw tables_1 i0 i1 i2 s.heap s.heap.size (Nat.le_refl _)  p e ha hc hk s m _ below hf ((Spec.applies_iff_loose hf).mp happ).1 ⟨rfl, State.Warmed39.refl s, rfl⟩ trivial
  refine ⟨n, _, h1, h2, h3, hpost _ _ _ _ _ _ ⟨Cond.after_iff.mpr rfl, Cond.after_iff.mpr (eq_i res_at (Term.int_eval (1)) rfl), trivial⟩ ⟨hq.1, hq.2.1, (hq.2.2.sift fun y hy => Or.inr (N y hy)).mono (by decide) (by decide)⟩⟩
theorem main_1_1 : Claimed_1_1 := comes_1 fun _ _ _ _ _ _ h hF => ⟨h.1, hF⟩
theorem main_1_2 : Claimed_1_2 := comes_1 fun _ _ _ _ _ _ h hF => ⟨h.2.1, hF⟩
end Jvm.Pilot.@@N@@
namespace Jvm.Pilot.@@N@@
open Jvm Jvm.ClassFile Sem Op Lib Jvm.Free Jvm.Stand Jvm.Pilot.@@N@@.Jvm.D
/-! MADE BY PROGRAM (witnessworld.py) out of the Statement's table words and the real class files: 11 classes; the members and pool entries that the words name. The judged class is class 1, her method 1. -/
namespace start1
open Jvm.ClassFile
def u (s : String) : CpInfo := .utf8 (stringToUtf16 s)
/-- a pool by its gaps: so many unusable entries, then the entry; so many at the end -/
def gap : Nat → List CpInfo → List CpInfo
  | 0, r => r
  | n + 1, r => .unusable :: gap n r
def poolList (es : List (Nat × CpInfo)) (last : Nat) : List CpInfo := es.foldr (fun e r => gap e.1 (e.2 :: r)) (gap last [])
def pool (es : List (Nat × CpInfo)) (last : Nat) : Array CpInfo := ⟨poolList es last⟩
def fileOf (pool : Array CpInfo) (this : Nat) (attrs : Array Attribute := #[]) (ms : Array MethodInfo := #[]) (fl : Nat := 33) (sup : Nat := 0) (ifs : Array Nat := #[]) (fds : Array FieldInfo := #[]) : ClassFile where
  minorVersion := 0
  majorVersion := 65
  constantPool := pool
  accessFlags := fl
  thisClass := this
  superClass := sup
  interfaces := ifs
  fields := fds
  methods := ms
  attributes := attrs
def plain (name : String) (sup : Option ClassId) : Class where
  name := name
  kind := .ordinary
  loader := none
  accessFlags := 33
  super := sup
  interfaces := #[]
  cf := none
  fields := #[]
  methods := #[]
  instanceTypes := #[]
  staticTypes := #[]
  resolved := #[]
  callSites := []
  init := .initialized
  statics := none
  mirror := none

def pool0 : Array CpInfo := pool [(5, u "<init>"), (0, u "()V"), (1, .class_ 10), (1, u "java/lang/Object")] 113

def k0c0 : Code := { maxStack := 0, maxLocals := 1, code := object_method_1_code, exceptionTable := #[], attributes := #[] }
def k0m0 : Method := { name := "<init>", desc := "()V", sig := { parameters := [], returnType := none }, accessFlags := 1, code := some k0c0 }
/-- java/lang/Object -/
def k0 : Class := { plain "java/lang/Object" none with
  accessFlags := 33
  interfaces := #[]
  cf := some (fileOf pool0 8 #[] #[{ accessFlags := 1, nameIndex := 5, descriptorIndex := 6, attributes := #[] }] 33 0 #[] #[])
  fields := #[]
  methods := #[k0m0]
  instanceTypes := #[]
  staticTypes := #[]
  resolved := Array.replicate 124 none
  statics := none }

def pool1 : Array CpInfo := pool [(2, .class_ 4), (1, u "java/lang/Object"), (0, u "<init>"), (0, u "()V"), (0, .class_ 8), (0, u "com/example/tablewise/tablewise/propagation/WaitingRing"), (0, .methodref 7 10), (0, .nameAndType 5 11), (0, u "(I)V"), (0, .methodref 13 14), (0, .class_ 15), (0, .nameAndType 16 17), (0, u "com/example/tablewise/tablewise/propagation/WaitingRingTakePinLaw"), (0, u "step"), (0, u "(Lcom/example/tablewise/tablewise/propagation/WaitingRing;[IIIII)Z"), (0, .methodref 7 19), (0, .nameAndType 20 11), (0, u "add"), (0, .methodref 13 22), (0, .nameAndType 23 24), (0, u "contains"), (0, u "([IIII)Z"), (0, .methodref 7 26), (0, .nameAndType 27 28), (0, u "take"), (0, u "()I"), (2, u "law"), (0, u "(III)Z")] 5

def k1m0 : Method := { name := "<init>", desc := "()V", sig := { parameters := [], returnType := none }, accessFlags := 1, code := none }
def k1c1 : Code := { maxStack := 6, maxLocals := 7, code := code, exceptionTable := #[], attributes := #[] }
def k1m1 : Method := { name := "law", desc := "(III)Z", sig := { parameters := [.int, .int, .int], returnType := some .boolean }, accessFlags := 9, code := some k1c1 }
def k1c2 : Code := { maxStack := 3, maxLocals := 4, code := method_3_code, exceptionTable := #[], attributes := #[] }
def k1m2 : Method := { name := "contains", desc := "([IIII)Z", sig := { parameters := [(.array .int), .int, .int, .int], returnType := some .boolean }, accessFlags := 10, code := some k1c2 }
def k1c3 : Code := { maxStack := 4, maxLocals := 13, code := method_4_code, exceptionTable := #[], attributes := #[] }
def k1m3 : Method := { name := "step", desc := "(Lcom/example/tablewise/tablewise/propagation/WaitingRing;[IIIII)Z", sig := { parameters := [(.object "com/example/tablewise/tablewise/propagation/WaitingRing"), (.array .int), .int, .int, .int, .int], returnType := some .boolean }, accessFlags := 10, code := some k1c3 }
/-- com/example/tablewise/tablewise/propagation/WaitingRingTakePinLaw -/
def k1 : Class := { plain "com/example/tablewise/tablewise/propagation/WaitingRingTakePinLaw" (some 0) with
  accessFlags := 49
  interfaces := #[]
  cf := some (fileOf pool1 13 #[] #[{ accessFlags := 1, nameIndex := 5, descriptorIndex := 6, attributes := #[] }, { accessFlags := 9, nameIndex := 31, descriptorIndex := 32, attributes := #[] }, { accessFlags := 10, nameIndex := 23, descriptorIndex := 24, attributes := #[] }, { accessFlags := 10, nameIndex := 16, descriptorIndex := 17, attributes := #[] }] 49 2 #[] #[])
  fields := #[]
  methods := #[k1m0, k1m1, k1m2, k1m3]
  instanceTypes := #[]
  staticTypes := #[]
  resolved := Array.replicate 38 none
  statics := none }

def pool2 : Array CpInfo := pool [(1, .methodref 2 3), (0, .class_ 4), (0, .nameAndType 5 6), (0, u "java/lang/Object"), (0, u "<init>"), (0, u "()V"), (0, .fieldref 8 9), (0, .class_ 10), (0, .nameAndType 11 12), (0, u "com/example/tablewise/tablewise/propagation/WaitingRing"), (0, u "ring"), (0, u "[I"), (0, .fieldref 8 14), (0, .nameAndType 15 16), (0, u "waiting"), (0, u "[Z"), (0, .fieldref 8 18), (0, .nameAndType 19 20), (0, u "count"), (0, u "I"), (0, .fieldref 8 22), (0, .nameAndType 23 20), (0, u "head"), (2, u "take"), (0, u "()I"), (0, u "(I)V"), (5, u "add")] 4

def k2c0 : Code := { maxStack := 2, maxLocals := 2, code := prog_25_method_1_code, exceptionTable := #[], attributes := #[] }
def k2m0 : Method := { name := "<init>", desc := "(I)V", sig := { parameters := [.int], returnType := none }, accessFlags := 0, code := some k2c0 }
def k2c1 : Code := { maxStack := 3, maxLocals := 3, code := prog_25_method_3_code, exceptionTable := #[], attributes := #[] }
def k2m1 : Method := { name := "add", desc := "(I)V", sig := { parameters := [.int], returnType := none }, accessFlags := 0, code := some k2c1 }
def k2c2 : Code := { maxStack := 3, maxLocals := 2, code := prog_25_method_4_code, exceptionTable := #[], attributes := #[] }
def k2m2 : Method := { name := "take", desc := "()I", sig := { parameters := [], returnType := some .int }, accessFlags := 0, code := some k2c2 }
/-- com/example/tablewise/tablewise/propagation/WaitingRing -/
def k2 : Class := { plain "com/example/tablewise/tablewise/propagation/WaitingRing" (some 0) with
  accessFlags := 32
  interfaces := #[]
  cf := some (fileOf pool2 8 #[] #[{ accessFlags := 0, nameIndex := 5, descriptorIndex := 28, attributes := #[] }, { accessFlags := 0, nameIndex := 34, descriptorIndex := 28, attributes := #[] }, { accessFlags := 0, nameIndex := 26, descriptorIndex := 27, attributes := #[] }] 32 2 #[] #[{ accessFlags := 18, nameIndex := 11, descriptorIndex := 12, attributes := #[] }, { accessFlags := 18, nameIndex := 15, descriptorIndex := 16, attributes := #[] }, { accessFlags := 2, nameIndex := 23, descriptorIndex := 20, attributes := #[] }, { accessFlags := 2, nameIndex := 19, descriptorIndex := 20, attributes := #[] }])
  fields := #[{ name := "ring", type := (.array .int), accessFlags := 18, slot := 0, constantValue := 0 }, { name := "waiting", type := (.array .boolean), accessFlags := 18, slot := 1, constantValue := 0 }, { name := "head", type := .int, accessFlags := 2, slot := 2, constantValue := 0 }, { name := "count", type := .int, accessFlags := 2, slot := 3, constantValue := 0 }]
  methods := #[k2m0, k2m1, k2m2]
  instanceTypes := #[(.array .int), (.array .boolean), .int, .int]
  staticTypes := #[]
  resolved := Array.replicate 39 none
  statics := none }

def pool3 : Array CpInfo := pool [(1, u "java/lang/Cloneable"), (0, .class_ 1), (0, u "java/lang/Object"), (0, .class_ 3)] 3

/-- java/lang/Cloneable -/
def k3 : Class := { plain "java/lang/Cloneable" (some 0) with
  accessFlags := 1537
  interfaces := #[]
  cf := some (fileOf pool3 2 #[] #[] 1537 4 #[] #[])
  fields := #[]
  methods := #[]
  instanceTypes := #[]
  staticTypes := #[]
  resolved := Array.replicate 8 none
  statics := none }

def pool4 : Array CpInfo := pool [(1, u "java/io/Serializable"), (0, .class_ 1), (0, u "java/lang/Object"), (0, .class_ 3)] 3

/-- java/io/Serializable -/
def k4 : Class := { plain "java/io/Serializable" (some 0) with
  accessFlags := 1537
  interfaces := #[]
  cf := some (fileOf pool4 2 #[] #[] 1537 4 #[] #[])
  fields := #[]
  methods := #[]
  instanceTypes := #[]
  staticTypes := #[]
  resolved := Array.replicate 8 none
  statics := none }

/-- the primitive boolean -/
def k5 : Class := { plain "boolean" none with kind := .primitive 'Z', accessFlags := 0x411 }
/-- [Z -/
def k6 : Class := { plain "[Z" (some 0) with kind := .array 5 .boolean, interfaces := #[3, 4], accessFlags := 1041 }

/-- the primitive byte -/
def k7 : Class := { plain "byte" none with kind := .primitive 'B', accessFlags := 0x411 }
/-- [B -/
def k8 : Class := { plain "[B" (some 0) with kind := .array 7 .byte, interfaces := #[3, 4], accessFlags := 1041 }

/-- the primitive int -/
def k9 : Class := { plain "int" none with kind := .primitive 'I', accessFlags := 0x411 }
/-- [I -/
def k10 : Class := { plain "[I" (some 0) with kind := .array 9 .int, interfaces := #[3, 4], accessFlags := 1041 }

def heap : Heap := #[]
def classes : Array Class := #[k0, k1, k2, k3, k4, k5, k6, k7, k8, k9, k10]
def interned : List (Array UInt16 × Addr) := []
def slotsUsed : Nat := 0
def theMethod : MethodId := ⟨1, 1⟩
def args0 : Array Value := #[.int 1, .int 2, .int 3]
def aboutOver (below : List Frame) : State where
  vm := { classes := classes, interned := interned.toArray }
  heap := heap
  slotsUsed := slotsUsed
  threads := #[{ frames := .invoking theMethod args0 :: below }]
def below0 : List Frame := [.native { method := ⟨0, 0⟩, args := #[] }]
def about1 : State := aboutOver below0
def p0 : Program := .bare "" "" ""
def e0 : Env := launch0.env 0 0 0
theorem w_frames : about1.frames = Frame.invoking theMethod args0 :: below0 := rfl
set_option maxRecDepth 65536 in
theorem w_args : argsFit about1.vm theMethod args0 = true := by decide +kernel
set_option maxRecDepth 65536 in
theorem w_heap : heapFits about1 = true := by decide +kernel
set_option maxRecDepth 65536 in
theorem w_runnable : about1.curStatus? = some .runnable := by decide +kernel
set_option maxRecDepth 65536 in
theorem w_alone : about1.alone = true := by decide +kernel
set_option maxRecDepth 65536 in
theorem w_named : about1.methodNamed? x = some theMethod := by decide +kernel
set_option maxRecDepth 65536 in
theorem w_hears : about1.hears theMethod below0 = true := by decide +kernel
set_option maxRecDepth 65536 in
theorem w_ripe : about1.ripe theMethod args0 below0 = true := by decide +kernel
theorem w_running : about1.status = .running := rfl
set_option maxRecDepth 65536 in
theorem w_room : about1.hasRoom e0.platform room_1 = true :=
  launch0.hasRoom_least _ room_1 (by decide +kernel) (by decide +kernel) (by decide +kernel) (by decide +kernel) (by decide +kernel) (by decide +kernel)
theorem allAtoms_all (ts : List Jvm.Cond) (a : Array Jvm.Value) (st : Jvm.State) : (allAtoms ts).before a st = ts.all (fun c => c.before a st) := by
  induction ts with
  | nil => rfl
  | cons c t ih =>
    show (Jvm.Cond.and c (allAtoms t)).before a st = _
    rw [Jvm.Cond.before_and, ih, List.all_cons]
def words1 : List Jvm.Cond := Jvm.Cond.code x code maxLocals ret :: tables_1
/-- a 'code' word, met by the world's own term for the bytes: nothing is compared byte by byte -/
theorem code_word {y : MethodName} {bytes : ByteArray} {mx : Nat} {rt : Option FieldType} {a : Array Value} {s : State} {m : MethodId} {meth : Method} {c : Code} (h1 : s.methodNamed? y = some m) (h2 : s.vm.method? m = some meth) (h3 : meth.code = some c) (h4 : c.code = bytes)
    (h5 : (c.maxLocals == mx && c.exceptionTable.isEmpty && decide (c.maxStack ≤ mostOperands) && decide (meth.sig.returnType = rt) && !meth.locks && decide (parseMethodDescriptor y.desc = some meth.sig)) = true) : (Jvm.Cond.code y bytes mx rt).before a s = true := by
  simp only [Bool.and_eq_true, beq_iff_eq, Bool.not_eq_true', decide_eq_true_eq] at h5
  obtain ⟨⟨⟨⟨⟨g1, g2⟩, g3⟩, g4⟩, g5⟩, g6⟩ := h5
  simp [Cond.before, Cond.holds, Cond.value, h1, h2, h3, h4, g1, g2, g3, g4, g5, g6]
def isCode : Jvm.Cond → Bool
  | .code _ _ _ _ => true
  | _ => false
theorem all_split {L : List Jvm.Cond} {P : Jvm.Cond → Bool} (h1 : L.all (fun c => isCode c || P c) = true) (h2 : ∀ c ∈ L.filter isCode, P c = true) : L.all P = true := by
  refine List.all_eq_true.mpr fun c hc => ?_
  have h := List.all_eq_true.mp h1 c hc
  rcases Bool.eq_false_or_eq_true (isCode c) with hi | hi
  · exact h2 c (List.mem_filter.mpr ⟨hc, hi⟩)
  · simpa [hi] using h
set_option maxRecDepth 65536 in
theorem w_c0 : (Jvm.Cond.code x code maxLocals ret).before args0 about1 = true := code_word (m := ⟨1, 1⟩) (meth := k1m1) (c := k1c1) (by decide +kernel) rfl rfl rfl (by decide +kernel)
set_option maxRecDepth 65536 in
theorem w_c1 : (Jvm.Cond.code ({ cls := "com/example/tablewise/tablewise/propagation/WaitingRing", name := "<init>", desc := "(I)V" } : Jvm.MethodName) prog_25_method_1_code (2 : Nat) (Option.none : Option Jvm.ClassFile.FieldType)).before args0 about1 = true := code_word (m := ⟨2, 0⟩) (meth := k2m0) (c := k2c0) (by decide +kernel) rfl rfl rfl (by decide +kernel)
set_option maxRecDepth 65536 in
theorem w_c2 : (Jvm.Cond.code ({ cls := "java/lang/Object", name := "<init>", desc := "()V" } : Jvm.MethodName) object_method_1_code (1 : Nat) (Option.none : Option Jvm.ClassFile.FieldType)).before args0 about1 = true := code_word (m := ⟨0, 0⟩) (meth := k0m0) (c := k0c0) (by decide +kernel) rfl rfl rfl (by decide +kernel)
set_option maxRecDepth 65536 in
theorem w_c3 : (Jvm.Cond.code ({ cls := "com/example/tablewise/tablewise/propagation/WaitingRingTakePinLaw", name := "step", desc := "(Lcom/example/tablewise/tablewise/propagation/WaitingRing;[IIIII)Z" } : Jvm.MethodName) method_4_code (13 : Nat) (Option.some Jvm.ClassFile.FieldType.boolean)).before args0 about1 = true := code_word (m := ⟨1, 3⟩) (meth := k1m3) (c := k1c3) (by decide +kernel) rfl rfl rfl (by decide +kernel)
set_option maxRecDepth 65536 in
theorem w_c4 : (Jvm.Cond.code ({ cls := "com/example/tablewise/tablewise/propagation/WaitingRing", name := "add", desc := "(I)V" } : Jvm.MethodName) prog_25_method_3_code (3 : Nat) (Option.none : Option Jvm.ClassFile.FieldType)).before args0 about1 = true := code_word (m := ⟨2, 1⟩) (meth := k2m1) (c := k2c1) (by decide +kernel) rfl rfl rfl (by decide +kernel)
set_option maxRecDepth 65536 in
theorem w_c5 : (Jvm.Cond.code ({ cls := "com/example/tablewise/tablewise/propagation/WaitingRingTakePinLaw", name := "contains", desc := "([IIII)Z" } : Jvm.MethodName) method_3_code (4 : Nat) (Option.some Jvm.ClassFile.FieldType.boolean)).before args0 about1 = true := code_word (m := ⟨1, 2⟩) (meth := k1m2) (c := k1c2) (by decide +kernel) rfl rfl rfl (by decide +kernel)
set_option maxRecDepth 65536 in
theorem w_c6 : (Jvm.Cond.code ({ cls := "com/example/tablewise/tablewise/propagation/WaitingRing", name := "take", desc := "()I" } : Jvm.MethodName) prog_25_method_4_code (2 : Nat) (Option.some Jvm.ClassFile.FieldType.int)).before args0 about1 = true := code_word (m := ⟨2, 2⟩) (meth := k2m2) (c := k2c2) (by decide +kernel) rfl rfl rfl (by decide +kernel)
def codes1 : List Jvm.Cond := [Jvm.Cond.code x code maxLocals ret, Jvm.Cond.code ({ cls := "com/example/tablewise/tablewise/propagation/WaitingRing", name := "<init>", desc := "(I)V" } : Jvm.MethodName) prog_25_method_1_code (2 : Nat) (Option.none : Option Jvm.ClassFile.FieldType), Jvm.Cond.code ({ cls := "java/lang/Object", name := "<init>", desc := "()V" } : Jvm.MethodName) object_method_1_code (1 : Nat) (Option.none : Option Jvm.ClassFile.FieldType), Jvm.Cond.code ({ cls := "com/example/tablewise/tablewise/propagation/WaitingRingTakePinLaw", name := "step", desc := "(Lcom/example/tablewise/tablewise/propagation/WaitingRing;[IIIII)Z" } : Jvm.MethodName) method_4_code (13 : Nat) (Option.some Jvm.ClassFile.FieldType.boolean), Jvm.Cond.code ({ cls := "com/example/tablewise/tablewise/propagation/WaitingRing", name := "add", desc := "(I)V" } : Jvm.MethodName) prog_25_method_3_code (3 : Nat) (Option.none : Option Jvm.ClassFile.FieldType), Jvm.Cond.code ({ cls := "com/example/tablewise/tablewise/propagation/WaitingRingTakePinLaw", name := "contains", desc := "([IIII)Z" } : Jvm.MethodName) method_3_code (4 : Nat) (Option.some Jvm.ClassFile.FieldType.boolean), Jvm.Cond.code ({ cls := "com/example/tablewise/tablewise/propagation/WaitingRing", name := "take", desc := "()I" } : Jvm.MethodName) prog_25_method_4_code (2 : Nat) (Option.some Jvm.ClassFile.FieldType.int)]
set_option maxRecDepth 65536 in
theorem codes_eq : words1.filter isCode = codes1 := rfl
theorem w_codes : ∀ c ∈ words1.filter isCode, c.before args0 about1 = true := by
  rw [codes_eq]
  intro c hc
  simp only [codes1, List.mem_cons, List.not_mem_nil, or_false] at hc
  rcases hc with rfl | rfl | rfl | rfl | rfl | rfl | rfl
  · exact w_c0
  · exact w_c1
  · exact w_c2
  · exact w_c3
  · exact w_c4
  · exact w_c5
  · exact w_c6
set_option maxRecDepth 65536 in
theorem w_t1 : (words1.take 24).all (fun c => isCode c || c.before args0 about1) = true := by decide +kernel
set_option maxRecDepth 65536 in
theorem w_t2 : (words1.drop 24).all (fun c => isCode c || c.before args0 about1) = true := by decide +kernel
theorem w_tables : (allAtoms (Jvm.Cond.code x code maxLocals ret :: tables_1)).before args0 about1 = true := by
  rw [allAtoms_all]
  show words1.all (fun c => c.before args0 about1) = true
  refine all_split ?_ w_codes
  rw [← List.take_append_drop 24 words1, List.all_append, w_t1, w_t2]
  rfl
set_option maxRecDepth 65536 in
theorem w_case : (Jvm.Cond.and given_1 narrow_1).before args0 about1 = true := by decide +kernel
theorem w_applies : (headSpec (Jvm.Cond.code x code maxLocals ret :: tables_1) room_1).applies x e0.platform about1 = true :=
  (Spec.applies_iff w_frames).mpr ⟨w_running, w_runnable, w_alone, w_named, w_hears, w_ripe, w_room, w_tables⟩
theorem atStart : AtStart classFile x code maxLocals ret World_1 tables_1 room_1 Calls_1 rest_1 Pre_1 launch0 p0 e0 about1 theMethod args0 below0 :=
  ⟨lists_1, trivial, launch0.admits_env _ _ _, launch0.least_env, fairChoices_fair.cas, fairChoices_fair.clock, w_frames, w_args, w_heap, w_applies, trivial, trivial, w_case⟩
end start1
theorem witness_1 : WitnessClaimed_1 := ⟨start1.p0, start1.e0, start1.about1, start1.theMethod, start1.args0, start1.below0, start1.atStart⟩
end Jvm.Pilot.@@N@@
