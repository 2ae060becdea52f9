import JvmDerived
import JvmDerived.Pilot.@@N@@Statement
import JvmDerived.Pilot.@@N@@Code
set_option linter.unusedVariables false
set_option linter.unusedSimpArgs false
namespace Jvm.RoadKit
open Sem ClassFile Op Lib Jvm.Stand Jvm.Free Jvm.LawKit
section New
variable {p : Program} {l : Launch} {e : Env} {R : Room} {s : State} {m : MethodId} {args : Array Value} {below : List Frame} {meth : Method} {c : Code} {T : State} {locs : List Loc} {cells slots : Nat}
theorem retI (X : Stand p l e R s m args below meth c T locs cells slots) (hx : p.tables.exec = Jvm.exec) {pc : Nat} {Ls : Array Slot} {z : Int32} {rest : List Value} (hret : meth.sig.returnType = some .int) (hd : decode c.code pc = .ok (.ireturn, 1)) {fs : List Frame}
    (hl : ∀ (f : JFrame) (acts : List Action), f.method = m → f.locked = none → f.entered = [] → (doReturn e (T.setTop f) acts (some (.int z))).1 = T.setFrames fs) : Steps p.tables e below (T.setTop (mkF m pc Ls (.int z :: rest))) (T.setFrames fs) := by
  have hm' : T.vm.method? m = some meth := X.method'
  have hn : narrow .int (.int z) = .int z := rfl
  show Steps p.tables e below (T.setTop { method := m, pc := pc, locals := Ls, stack := _ :: rest, locked := none }) _
  jvm_step X.here [X.here.top, hx, hd, hm', hret, hn]
  first | (intro acts; rw [hl _ acts rfl rfl rfl]) | rw [hl _ _ rfl rfl rfl]
  exact Steps.refl _
end New
end Jvm.RoadKit
namespace Jvm.Pilot.@@N@@
open Jvm Jvm.ClassFile Sem Op Lib Jvm.Free Jvm.Stand Jvm.LawKit Jvm.RoadKit Bundle Jvm.Pilot.@@N@@.Jvm.D
section Own
variable {p : Program} {l : Launch} {e : Env} {R : Room} {s : State} {m : MethodId} {args : Array Value} {below : List Frame} {meth : Method} {c : Code} {T : State} {locs : List Loc} {cells slots : Nat} {Z : State} {a0 : Array Value} {h h' : Heap}
/-- an array of n places, whose j-th holds f j -/
def own_AF (Z : State) (h : Heap) (a : Addr) (ty : FieldType) (n : Nat) (f : Nat → Value) : Prop := n < 2147483648 ∧ ∃ c : Cell, Arr Z h a c ty ∧ c.slots.size = n ∧ ∀ j, j < n → c.slots[j]? = some (f j)
/-- an array of ints, bytes, chars, booleans -/
def own_AI (Z : State) (h : Heap) (a : Addr) (ty : FieldType) (n : Nat) (f : Nat → Int32) : Prop := own_AF Z h a ty n (fun j => .int (f j))
def own_AL (Z : State) (h : Heap) (a : Addr) (n : Nat) (f : Nat → Int64) : Prop := own_AF Z h a .long n (fun j => .long (f j))
def own_upd {α : Type} (f : Nat → α) (i : Nat) (x : α) : Nat → α := fun j => if j = i then x else f j
theorem own_AF.lt {a : Addr} {ty : FieldType} {n : Nat} {f : Nat → Value} (F : own_AF Z h a ty n f) : a < h.size := by obtain ⟨_, c, A, -⟩ := F; exact A.lt
theorem own_AI.lt {a : Addr} {ty : FieldType} {n : Nat} {f : Nat → Int32} (F : own_AI Z h a ty n f) : a < h.size := own_AF.lt F
theorem own_AL.lt {a : Addr} {n : Nat} {f : Nat → Int64} (F : own_AL Z h a n f) : a < h.size := own_AF.lt F
theorem own_AF.keep {a : Addr} {ty : FieldType} {n : Nat} {f : Nat → Value} {ws : List Addr} (F : own_AF Z h a ty n f) (K : Keep h h' ws) (q : a ∉ ws) : own_AF Z h' a ty n f := by
  obtain ⟨b, c, A, r⟩ := F; exact ⟨b, c, ⟨K.2.1 a c A.1 q, A.2⟩, r⟩
theorem own_AI.keep {a : Addr} {ty : FieldType} {n : Nat} {f : Nat → Int32} {ws : List Addr} (F : own_AI Z h a ty n f) (K : Keep h h' ws) (q : a ∉ ws) : own_AI Z h' a ty n f := own_AF.keep F K q
theorem own_AL.keep {a : Addr} {n : Nat} {f : Nat → Int64} {ws : List Addr} (F : own_AL Z h a n f) (K : Keep h h' ws) (q : a ∉ ws) : own_AL Z h' a n f := own_AF.keep F K q
theorem own_AF.congr {a : Addr} {ty : FieldType} {n : Nat} {f g : Nat → Value} (F : own_AF Z h a ty n f) (q : ∀ j, j < n → f j = g j) : own_AF Z h a ty n g := by
  obtain ⟨b, c, A, s, r⟩ := F; exact ⟨b, c, A, s, fun j hj => by rw [r j hj, q j hj]⟩
theorem own_AI.congr {a : Addr} {ty : FieldType} {n : Nat} {f g : Nat → Int32} (F : own_AI Z h a ty n f) (q : ∀ j, j < n → f j = g j) : own_AI Z h a ty n g := own_AF.congr F fun j hj => by show Value.int (f j) = .int (g j); rw [q j hj]
theorem own_AF.wr {a : Addr} {ty : FieldType} {n i : Nat} {f : Nat → Value} {v : Value} (F : own_AF Z h a ty n f) (hi : i < n) (W : Wr h h' a i v) : own_AF Z h' a ty n (own_upd f i v) := by
  obtain ⟨b, c, A, s, r⟩ := F
  refine ⟨b, _, A.same W, by rw [sz_set]; exact s, fun j hj => ?_⟩
  simp only [Cell.setSlot, own_upd, Array.getElem?_setIfInBounds]
  by_cases q : i = j
  · subst q; simp [s, hi]
  · have q' : ¬ j = i := fun e => q e.symm
    simp [q, q', r j hj]
theorem own_AI.wr {a : Addr} {ty : FieldType} {n i : Nat} {f : Nat → Int32} {x : Int32} (F : own_AI Z h a ty n f) (hi : i < n) (W : Wr h h' a i (.int x)) : own_AI Z h' a ty n (own_upd f i x) :=
  (own_AF.wr F hi W).congr fun j hj => by simp only [own_upd]; split <;> rfl
theorem own_AL.wr {a : Addr} {n i : Nat} {f : Nat → Int64} {x : Int64} (F : own_AL Z h a n f) (hi : i < n) (W : Wr h h' a i (.long x)) : own_AL Z h' a n (own_upd f i x) :=
  (own_AF.wr F hi W).congr fun j hj => by simp only [own_upd]; split <;> rfl
theorem own_idx {j : Int32} {i : Nat} (hj : j.toInt = i) : ¬ j < 0 ∧ j.toNatClampNeg = i := by
  refine ⟨by rw [Int32.lt_iff_toInt_lt, Int32.toInt_zero]; omega, ?_⟩
  have := nat_of (j := j) (by rw [Int32.lt_iff_toInt_lt, Int32.toInt_zero]; omega)
  omega
theorem own_inb {j : Int32} {i n : Nat} {cl : Cell} (hj : j.toInt = i) (hi : i < n) (hs : cl.slots.size = n) : ¬ (j < 0 ∨ cl.slots.size ≤ j.toNatClampNeg) := by
  obtain ⟨h1, h2⟩ := own_idx hj
  rintro (q | q)
  · exact h1 q
  · rw [h2, hs] at q; omega
theorem own_ldF {a : Addr} {n i : Nat} {ty : FieldType} {f : Nat → Value} {j : Int32} {v : Value} (A : own_AF Z h a ty n f) (hj : j.toInt = i) (hi : i < n) (hv : f i = v) : ∃ cl : Cell, Arr Z h a cl ty ∧ ¬ (j < 0 ∨ cl.slots.size ≤ j.toNatClampNeg) ∧ cl.slots[j.toNatClampNeg]? = some v := by
  obtain ⟨b, cl, Ar, hs, hf⟩ := A
  exact ⟨cl, Ar, own_inb hj hi hs, by rw [(own_idx hj).2, hf i hi, hv]⟩
theorem own_ldI (X : Stand p l e R s m args below meth c T locs cells slots) (hx : p.tables.exec = Jvm.exec) (hZ : Z.Warmed39 s.vm) (eT : T.heap = h) {a : Addr} {n i : Nat} {f : Nat → Int32} {j x : Int32} (A : own_AI Z h a .int n f) (hj : j.toInt = i) (hi : i < n) (hv : f i = x) {g : JFrame} (hg : g.method = m) {rest : List Value} (hs : g.stack = .int j :: .ref a :: rest) (hd : decode c.code g.pc = .ok (.iaload, 1)) :
    ∀ target, Steps p.tables e below (T.setTop { g with pc := g.pc + 1, stack := .int x :: rest }) target → Steps p.tables e below (T.setTop g) target := by
  obtain ⟨cl, Ar, h1, h2⟩ := own_ldF A hj hi (by rw [hv])
  exact X.iaload hx (by rw [eT]; exact Ar.1) (State.isArrayOf_alike hZ.alike Ar.2.1) Ar.2.2 h1 h2 hg hs hd
theorem own_ldC (X : Stand p l e R s m args below meth c T locs cells slots) (hx : p.tables.exec = Jvm.exec) (hZ : Z.Warmed39 s.vm) (eT : T.heap = h) {a : Addr} {n i : Nat} {f : Nat → Int32} {j x : Int32} (A : own_AI Z h a .char n f) (hj : j.toInt = i) (hi : i < n) (hv : f i = x) {g : JFrame} (hg : g.method = m) {rest : List Value} (hs : g.stack = .int j :: .ref a :: rest) (hd : decode c.code g.pc = .ok (.caload, 1)) :
    ∀ target, Steps p.tables e below (T.setTop { g with pc := g.pc + 1, stack := .int x :: rest }) target → Steps p.tables e below (T.setTop g) target := by
  obtain ⟨cl, Ar, h1, h2⟩ := own_ldF A hj hi (by rw [hv])
  exact X.caload hx (by rw [eT]; exact Ar.1) (State.isArrayOf_alike hZ.alike Ar.2.1) Ar.2.2 h1 h2 hg hs hd
theorem own_ldB (X : Stand p l e R s m args below meth c T locs cells slots) (hx : p.tables.exec = Jvm.exec) (hZ : Z.Warmed39 s.vm) (eT : T.heap = h) {a : Addr} {n i : Nat} {f : Nat → Int32} {j x : Int32} (A : own_AI Z h a .byte n f) (hj : j.toInt = i) (hi : i < n) (hv : f i = x) {g : JFrame} (hg : g.method = m) {rest : List Value} (hs : g.stack = .int j :: .ref a :: rest) (hd : decode c.code g.pc = .ok (.baload, 1)) :
    ∀ target, Steps p.tables e below (T.setTop { g with pc := g.pc + 1, stack := .int x :: rest }) target → Steps p.tables e below (T.setTop g) target := by
  obtain ⟨cl, Ar, h1, h2⟩ := own_ldF A hj hi (by rw [hv])
  exact X.baloadBytes hx (by rw [eT]; exact Ar.1) (State.isArrayOf_alike hZ.alike Ar.2.1) Ar.2.2 h1 h2 hg hs hd
theorem own_ldZ (X : Stand p l e R s m args below meth c T locs cells slots) (hx : p.tables.exec = Jvm.exec) (hZ : Z.Warmed39 s.vm) (eT : T.heap = h) {a : Addr} {n i : Nat} {f : Nat → Int32} {j x : Int32} (A : own_AI Z h a .boolean n f) (hj : j.toInt = i) (hi : i < n) (hv : f i = x) {g : JFrame} (hg : g.method = m) {rest : List Value} (hs : g.stack = .int j :: .ref a :: rest) (hd : decode c.code g.pc = .ok (.baload, 1)) :
    ∀ target, Steps p.tables e below (T.setTop { g with pc := g.pc + 1, stack := .int x :: rest }) target → Steps p.tables e below (T.setTop g) target := by
  obtain ⟨cl, Ar, h1, h2⟩ := own_ldF A hj hi (by rw [hv])
  exact X.baloadBooleans hx (by rw [eT]; exact Ar.1) (State.isArrayOf_alike hZ.alike Ar.2.1) Ar.2.2 h1 h2 hg hs hd
theorem own_ldJ (X : Stand p l e R s m args below meth c T locs cells slots) (hx : p.tables.exec = Jvm.exec) (hZ : Z.Warmed39 s.vm) (eT : T.heap = h) {a : Addr} {n i : Nat} {f : Nat → Int64} {j : Int32} {x : Int64} (A : own_AL Z h a n f) (hj : j.toInt = i) (hi : i < n) (hv : f i = x) {g : JFrame} (hg : g.method = m) {rest : List Value} (hs : g.stack = .int j :: .ref a :: rest) (hd : decode c.code g.pc = .ok (.laload, 1)) :
    ∀ target, Steps p.tables e below (T.setTop { g with pc := g.pc + 1, stack := .long x :: rest }) target → Steps p.tables e below (T.setTop g) target := by
  obtain ⟨cl, Ar, h1, h2⟩ := own_ldF A hj hi (by rw [hv])
  exact X.laload hx (by rw [eT]; exact Ar.1) (State.isArrayOf_alike hZ.alike Ar.2.1) Ar.2.2 h1 h2 hg hs hd
theorem own_ldR (X : Stand p l e R s m args below meth c T locs cells slots) (hx : p.tables.exec = Jvm.exec) (hZ : Z.Warmed39 s.vm) (eT : T.heap = h) {a : Addr} {n i : Nat} {ty : FieldType} {f : Nat → Value} {j : Int32} {v : Value} (hty : ty.isReference = true) (A : own_AF Z h a ty n f) (hj : j.toInt = i) (hi : i < n) (hv : f i = v) {g : JFrame} (hg : g.method = m) {rest : List Value} (hs : g.stack = .int j :: .ref a :: rest) (hd : decode c.code g.pc = .ok (.aaload, 1)) :
    ∀ target, Steps p.tables e below (T.setTop { g with pc := g.pc + 1, stack := v :: rest }) target → Steps p.tables e below (T.setTop g) target := by
  obtain ⟨cl, Ar, h1, h2⟩ := own_ldF A hj hi hv
  exact X.aaload hx (by rw [eT]; exact Ar.1) (State.isArrayOf_alike hZ.alike Ar.2.1) hty Ar.2.2 h1 h2 hg hs hd
theorem own_len (X : Stand p l e R s m args below meth c T locs cells slots) (hx : p.tables.exec = Jvm.exec) (hZ : Z.Warmed39 s.vm) (eT : T.heap = h) {a : Addr} {n : Nat} {ty : FieldType} {f : Nat → Value} {z : Int32} (A : own_AF Z h a ty n f) (hz : z.toInt = n) {g : JFrame} (hg : g.method = m) {rest : List Value} (hs : g.stack = .ref a :: rest) (hd : decode c.code g.pc = .ok (.arraylength, 1)) :
    ∀ target, Steps p.tables e below (T.setTop { g with pc := g.pc + 1, stack := .int z :: rest }) target → Steps p.tables e below (T.setTop g) target := by
  obtain ⟨b, cl, Ar, hs', hf⟩ := A
  intro target k
  refine X.arraylength hx (by rw [eT]; exact Ar.1) (State.isArrayOf_alike hZ.alike Ar.2.1) hg hs hd target ?_
  have q : cl.slots.size.toInt32 = z := by
    apply Int32.toInt_inj.mp
    rw [hs', len_toInt (by omega), hz]
  rw [q]; exact k
theorem own_stI (X : Stand p l e R s m args below meth c T locs cells slots) (hx : p.tables.exec = Jvm.exec) (hZ : Z.Warmed39 s.vm) (eT : T.heap = h) {a : Addr} {n i : Nat} {f : Nat → Int32} {j x : Int32} (A : own_AI Z h a .int n f) (hj : j.toInt = i) (hi : i < n) {g : JFrame} (hg : g.method = m) {rest : List Value} (hs : g.stack = .int x :: .int j :: .ref a :: rest) (hd : decode c.code g.pc = .ok (.iastore, 1)) :
    ∃ T' h', Stand p l e R s m args below meth c T' (locs ++ [⟨a, i⟩]) cells slots ∧ T'.heap = h' ∧ Wr h h' a i (.int x) ∧ own_AI Z h' a .int n (own_upd f i x) ∧ ∀ target, Steps p.tables e below (T'.setTop { g with pc := g.pc + 1, stack := rest }) target → Steps p.tables e below (T.setTop g) target := by
  obtain ⟨cl, Ar, h1, -⟩ := own_ldF A hj hi rfl
  obtain ⟨T', h', X', e', W, st⟩ := stI X hx hZ eT Ar h1 hg hs hd
  rw [(own_idx hj).2] at X' W
  exact ⟨T', h', X', e', W, A.wr hi W, st⟩
theorem own_stB (X : Stand p l e R s m args below meth c T locs cells slots) (hx : p.tables.exec = Jvm.exec) (hZ : Z.Warmed39 s.vm) (eT : T.heap = h) {a : Addr} {n i : Nat} {f : Nat → Int32} {j x : Int32} (A : own_AI Z h a .byte n f) (hj : j.toInt = i) (hi : i < n) {g : JFrame} (hg : g.method = m) {rest : List Value} (hs : g.stack = .int x :: .int j :: .ref a :: rest) (hd : decode c.code g.pc = .ok (.bastore, 1)) :
    ∃ T' h', Stand p l e R s m args below meth c T' (locs ++ [⟨a, i⟩]) cells slots ∧ T'.heap = h' ∧ Wr h h' a i (.int (x.toInt8.toInt32)) ∧ own_AI Z h' a .byte n (own_upd f i (x.toInt8.toInt32)) ∧ ∀ target, Steps p.tables e below (T'.setTop { g with pc := g.pc + 1, stack := rest }) target → Steps p.tables e below (T.setTop g) target := by
  obtain ⟨cl, Ar, h1, -⟩ := own_ldF A hj hi rfl
  obtain ⟨T', h', X', e', W, st⟩ := stB X hx hZ eT Ar h1 hg hs hd
  rw [(own_idx hj).2] at X' W
  exact ⟨T', h', X', e', W, A.wr hi W, st⟩
theorem own_stZ (X : Stand p l e R s m args below meth c T locs cells slots) (hx : p.tables.exec = Jvm.exec) (hZ : Z.Warmed39 s.vm) (eT : T.heap = h) {a : Addr} {n i : Nat} {f : Nat → Int32} {j x : Int32} (A : own_AI Z h a .boolean n f) (hj : j.toInt = i) (hi : i < n) {g : JFrame} (hg : g.method = m) {rest : List Value} (hs : g.stack = .int x :: .int j :: .ref a :: rest) (hd : decode c.code g.pc = .ok (.bastore, 1)) :
    ∃ T' h', Stand p l e R s m args below meth c T' (locs ++ [⟨a, i⟩]) cells slots ∧ T'.heap = h' ∧ Wr h h' a i (.int (x &&& 1)) ∧ own_AI Z h' a .boolean n (own_upd f i (x &&& 1)) ∧ ∀ target, Steps p.tables e below (T'.setTop { g with pc := g.pc + 1, stack := rest }) target → Steps p.tables e below (T.setTop g) target := by
  obtain ⟨cl, Ar, h1, -⟩ := own_ldF A hj hi rfl
  obtain ⟨T', h', X', e', W, st⟩ := stZ X hx hZ eT Ar h1 hg hs hd
  rw [(own_idx hj).2] at X' W
  exact ⟨T', h', X', e', W, A.wr hi W, st⟩
theorem own_stC (X : Stand p l e R s m args below meth c T locs cells slots) (hx : p.tables.exec = Jvm.exec) (hZ : Z.Warmed39 s.vm) (eT : T.heap = h) {a : Addr} {n i : Nat} {f : Nat → Int32} {j x : Int32} (A : own_AI Z h a .char n f) (hj : j.toInt = i) (hi : i < n) {g : JFrame} (hg : g.method = m) {rest : List Value} (hs : g.stack = .int x :: .int j :: .ref a :: rest) (hd : decode c.code g.pc = .ok (.castore, 1)) :
    ∃ T' h', Stand p l e R s m args below meth c T' (locs ++ [⟨a, i⟩]) cells slots ∧ T'.heap = h' ∧ Wr h h' a i (.int (x.toUInt32.toUInt16.toUInt32.toInt32)) ∧ own_AI Z h' a .char n (own_upd f i (x.toUInt32.toUInt16.toUInt32.toInt32)) ∧ ∀ target, Steps p.tables e below (T'.setTop { g with pc := g.pc + 1, stack := rest }) target → Steps p.tables e below (T.setTop g) target := by
  obtain ⟨cl, Ar, h1, -⟩ := own_ldF A hj hi rfl
  obtain ⟨T', h', X', e', W, st⟩ := stC X hx hZ eT Ar h1 hg hs hd
  rw [(own_idx hj).2] at X' W
  exact ⟨T', h', X', e', W, A.wr hi W, st⟩
theorem own_stJ (X : Stand p l e R s m args below meth c T locs cells slots) (hx : p.tables.exec = Jvm.exec) (hZ : Z.Warmed39 s.vm) (eT : T.heap = h) {a : Addr} {n i : Nat} {f : Nat → Int64} {j : Int32} {x : Int64} (A : own_AL Z h a n f) (hj : j.toInt = i) (hi : i < n) {g : JFrame} (hg : g.method = m) {rest : List Value} (hs : g.stack = .long x :: .int j :: .ref a :: rest) (hd : decode c.code g.pc = .ok (.lastore, 1)) :
    ∃ T' h', Stand p l e R s m args below meth c T' (locs ++ [⟨a, i⟩]) cells slots ∧ T'.heap = h' ∧ Wr h h' a i (.long x) ∧ own_AL Z h' a n (own_upd f i x) ∧ ∀ target, Steps p.tables e below (T'.setTop { g with pc := g.pc + 1, stack := rest }) target → Steps p.tables e below (T.setTop g) target := by
  obtain ⟨cl, Ar, h1, -⟩ := own_ldF A hj hi rfl
  obtain ⟨T', h', X', e', W, st⟩ := stJ X hx hZ eT Ar h1 hg hs hd
  rw [(own_idx hj).2] at X' W
  exact ⟨T', h', X', e', W, A.wr hi W, st⟩
theorem own_newF {a : Addr} {cA : ClassId} {ty : FieldType} {n : Int32} {i : Nat} (hn : n.toInt = i) (A : Arr Z h a (newA cA ty n) ty) : own_AF Z h a ty i (fun _ => defaultValue ty) := by
  obtain ⟨h1, h2⟩ := own_idx hn
  have := n.toInt_lt
  refine ⟨by omega, _, A, by rw [sz_new, h2], fun j hj => ?_⟩
  simp [newA, h2, hj]
theorem own_newI {a : Addr} {cA : ClassId} {ty : FieldType} {n : Int32} {i : Nat} (hn : n.toInt = i) (A : Arr Z h a (newA cA ty n) ty) (hd : defaultValue ty = .int 0) : own_AI Z h a ty i (fun _ => 0) :=
  (own_newF hn A).congr fun _ _ => hd
theorem own_newL {a : Addr} {cA : ClassId} {n : Int32} {i : Nat} (hn : n.toInt = i) (A : Arr Z h a (newA cA .long n) .long) : own_AL Z h a i (fun _ => 0) :=
  (own_newF hn A).congr fun _ _ => rfl
theorem own_Sta.keep {C n d : String} {v : Value} {ws : List Addr} (F : Sta Z h C n d v) (K : Keep h h' ws) (q : ∀ x ∈ ws, ∀ cl : Cell, h[x]? = some cl → cl.vm.isStatics = false) : Sta Z h' C n d v := by
  obtain ⟨cf, i, k, f, st, cell, h1, h2, h3, h4, h5, h6, h7⟩ := F
  refine ⟨cf, i, k, f, st, cell, h1, h2, h3, h4, K.2.1 st cell h5 (fun q' => ?_), h6, h7⟩
  have := q st q' cell h5
  rw [h6] at this; cases this
theorem own_selP {args : Array Value} {C : String} {y y' : MethodName} (hcls : y'.cls = y.cls) (hs : (Jvm.Cond.selects C y' y').before args s = true) (hi' : (Jvm.Cond.instanceMethod y').before args s = true) (hp : (Jvm.Cond.privateMethod y).before args s = true) (hi : (Jvm.Cond.instanceMethod y).before args s = true) (hy : y.cls ≠ "java/lang/invoke/MethodHandle" ∧ y.cls ≠ "java/lang/invoke/VarHandle") : (Jvm.Cond.selects y.cls y y).before args s = true := by
  obtain ⟨mk, methM, hnamed, -⟩ := Cond.instanceMethod_spec hi'
  obtain ⟨kr, hk, hni⟩ := notFace_of_selects hs mk hnamed
  have hc := findClass_of_methodNamed hnamed
  rw [hcls] at hc
  exact selects_self_of_private hc hk hni (Cond.privateMethod_at hp) hi hy
end Own
theorem d3_0 : decode jdk_29_method_65_code 0 = .ok (.iload_n 0, 1) := by decide +kernel
theorem d3_1 : decode jdk_29_method_65_code 1 = .ok (.iload_n 1, 1) := by decide +kernel
theorem d3_2 : decode jdk_29_method_65_code 2 = .ok (.if_icmp .lt 7, 3) := by decide +kernel
theorem d3_5 : decode jdk_29_method_65_code 5 = .ok (.iload_n 0, 1) := by decide +kernel
theorem d3_6 : decode jdk_29_method_65_code 6 = .ok (.goto 4, 3) := by decide +kernel
theorem d3_9 : decode jdk_29_method_65_code 9 = .ok (.iload_n 1, 1) := by decide +kernel
theorem d3_10 : decode jdk_29_method_65_code 10 = .ok (.ireturn, 1) := by decide +kernel
theorem ef_3 (m : MethodId) (x0 : Int32) (x1 : Int32) : entryFrame m #[(.int x0), (.int x1)] 2 = mkF m 0 #[.val (.int x0), .val (.int x1)] [] := by first | (simp [entryFrame, mkF, argsToLocals, Value.category]; done) | rfl
def own_max (p0 : Int32) (p1 : Int32) : Int32 := (if p0 < p1 then p1 else p0)
theorem own_eq_own_max (p0 : Int32) (p1 : Int32) : own_max p0 p1 = (if p0 < p1 then p1 else p0) := rfl
def Q3 (Z : State) (p0 : Int32) (p1 : Int32) (h0 : Heap) (n0 : Nat) (rv_ : Option Value) (h : Heap) (LL_ : List Loc) : Prop := rv_ = some (.int (own_max p0 p1)) ∧ Fr n0 LL_ ∧ h = h0
set_option maxRecDepth 65536 in
set_option maxHeartbeats 40000000 in
theorem rm3 (l : Launch) (Z : State) (a0 : Array Value) (hw : ∀ d ∈ tables_1, d.before a0 Z = true) (ws : List Jvm.Cond) (p0 : Int32) (p1 : Int32) (h0 : Heap) (n0 : Nat) :
    MetFree l (⟨"java/lang/Math", "max", "(II)I"⟩ : MethodName) (head1 (Jvm.Cond.code (⟨"java/lang/Math", "max", "(II)I"⟩ : MethodName) jdk_29_method_65_code 2 (some .int) :: ws) ({ frames := 0, cells := 0, slots := 0, locals := 0 } : Room)) (fun aa UU => aa = #[(.int p0), (.int p1)] ∧ Z.Warmed39 UU.vm ∧ UU.heap = h0) (fun _ _ _ _ _ => True) (fun _ UU oo UV => ∃ vv LL, oo = .returned vv ∧ Q3 Z p0 p1 h0 n0 vv UV.heap LL ∧ FrameEnd UU oo UV LL ({ frames := 0, cells := 0, slots := 0, locals := 0 } : Room).cells ({ frames := 0, cells := 0, slots := 0, locals := 0 } : Room).slots) := by
  refine MetFree.of_bodySF (Jvm.Free.JP.mathPlain rfl (by decide +kernel)) hisR ?_
  intro p e s m args below meth c s₁ Bd hml0 hP hK
  obtain ⟨rfl, hZ, hh⟩ := hP
  have hx := Bd.exec
  have hby := Bd.bytes
  have hml : c.maxLocals = 2 := hml0
  have hown : s.vm.findClass "java/lang/Math" = some m.cls := findClass_of_methodNamed Bd.named
  have hnm := (name_of_methodNamed Bd.named Bd.method).1
  have X0 : Stand p l e ({ frames := 0, cells := 0, slots := 0, locals := 0 } : Room) s m #[(.int p0), (.int p1)] below meth c s₁ [] 0 0 := Stand.of_body Bd
  have e0 : s₁.heap = h0 := by rw [← hh, Bd.state]; rfl
  have N0 := Fr.nil n0
  have k0 : ∀ tg_, Steps p.tables e below (s₁.setTop (mkF m 0 #[.val (.int p0), .val (.int p1)] [])) tg_ → Steps p.tables e below (s₁.setTop (entryFrame m #[(.int p0), (.int p1)] 2)) tg_ := fun tg_ k => castTop (ef_3 m p0 p1) k
  have k1 : ∀ tg_, Steps p.tables e below (s₁.setTop (mkF m 2 #[.val (.int p0), .val (.int p1)] [(.int p1), (.int p0)])) tg_ → Steps p.tables e below (s₁.setTop (entryFrame m #[(.int p0), (.int p1)] 2)) tg_ := by
    intro tg_ kt
    refine k0 tg_ ?_
    refine XS.iloadN X0.here hx rfl (hb hby d3_0) rfl ?_
    show Steps p.tables e below (s₁.setTop (mkF m 1 #[.val (.int p0), .val (.int p1)] [(.int p0)])) _
    refine XS.iloadN X0.here hx rfl (hb hby d3_1) rfl ?_
    show Steps p.tables e below (s₁.setTop (mkF m 2 #[.val (.int p0), .val (.int p1)] [(.int p1), (.int p0)])) _
    exact kt
  by_cases hc2_2 : p0 < p1
  · have k3 : ∀ tg_, Steps p.tables e below (s₁.setTop (mkF m 10 #[.val (.int p0), .val (.int p1)] [(.int p1)])) tg_ → Steps p.tables e below (s₁.setTop (entryFrame m #[(.int p0), (.int p1)] 2)) tg_ := by
      intro tg_ kt
      refine k1 tg_ ?_
      refine XS.icmpYes X0.here hx rfl (pc0 := 2) (pc' := 9) rfl (hb hby d3_2) rfl (tlt hc2_2).1 (by decide) (by decide) ?_
      show Steps p.tables e below (s₁.setTop (mkF m 9 #[.val (.int p0), .val (.int p1)] [])) _
      refine XS.iloadN X0.here hx rfl (hb hby d3_9) rfl ?_
      show Steps p.tables e below (s₁.setTop (mkF m 10 #[.val (.int p0), .val (.int p1)] [(.int p1)])) _
      exact kt
    obtain ⟨fs, hr, hrun, hended, hW, hsame⟩ := X0.leave (v := some (.int p1)) (fun h => by rw [Bd.returns] at h; cases h)
    refine ⟨_, _, k3 _ (retI X0 hx Bd.returns (hb hby d3_10) hr), hrun, hended, _, _, rfl, ?_, ⟨_, rfl⟩, hW, hsame.mono (by decide) (by decide)⟩
    show Q3 Z p0 p1 h0 n0 _ s₁.heap _
    rw [e0]
    exact ⟨(by rw [own_eq_own_max]; rw [if_pos hc2_2]), N0, rfl⟩
  · have k4 : ∀ tg_, Steps p.tables e below (s₁.setTop (mkF m 10 #[.val (.int p0), .val (.int p1)] [(.int p0)])) tg_ → Steps p.tables e below (s₁.setTop (entryFrame m #[(.int p0), (.int p1)] 2)) tg_ := by
      intro tg_ kt
      refine k1 tg_ ?_
      refine XS.icmpNo X0.here hx rfl (hb hby d3_2) rfl (flt hc2_2).1 ?_
      show Steps p.tables e below (s₁.setTop (mkF m 5 #[.val (.int p0), .val (.int p1)] [])) _
      refine XS.iloadN X0.here hx rfl (hb hby d3_5) rfl ?_
      show Steps p.tables e below (s₁.setTop (mkF m 6 #[.val (.int p0), .val (.int p1)] [(.int p0)])) _
      refine XS.goto X0.here hx rfl (pc0 := 6) (pc' := 10) rfl (hb hby d3_6) (by decide) (by decide) ?_
      show Steps p.tables e below (s₁.setTop (mkF m 10 #[.val (.int p0), .val (.int p1)] [(.int p0)])) _
      exact kt
    obtain ⟨fs, hr, hrun, hended, hW, hsame⟩ := X0.leave (v := some (.int p0)) (fun h => by rw [Bd.returns] at h; cases h)
    refine ⟨_, _, k4 _ (retI X0 hx Bd.returns (hb hby d3_10) hr), hrun, hended, _, _, rfl, ?_, ⟨_, rfl⟩, hW, hsame.mono (by decide) (by decide)⟩
    show Q3 Z p0 p1 h0 n0 _ s₁.heap _
    rw [e0]
    exact ⟨(by rw [own_eq_own_max]; rw [if_neg hc2_2]), N0, rfl⟩

def own_ren (A : Nat → Nat) : Nat → (Nat → Nat) × Nat
  | 0 => (fun _ => 0, 0)
  | x + 1 => if (own_ren A x).1 (A x) = 0 then (fun v => if v = A x then (own_ren A x).2 + 1 else (own_ren A x).1 v, (own_ren A x).2 + 1) else own_ren A x
def own_out (A : Nat → Nat) (i : Nat) : Nat := (own_ren A (i + 1)).1 (A i) - 1
theorem own_ren_le (A : Nat → Nat) : ∀ x, (own_ren A x).2 ≤ x ∧ ∀ v, (own_ren A x).1 v ≤ x
  | 0 => ⟨Nat.le_refl _, fun _ => Nat.le_refl _⟩
  | x + 1 => by
    have ih := own_ren_le A x
    simp only [own_ren]
    split
    · refine ⟨by show (own_ren A x).2 + 1 ≤ x + 1; omega, fun v => ?_⟩
      show (if v = A x then (own_ren A x).2 + 1 else (own_ren A x).1 v) ≤ x + 1
      split
      · omega
      · have := ih.2 v; omega
    · exact ⟨by omega, fun v => by have := ih.2 v; omega⟩
theorem own_ren_pos (A : Nat → Nat) (x : Nat) : 1 ≤ (own_ren A (x + 1)).1 (A x) := by
  simp only [own_ren]
  split
  · show 1 ≤ (if A x = A x then (own_ren A x).2 + 1 else (own_ren A x).1 (A x))
    rw [if_pos rfl]; omega
  · omega

theorem d1_0 : decode prog_20_method_3_code 0 = .ok (.aload_n 0, 1) := by decide +kernel
theorem d1_1 : decode prog_20_method_3_code 1 = .ok (.arraylength, 1) := by decide +kernel
theorem d1_2 : decode prog_20_method_3_code 2 = .ok (.newarray .int, 2) := by decide +kernel
theorem d1_4 : decode prog_20_method_3_code 4 = .ok (.astore_n 1, 1) := by decide +kernel
theorem d1_5 : decode prog_20_method_3_code 5 = .ok (.aload_n 0, 1) := by decide +kernel
theorem d1_6 : decode prog_20_method_3_code 6 = .ok (.arraylength, 1) := by decide +kernel
theorem d1_7 : decode prog_20_method_3_code 7 = .ok (.newarray .int, 2) := by decide +kernel
theorem d1_9 : decode prog_20_method_3_code 9 = .ok (.astore_n 2, 1) := by decide +kernel
theorem d1_10 : decode prog_20_method_3_code 10 = .ok (.iconst 0, 1) := by decide +kernel
theorem d1_11 : decode prog_20_method_3_code 11 = .ok (.istore_n 3, 1) := by decide +kernel
theorem d1_12 : decode prog_20_method_3_code 12 = .ok (.iconst 0, 1) := by decide +kernel
theorem d1_13 : decode prog_20_method_3_code 13 = .ok (.istore 4, 2) := by decide +kernel
theorem d1_15 : decode prog_20_method_3_code 15 = .ok (.iload 4, 2) := by decide +kernel
theorem d1_17 : decode prog_20_method_3_code 17 = .ok (.aload_n 0, 1) := by decide +kernel
theorem d1_18 : decode prog_20_method_3_code 18 = .ok (.arraylength, 1) := by decide +kernel
theorem d1_19 : decode prog_20_method_3_code 19 = .ok (.if_icmp .ge 40, 3) := by decide +kernel
theorem d1_22 : decode prog_20_method_3_code 22 = .ok (.aload_n 0, 1) := by decide +kernel
theorem d1_23 : decode prog_20_method_3_code 23 = .ok (.iload 4, 2) := by decide +kernel
theorem d1_25 : decode prog_20_method_3_code 25 = .ok (.iaload, 1) := by decide +kernel
theorem d1_26 : decode prog_20_method_3_code 26 = .ok (.istore 5, 2) := by decide +kernel
theorem d1_28 : decode prog_20_method_3_code 28 = .ok (.aload_n 1, 1) := by decide +kernel
theorem d1_29 : decode prog_20_method_3_code 29 = .ok (.iload 5, 2) := by decide +kernel
theorem d1_31 : decode prog_20_method_3_code 31 = .ok (.iaload, 1) := by decide +kernel
theorem d1_32 : decode prog_20_method_3_code 32 = .ok (.ifCond .ne 11, 3) := by decide +kernel
theorem d1_35 : decode prog_20_method_3_code 35 = .ok (.aload_n 1, 1) := by decide +kernel
theorem d1_36 : decode prog_20_method_3_code 36 = .ok (.iload 5, 2) := by decide +kernel
theorem d1_38 : decode prog_20_method_3_code 38 = .ok (.iinc 3 1, 3) := by decide +kernel
theorem d1_41 : decode prog_20_method_3_code 41 = .ok (.iload_n 3, 1) := by decide +kernel
theorem d1_42 : decode prog_20_method_3_code 42 = .ok (.iastore, 1) := by decide +kernel
theorem d1_43 : decode prog_20_method_3_code 43 = .ok (.aload_n 2, 1) := by decide +kernel
theorem d1_44 : decode prog_20_method_3_code 44 = .ok (.iload 4, 2) := by decide +kernel
theorem d1_46 : decode prog_20_method_3_code 46 = .ok (.aload_n 1, 1) := by decide +kernel
theorem d1_47 : decode prog_20_method_3_code 47 = .ok (.iload 5, 2) := by decide +kernel
theorem d1_49 : decode prog_20_method_3_code 49 = .ok (.iaload, 1) := by decide +kernel
theorem d1_50 : decode prog_20_method_3_code 50 = .ok (.iconst 1, 1) := by decide +kernel
theorem d1_51 : decode prog_20_method_3_code 51 = .ok (.isub, 1) := by decide +kernel
theorem d1_52 : decode prog_20_method_3_code 52 = .ok (.iastore, 1) := by decide +kernel
theorem d1_53 : decode prog_20_method_3_code 53 = .ok (.iinc 4 1, 3) := by decide +kernel
theorem d1_56 : decode prog_20_method_3_code 56 = .ok (.goto (-41), 3) := by decide +kernel
theorem d1_59 : decode prog_20_method_3_code 59 = .ok (.aload_n 2, 1) := by decide +kernel
theorem d1_60 : decode prog_20_method_3_code 60 = .ok (.areturn, 1) := by decide +kernel
theorem pn_1 : plainName "com/example/coterie/coterie/methods/Communities" = true := by first | (simp [plainName, overriddenIn]; done) | decide +kernel
theorem ef_1 (m : MethodId) (x0 : Addr) : entryFrame m #[(.ref x0)] 6 = mkF m 0 #[.val (.ref x0), .unset, .unset, .unset, .unset, .unset] [] := by first | (simp [entryFrame, mkF, argsToLocals, Value.category]; done) | rfl
def Q1 (Z : State) (a : Addr) (n : Nat) (nn : Int32) (fa : Nat → Int32) (A : Nat → Nat) (h0 : Heap) (n0 : Nat) (rv_ : Option Value) (h : Heap) (LL_ : List Loc) : Prop := True ∧ Fr n0 LL_ ∧ Keep h0 h [] ∧ (∃ (b : Addr) (g : Nat → Int32), rv_ = some (.ref b) ∧ own_AI Z h b .int n g ∧ (∀ i, i < n → (g i).toInt = ((own_out A i : Nat) : Int)) ∧ n0 ≤ b ∧ h0.size ≤ b)
set_option maxRecDepth 65536 in
set_option maxHeartbeats 40000000 in
theorem rm1 (l : Launch) (Z : State) (a0 : Array Value) (hw : ∀ d ∈ tables_1, d.before a0 Z = true) (ws : List Jvm.Cond) (a : Addr) (n : Nat) (nn : Int32) (fa : Nat → Int32) (A : Nat → Nat) (h0 : Heap) (n0 : Nat) (Z0 : n0 ≤ h0.size) (V_a : own_AI Z h0 a .int n fa) (hnn : nn.toInt = (n : Int)) (hn4 : n ≤ 4) (hA : ∀ i, i < n → (fa i).toInt = ((A i : Nat) : Int) ∧ A i < n) :
    MetFree l (⟨"com/example/coterie/coterie/methods/Communities", "renumbered", "([I)[I"⟩ : MethodName) (head1 (Jvm.Cond.code (⟨"com/example/coterie/coterie/methods/Communities", "renumbered", "([I)[I"⟩ : MethodName) prog_20_method_3_code 6 (some (.array .int)) :: ws) ({ frames := 0, cells := 2, slots := 8, locals := 0 } : Room)) (fun aa UU => aa = #[(.ref a)] ∧ Z.Warmed39 UU.vm ∧ UU.heap = h0) (fun _ _ _ _ _ => True) (fun _ UU oo UV => ∃ vv LL, oo = .returned vv ∧ Q1 Z a n nn fa A h0 n0 vv UV.heap LL ∧ FrameEnd UU oo UV LL ({ frames := 0, cells := 2, slots := 8, locals := 0 } : Room).cells ({ frames := 0, cells := 2, slots := 8, locals := 0 } : Room).slots) := by
  refine MetFree.of_bodySF (plainFor_of_name pn_1) hisR ?_
  intro p e s m args below meth c s₁ Bd hml0 hP hK
  obtain ⟨rfl, hZ, hh⟩ := hP
  have hx := Bd.exec
  have hby := Bd.bytes
  have hml : c.maxLocals = 6 := hml0
  have hown : s.vm.findClass "com/example/coterie/coterie/methods/Communities" = some m.cls := findClass_of_methodNamed Bd.named
  have hnm := (name_of_methodNamed Bd.named Bd.method).1
  have X0 : Stand p l e ({ frames := 0, cells := 2, slots := 8, locals := 0 } : Room) s m #[(.ref a)] below meth c s₁ [] 0 0 := Stand.of_body Bd
  have e0 : s₁.heap = h0 := by rw [← hh, Bd.state]; rfl
  have N0 := Fr.nil n0
  have k0 : ∀ tg_, Steps p.tables e below (s₁.setTop (mkF m 0 #[.val (.ref a), .unset, .unset, .unset, .unset, .unset] [])) tg_ → Steps p.tables e below (s₁.setTop (entryFrame m #[(.ref a)] 6)) tg_ := fun tg_ k => castTop (ef_1 m a) k
  obtain ⟨T5, h5, kA5, X5, e5, E5, A5, st5⟩ := newP X0 hx hZ (hw _ (List.mem_of_getElem? (i := 0) rfl)) e0 (g := (mkF m 2 #[.val (.ref a), .unset, .unset, .unset, .unset, .unset] [(.int nn)])) rfl (hb hby d1_2) rfl (own_idx hnn).1 (cap := 4) (by rw [(own_idx hnn).2]; omega) (by decide) (by decide) (by decide)
  obtain ⟨b5, g5⟩ : ∃ z, z = h0.size := ⟨_, rfl⟩
  rw [← g5] at A5 st5
  have ne_a_b5 : a ≠ b5 := Nat.ne_of_lt (Nat.lt_of_lt_of_le (V_a).lt (Nat.le_of_eq g5.symm))
  have ge_b5 : n0 ≤ b5 := Nat.le_trans Z0 (Nat.le_of_eq g5.symm)
  have sz_b5 : h0.size ≤ b5 := Nat.le_trans (Keep.refl h0 []).1 (Nat.le_of_eq g5.symm)
  have V5 : own_AI Z h5 b5 .int n (fun _ => 0) := own_newI hnn A5 rfl
  have f6 := (V_a.keep ((Keep.refl _ []).ext E5) nin0)
  obtain ⟨T7, h7, kA7, X7, e7, E7, A7, st7⟩ := newP X5 hx hZ (hw _ (List.mem_of_getElem? (i := 0) rfl)) e5 (g := (mkF m 7 #[.val (.ref a), .val (.ref b5), .unset, .unset, .unset, .unset] [(.int nn)])) rfl (hb hby d1_7) rfl (own_idx hnn).1 (cap := 4) (by rw [(own_idx hnn).2]; omega) (by decide) (by decide) (by decide)
  obtain ⟨b7, g7⟩ : ∃ z, z = h5.size := ⟨_, rfl⟩
  rw [← g7] at A7 st7
  have ne_a_b7 : a ≠ b7 := Nat.ne_of_lt (Nat.lt_of_lt_of_le (f6).lt (Nat.le_of_eq g7.symm))
  have ne_b5_b7 : b5 ≠ b7 := Nat.ne_of_lt (Nat.lt_of_lt_of_le (V5).lt (Nat.le_of_eq g7.symm))
  have f8 := (Nat.le_trans Z0 ((Keep.refl _ []).ext E5).1)
  have ge_b7 : n0 ≤ b7 := Nat.le_trans f8 (Nat.le_of_eq g7.symm)
  have f9 := ((Keep.refl h0 []).trans ((Keep.refl _ []).ext E5) all0)
  have sz_b7 : h0.size ≤ b7 := Nat.le_trans f9.1 (Nat.le_of_eq g7.symm)
  have V7 : own_AI Z h7 b7 .int n (fun _ => 0) := own_newI hnn A7 rfl
  have k10 : ∀ tg_, Steps p.tables e below (T7.setTop (mkF m 15 #[.val (.ref a), .val (.ref b5), .val (.ref b7), .val (.int (0 : Int32)), .val (.int (0 : Int32)), .unset] [])) tg_ → Steps p.tables e below (s₁.setTop (entryFrame m #[(.ref a)] 6)) tg_ := by
    intro tg_ kt
    refine k0 tg_ ?_
    refine XS.aloadN X0.here hx rfl (hb hby d1_0) rfl rfl ?_
    show Steps p.tables e below (s₁.setTop (mkF m 1 #[.val (.ref a), .unset, .unset, .unset, .unset, .unset] [(.ref a)])) _
    refine own_len X0 hx hZ e0 V_a (z := nn) hnn (g := (mkF m 1 #[.val (.ref a), .unset, .unset, .unset, .unset, .unset] [(.ref a)])) rfl rfl (hb hby d1_1) _ ?_
    show Steps p.tables e below (s₁.setTop (mkF m 2 #[.val (.ref a), .unset, .unset, .unset, .unset, .unset] [(.int nn)])) _
    refine st5 _ ?_
    show Steps p.tables e below (T5.setTop (mkF m 4 #[.val (.ref a), .unset, .unset, .unset, .unset, .unset] [(.ref b5)])) _
    refine XS.astoreN X5.here hx rfl (hb hby d1_4) rfl rfl (l' := #[.val (.ref a), .val (.ref b5), .unset, .unset, .unset, .unset]) rfl ?_
    show Steps p.tables e below (T5.setTop (mkF m 5 #[.val (.ref a), .val (.ref b5), .unset, .unset, .unset, .unset] [])) _
    refine XS.aloadN X5.here hx rfl (hb hby d1_5) rfl rfl ?_
    show Steps p.tables e below (T5.setTop (mkF m 6 #[.val (.ref a), .val (.ref b5), .unset, .unset, .unset, .unset] [(.ref a)])) _
    refine own_len X5 hx hZ e5 f6 (z := nn) hnn (g := (mkF m 6 #[.val (.ref a), .val (.ref b5), .unset, .unset, .unset, .unset] [(.ref a)])) rfl rfl (hb hby d1_6) _ ?_
    show Steps p.tables e below (T5.setTop (mkF m 7 #[.val (.ref a), .val (.ref b5), .unset, .unset, .unset, .unset] [(.int nn)])) _
    refine st7 _ ?_
    show Steps p.tables e below (T7.setTop (mkF m 9 #[.val (.ref a), .val (.ref b5), .unset, .unset, .unset, .unset] [(.ref b7)])) _
    refine XS.astoreN X7.here hx rfl (hb hby d1_9) rfl rfl (l' := #[.val (.ref a), .val (.ref b5), .val (.ref b7), .unset, .unset, .unset]) rfl ?_
    show Steps p.tables e below (T7.setTop (mkF m 10 #[.val (.ref a), .val (.ref b5), .val (.ref b7), .unset, .unset, .unset] [])) _
    refine XS.iconst X7.here hx rfl (hb hby d1_10) ?_
    show Steps p.tables e below (T7.setTop (mkF m 11 #[.val (.ref a), .val (.ref b5), .val (.ref b7), .unset, .unset, .unset] [(.int (0 : Int32))])) _
    refine XS.istoreN X7.here hx rfl (hb hby d1_11) rfl (l' := #[.val (.ref a), .val (.ref b5), .val (.ref b7), .val (.int (0 : Int32)), .unset, .unset]) rfl ?_
    show Steps p.tables e below (T7.setTop (mkF m 12 #[.val (.ref a), .val (.ref b5), .val (.ref b7), .val (.int (0 : Int32)), .unset, .unset] [])) _
    refine XS.iconst X7.here hx rfl (hb hby d1_12) ?_
    show Steps p.tables e below (T7.setTop (mkF m 13 #[.val (.ref a), .val (.ref b5), .val (.ref b7), .val (.int (0 : Int32)), .unset, .unset] [(.int (0 : Int32))])) _
    refine XS.istore X7.here hx rfl (hb hby d1_13) rfl (l' := #[.val (.ref a), .val (.ref b5), .val (.ref b7), .val (.int (0 : Int32)), .val (.int (0 : Int32)), .unset]) rfl ?_
    show Steps p.tables e below (T7.setTop (mkF m 15 #[.val (.ref a), .val (.ref b5), .val (.ref b7), .val (.int (0 : Int32)), .val (.int (0 : Int32)), .unset] [])) _
    exact kt
  have lp11 : ∀ (r x11 : Nat) (Ta11 : State) (La11 : List Loc) (Ha11 : Heap) (nxa11 : Int32) (ia11 : Int32) (ca11 : Slot) (fna11 : Nat → Int32) (foa11 : Nat → Int32), x11 + r = n → Stand p l e ({ frames := 0, cells := 2, slots := 8, locals := 0 } : Room) s m #[(.ref a)] below meth c Ta11 La11 2 8 → Ta11.heap = Ha11 → Fr n0 La11 → n0 ≤ Ha11.size → own_AI Z Ha11 a .int n fa → own_AI Z Ha11 b5 .int n fna11 → own_AI Z Ha11 b7 .int n foa11 → (ia11.toInt = ((x11 : Nat) : Int)) → (nxa11.toInt = (((own_ren A x11).2 : Nat) : Int)) → ((∀ v, v < n → (fna11 v).toInt = (((own_ren A x11).1 v : Nat) : Int))) → ((∀ i, i < x11 → (foa11 i).toInt = ((own_out A i : Nat) : Int))) → (One ca11) → Keep h0 Ha11 [] → ∃ (Tb11 : State) (Lb11 : List Loc) (Hb11 : Heap) (nxb11 : Int32) (ib11 : Int32) (cb11 : Slot) (fnb11 : Nat → Int32) (fob11 : Nat → Int32), Stand p l e ({ frames := 0, cells := 2, slots := 8, locals := 0 } : Room) s m #[(.ref a)] below meth c Tb11 Lb11 2 8 ∧ Tb11.heap = Hb11 ∧ Fr n0 Lb11 ∧ n0 ≤ Hb11.size ∧ own_AI Z Hb11 a .int n fa ∧ own_AI Z Hb11 b5 .int n fnb11 ∧ own_AI Z Hb11 b7 .int n fob11 ∧ (ib11.toInt = ((n : Nat) : Int)) ∧ (nxb11.toInt = (((own_ren A n).2 : Nat) : Int)) ∧ ((∀ v, v < n → (fnb11 v).toInt = (((own_ren A n).1 v : Nat) : Int))) ∧ ((∀ i, i < n → (fob11 i).toInt = ((own_out A i : Nat) : Int))) ∧ (One cb11) ∧ Keep h0 Hb11 [] ∧ ∀ tg_, Steps p.tables e below (Tb11.setTop (mkF m 59 #[.val (.ref a), .val (.ref b5), .val (.ref b7), .val (.int nxb11), .val (.int ib11), cb11] [])) tg_ → Steps p.tables e below (Ta11.setTop (mkF m 15 #[.val (.ref a), .val (.ref b5), .val (.ref b7), .val (.int nxa11), .val (.int ia11), ca11] [])) tg_ := by
    intro r
    induction r with
    | zero =>
      intro x11 Ta11 La11 Ha11 nxa11 ia11 ca11 fna11 foa11 hxr11 X11 e11 N11 z11 j0_11 j1_11 j2_11 pr0_11 pr1_11 pr2_11 pr3_11 pr4_11 kk11
      have kid11 : ∀ tg_, Steps p.tables e below (Ta11.setTop (mkF m 15 #[.val (.ref a), .val (.ref b5), .val (.ref b7), .val (.int nxa11), .val (.int ia11), ca11] [])) tg_ → Steps p.tables e below (Ta11.setTop (mkF m 15 #[.val (.ref a), .val (.ref b5), .val (.ref b7), .val (.int nxa11), .val (.int ia11), ca11] [])) tg_ := fun tg_ k => k
      have hxN : x11 = n := by omega
      have hc19_12 : ¬ (ia11 < nn) := (fun q => absurd (Int32.lt_iff_toInt_lt.mp q) (by rw [pr0_11, hnn]; omega))
      have k13 : ∀ tg_, Steps p.tables e below (Ta11.setTop (mkF m 59 #[.val (.ref a), .val (.ref b5), .val (.ref b7), .val (.int nxa11), .val (.int ia11), ca11] [])) tg_ → Steps p.tables e below (Ta11.setTop (mkF m 15 #[.val (.ref a), .val (.ref b5), .val (.ref b7), .val (.int nxa11), .val (.int ia11), ca11] [])) tg_ := by
        intro tg_ kt
        refine kid11 tg_ ?_
        refine XS.iload X11.here hx rfl (hb hby d1_15) rfl ?_
        show Steps p.tables e below (Ta11.setTop (mkF m 17 #[.val (.ref a), .val (.ref b5), .val (.ref b7), .val (.int nxa11), .val (.int ia11), ca11] [(.int ia11)])) _
        refine XS.aloadN X11.here hx rfl (hb hby d1_17) rfl rfl ?_
        show Steps p.tables e below (Ta11.setTop (mkF m 18 #[.val (.ref a), .val (.ref b5), .val (.ref b7), .val (.int nxa11), .val (.int ia11), ca11] [(.ref a), (.int ia11)])) _
        refine own_len X11 hx hZ e11 j0_11 (z := nn) hnn (g := (mkF m 18 #[.val (.ref a), .val (.ref b5), .val (.ref b7), .val (.int nxa11), .val (.int ia11), ca11] [(.ref a), (.int ia11)])) rfl rfl (hb hby d1_18) _ ?_
        show Steps p.tables e below (Ta11.setTop (mkF m 19 #[.val (.ref a), .val (.ref b5), .val (.ref b7), .val (.int nxa11), .val (.int ia11), ca11] [(.int nn), (.int ia11)])) _
        refine XS.icmpYes X11.here hx rfl (pc0 := 19) (pc' := 59) rfl (hb hby d1_19) rfl (flt hc19_12).2.1 (by decide) (by decide) ?_
        show Steps p.tables e below (Ta11.setTop (mkF m 59 #[.val (.ref a), .val (.ref b5), .val (.ref b7), .val (.int nxa11), .val (.int ia11), ca11] [])) _
        exact kt
      exact ⟨Ta11, _, Ha11, nxa11, ia11, (ca11), fna11, foa11, X11, e11, N11, z11, j0_11, j1_11, j2_11, (by have q := pr0_11; rw [hxN] at q; exact q), (by have q := pr1_11; rw [hxN] at q; exact q), (by have q := pr2_11; rw [hxN] at q; exact q), (by have q := pr3_11; rw [hxN] at q; exact q), pr4_11, kk11, k13⟩
    | succ r ih =>
      intro x11 Ta11 La11 Ha11 nxa11 ia11 ca11 fna11 foa11 hxr11 X11 e11 N11 z11 j0_11 j1_11 j2_11 pr0_11 pr1_11 pr2_11 pr3_11 pr4_11 kk11
      have kid11 : ∀ tg_, Steps p.tables e below (Ta11.setTop (mkF m 15 #[.val (.ref a), .val (.ref b5), .val (.ref b7), .val (.int nxa11), .val (.int ia11), ca11] [])) tg_ → Steps p.tables e below (Ta11.setTop (mkF m 15 #[.val (.ref a), .val (.ref b5), .val (.ref b7), .val (.int nxa11), .val (.int ia11), ca11] [])) tg_ := fun tg_ k => k
      have hxN : x11 < n := by omega
      have hc19_14 : ia11 < nn := (Int32.lt_iff_toInt_lt.mpr (by rw [pr0_11, hnn]; omega))
      have k15 : ∀ tg_, Steps p.tables e below (Ta11.setTop (mkF m 32 #[.val (.ref a), .val (.ref b5), .val (.ref b7), .val (.int nxa11), .val (.int ia11), .val (.int (fa x11))] [(.int (fna11 (A x11)))])) tg_ → Steps p.tables e below (Ta11.setTop (mkF m 15 #[.val (.ref a), .val (.ref b5), .val (.ref b7), .val (.int nxa11), .val (.int ia11), ca11] [])) tg_ := by
        intro tg_ kt
        refine kid11 tg_ ?_
        refine XS.iload X11.here hx rfl (hb hby d1_15) rfl ?_
        show Steps p.tables e below (Ta11.setTop (mkF m 17 #[.val (.ref a), .val (.ref b5), .val (.ref b7), .val (.int nxa11), .val (.int ia11), ca11] [(.int ia11)])) _
        refine XS.aloadN X11.here hx rfl (hb hby d1_17) rfl rfl ?_
        show Steps p.tables e below (Ta11.setTop (mkF m 18 #[.val (.ref a), .val (.ref b5), .val (.ref b7), .val (.int nxa11), .val (.int ia11), ca11] [(.ref a), (.int ia11)])) _
        refine own_len X11 hx hZ e11 j0_11 (z := nn) hnn (g := (mkF m 18 #[.val (.ref a), .val (.ref b5), .val (.ref b7), .val (.int nxa11), .val (.int ia11), ca11] [(.ref a), (.int ia11)])) rfl rfl (hb hby d1_18) _ ?_
        show Steps p.tables e below (Ta11.setTop (mkF m 19 #[.val (.ref a), .val (.ref b5), .val (.ref b7), .val (.int nxa11), .val (.int ia11), ca11] [(.int nn), (.int ia11)])) _
        refine XS.icmpNo X11.here hx rfl (hb hby d1_19) rfl (tlt hc19_14).2.1 ?_
        show Steps p.tables e below (Ta11.setTop (mkF m 22 #[.val (.ref a), .val (.ref b5), .val (.ref b7), .val (.int nxa11), .val (.int ia11), ca11] [])) _
        refine XS.aloadN X11.here hx rfl (hb hby d1_22) rfl rfl ?_
        show Steps p.tables e below (Ta11.setTop (mkF m 23 #[.val (.ref a), .val (.ref b5), .val (.ref b7), .val (.int nxa11), .val (.int ia11), ca11] [(.ref a)])) _
        refine XS.iload X11.here hx rfl (hb hby d1_23) rfl ?_
        show Steps p.tables e below (Ta11.setTop (mkF m 25 #[.val (.ref a), .val (.ref b5), .val (.ref b7), .val (.int nxa11), .val (.int ia11), ca11] [(.int ia11), (.ref a)])) _
        refine own_ldI X11 hx hZ e11 j0_11 (i := x11) pr0_11 (by omega) rfl (g := (mkF m 25 #[.val (.ref a), .val (.ref b5), .val (.ref b7), .val (.int nxa11), .val (.int ia11), ca11] [(.int ia11), (.ref a)])) rfl rfl (hb hby d1_25) _ ?_
        show Steps p.tables e below (Ta11.setTop (mkF m 26 #[.val (.ref a), .val (.ref b5), .val (.ref b7), .val (.int nxa11), .val (.int ia11), ca11] [(.int (fa x11))])) _
        refine XS.istoreS X11.here hx rfl (hb hby d1_26) rfl rfl pr4_11 ?_
        show Steps p.tables e below (Ta11.setTop (mkF m 28 #[.val (.ref a), .val (.ref b5), .val (.ref b7), .val (.int nxa11), .val (.int ia11), .val (.int (fa x11))] [])) _
        refine XS.aloadN X11.here hx rfl (hb hby d1_28) rfl rfl ?_
        show Steps p.tables e below (Ta11.setTop (mkF m 29 #[.val (.ref a), .val (.ref b5), .val (.ref b7), .val (.int nxa11), .val (.int ia11), .val (.int (fa x11))] [(.ref b5)])) _
        refine XS.iload X11.here hx rfl (hb hby d1_29) rfl ?_
        show Steps p.tables e below (Ta11.setTop (mkF m 31 #[.val (.ref a), .val (.ref b5), .val (.ref b7), .val (.int nxa11), .val (.int ia11), .val (.int (fa x11))] [(.int (fa x11)), (.ref b5)])) _
        refine own_ldI X11 hx hZ e11 j1_11 (i := (A x11)) (hA x11 hxN).1 (hA x11 hxN).2 rfl (g := (mkF m 31 #[.val (.ref a), .val (.ref b5), .val (.ref b7), .val (.int nxa11), .val (.int ia11), .val (.int (fa x11))] [(.int (fa x11)), (.ref b5)])) rfl rfl (hb hby d1_31) _ ?_
        show Steps p.tables e below (Ta11.setTop (mkF m 32 #[.val (.ref a), .val (.ref b5), .val (.ref b7), .val (.int nxa11), .val (.int ia11), .val (.int (fa x11))] [(.int (fna11 (A x11)))])) _
        exact kt
      by_cases hc32_16 : (fna11 (A x11)) = (0 : Int32)
      · obtain ⟨T17, h17, X17, e17, W17, V17, st17⟩ := own_stI X11 hx hZ e11 j1_11 (i := (A x11)) (hA x11 hxN).1 (hA x11 hxN).2 (g := (mkF m 42 #[.val (.ref a), .val (.ref b5), .val (.ref b7), .val (.int (nxa11 + (1 : Int32))), .val (.int ia11), .val (.int (fa x11))] [(.int (nxa11 + (1 : Int32))), (.int (fa x11)), (.ref b5)])) rfl rfl (hb hby d1_42)
        have N17 := Fr.snoc X17 N11 ge_b5
        obtain ⟨f17, hf17⟩ : ∃ z : Nat → Int32, z = (own_upd fna11 (A x11) (nxa11 + (1 : Int32))) := ⟨_, rfl⟩
        rw [← hf17] at V17
        have f18 := (j2_11.keep (Keep.of_wr W17) (ninS (Ne.symm ne_b5_b7) nin0))
        obtain ⟨T19, h19, X19, e19, W19, V19, st19⟩ := own_stI X17 hx hZ e17 f18 (i := x11) pr0_11 (by omega) (g := (mkF m 52 #[.val (.ref a), .val (.ref b5), .val (.ref b7), .val (.int (nxa11 + (1 : Int32))), .val (.int ia11), .val (.int (fa x11))] [(.int ((f17 (A x11)) - (1 : Int32))), (.int ia11), (.ref b7)])) rfl rfl (hb hby d1_52)
        have N19 := Fr.snoc X19 N17 ge_b7
        obtain ⟨f19, hf19⟩ : ∃ z : Nat → Int32, z = (own_upd foa11 x11 ((f17 (A x11)) - (1 : Int32))) := ⟨_, rfl⟩
        rw [← hf19] at V19
        have k20 : ∀ tg_, Steps p.tables e below (T19.setTop (mkF m 15 #[.val (.ref a), .val (.ref b5), .val (.ref b7), .val (.int (nxa11 + (1 : Int32))), .val (.int (ia11 + (1 : Int32))), .val (.int (fa x11))] [])) tg_ → Steps p.tables e below (Ta11.setTop (mkF m 15 #[.val (.ref a), .val (.ref b5), .val (.ref b7), .val (.int nxa11), .val (.int ia11), ca11] [])) tg_ := by
          intro tg_ kt
          refine k15 tg_ ?_
          refine XS.ifNo X11.here hx rfl (hb hby d1_32) rfl ((if0 _ _).trans (teq hc32_16).2) ?_
          show Steps p.tables e below (Ta11.setTop (mkF m 35 #[.val (.ref a), .val (.ref b5), .val (.ref b7), .val (.int nxa11), .val (.int ia11), .val (.int (fa x11))] [])) _
          refine XS.aloadN X11.here hx rfl (hb hby d1_35) rfl rfl ?_
          show Steps p.tables e below (Ta11.setTop (mkF m 36 #[.val (.ref a), .val (.ref b5), .val (.ref b7), .val (.int nxa11), .val (.int ia11), .val (.int (fa x11))] [(.ref b5)])) _
          refine XS.iload X11.here hx rfl (hb hby d1_36) rfl ?_
          show Steps p.tables e below (Ta11.setTop (mkF m 38 #[.val (.ref a), .val (.ref b5), .val (.ref b7), .val (.int nxa11), .val (.int ia11), .val (.int (fa x11))] [(.int (fa x11)), (.ref b5)])) _
          refine XS.iinc X11.here hx rfl (hb hby d1_38) rfl (l' := #[.val (.ref a), .val (.ref b5), .val (.ref b7), .val (.int (nxa11 + (1 : Int32))), .val (.int ia11), .val (.int (fa x11))]) rfl ?_
          show Steps p.tables e below (Ta11.setTop (mkF m 41 #[.val (.ref a), .val (.ref b5), .val (.ref b7), .val (.int (nxa11 + (1 : Int32))), .val (.int ia11), .val (.int (fa x11))] [(.int (fa x11)), (.ref b5)])) _
          refine XS.iloadN X11.here hx rfl (hb hby d1_41) rfl ?_
          show Steps p.tables e below (Ta11.setTop (mkF m 42 #[.val (.ref a), .val (.ref b5), .val (.ref b7), .val (.int (nxa11 + (1 : Int32))), .val (.int ia11), .val (.int (fa x11))] [(.int (nxa11 + (1 : Int32))), (.int (fa x11)), (.ref b5)])) _
          refine st17 _ ?_
          show Steps p.tables e below (T17.setTop (mkF m 43 #[.val (.ref a), .val (.ref b5), .val (.ref b7), .val (.int (nxa11 + (1 : Int32))), .val (.int ia11), .val (.int (fa x11))] [])) _
          refine XS.aloadN X17.here hx rfl (hb hby d1_43) rfl rfl ?_
          show Steps p.tables e below (T17.setTop (mkF m 44 #[.val (.ref a), .val (.ref b5), .val (.ref b7), .val (.int (nxa11 + (1 : Int32))), .val (.int ia11), .val (.int (fa x11))] [(.ref b7)])) _
          refine XS.iload X17.here hx rfl (hb hby d1_44) rfl ?_
          show Steps p.tables e below (T17.setTop (mkF m 46 #[.val (.ref a), .val (.ref b5), .val (.ref b7), .val (.int (nxa11 + (1 : Int32))), .val (.int ia11), .val (.int (fa x11))] [(.int ia11), (.ref b7)])) _
          refine XS.aloadN X17.here hx rfl (hb hby d1_46) rfl rfl ?_
          show Steps p.tables e below (T17.setTop (mkF m 47 #[.val (.ref a), .val (.ref b5), .val (.ref b7), .val (.int (nxa11 + (1 : Int32))), .val (.int ia11), .val (.int (fa x11))] [(.ref b5), (.int ia11), (.ref b7)])) _
          refine XS.iload X17.here hx rfl (hb hby d1_47) rfl ?_
          show Steps p.tables e below (T17.setTop (mkF m 49 #[.val (.ref a), .val (.ref b5), .val (.ref b7), .val (.int (nxa11 + (1 : Int32))), .val (.int ia11), .val (.int (fa x11))] [(.int (fa x11)), (.ref b5), (.int ia11), (.ref b7)])) _
          refine own_ldI X17 hx hZ e17 V17 (i := (A x11)) (hA x11 hxN).1 (hA x11 hxN).2 rfl (g := (mkF m 49 #[.val (.ref a), .val (.ref b5), .val (.ref b7), .val (.int (nxa11 + (1 : Int32))), .val (.int ia11), .val (.int (fa x11))] [(.int (fa x11)), (.ref b5), (.int ia11), (.ref b7)])) rfl rfl (hb hby d1_49) _ ?_
          show Steps p.tables e below (T17.setTop (mkF m 50 #[.val (.ref a), .val (.ref b5), .val (.ref b7), .val (.int (nxa11 + (1 : Int32))), .val (.int ia11), .val (.int (fa x11))] [(.int (f17 (A x11))), (.int ia11), (.ref b7)])) _
          refine XS.iconst X17.here hx rfl (hb hby d1_50) ?_
          show Steps p.tables e below (T17.setTop (mkF m 51 #[.val (.ref a), .val (.ref b5), .val (.ref b7), .val (.int (nxa11 + (1 : Int32))), .val (.int ia11), .val (.int (fa x11))] [(.int (1 : Int32)), (.int (f17 (A x11))), (.int ia11), (.ref b7)])) _
          refine XS.isub X17.here hx rfl (hb hby d1_51) rfl ?_
          show Steps p.tables e below (T17.setTop (mkF m 52 #[.val (.ref a), .val (.ref b5), .val (.ref b7), .val (.int (nxa11 + (1 : Int32))), .val (.int ia11), .val (.int (fa x11))] [(.int ((f17 (A x11)) - (1 : Int32))), (.int ia11), (.ref b7)])) _
          refine st19 _ ?_
          show Steps p.tables e below (T19.setTop (mkF m 53 #[.val (.ref a), .val (.ref b5), .val (.ref b7), .val (.int (nxa11 + (1 : Int32))), .val (.int ia11), .val (.int (fa x11))] [])) _
          refine XS.iinc X19.here hx rfl (hb hby d1_53) rfl (l' := #[.val (.ref a), .val (.ref b5), .val (.ref b7), .val (.int (nxa11 + (1 : Int32))), .val (.int (ia11 + (1 : Int32))), .val (.int (fa x11))]) rfl ?_
          show Steps p.tables e below (T19.setTop (mkF m 56 #[.val (.ref a), .val (.ref b5), .val (.ref b7), .val (.int (nxa11 + (1 : Int32))), .val (.int (ia11 + (1 : Int32))), .val (.int (fa x11))] [])) _
          refine XS.goto X19.here hx rfl (pc0 := 56) (pc' := 15) rfl (hb hby d1_56) (by decide) (by decide) ?_
          show Steps p.tables e below (T19.setTop (mkF m 15 #[.val (.ref a), .val (.ref b5), .val (.ref b7), .val (.int (nxa11 + (1 : Int32))), .val (.int (ia11 + (1 : Int32))), .val (.int (fa x11))] [])) _
          exact kt
        have f22 := (Nat.le_trans (Nat.le_trans z11 (Keep.of_wr W17).1) (Keep.of_wr W19).1)
        have f23 := ((j0_11.keep (Keep.of_wr W17) (ninS ne_a_b5 nin0)).keep (Keep.of_wr W19) (ninS ne_a_b7 nin0))
        have f24 := (V17.keep (Keep.of_wr W19) (ninS ne_b5_b7 nin0))
        have hp025 : (ia11 + (1 : Int32)).toInt = (((x11 + 1) : Nat) : Int) := by
          have a := c_iadd ia11 1
          have b := rng32 (ia11 + 1)
          have o : (1 : Int32).toInt = 1 := by decide
          have q := pr0_11
          omega
        have hp126 : (nxa11 + (1 : Int32)).toInt = (((own_ren A (x11 + 1)).2 : Nat) : Int) := by
          have qx := pr2_11 (A x11) (hA x11 hxN).2
          have q1 := pr1_11
          have e := congrArg Int32.toInt hc32_16
          have o0 : (0 : Int32).toInt = 0 := by decide
          have e0 : (own_ren A x11).1 (A x11) = 0 := by omega
          simp only [own_ren, if_pos e0]
          have a := c_iadd nxa11 1
          have b := rng32 (nxa11 + 1)
          have o : (1 : Int32).toInt = 1 := by decide
          have le := (own_ren_le A x11).1
          omega
        have hp227 : ∀ v, v < n → (f17 v).toInt = (((own_ren A (x11 + 1)).1 v : Nat) : Int) := by
          intro v hv
          have q := pr2_11 v hv
          have qx := pr2_11 (A x11) (hA x11 hxN).2
          have q1 := pr1_11
          have e := congrArg Int32.toInt hc32_16
          have o0 : (0 : Int32).toInt = 0 := by decide
          have e0 : (own_ren A x11).1 (A x11) = 0 := by omega
          simp only [own_ren, if_pos e0]
          rw [hf17]
          simp only [own_upd]
          by_cases hvA : v = A x11
          · rw [if_pos hvA, if_pos hvA]
            have a := c_iadd nxa11 1
            have b := rng32 (nxa11 + 1)
            have o : (1 : Int32).toInt = 1 := by decide
            have le := (own_ren_le A x11).1
            omega
          · rw [if_neg hvA, if_neg hvA]; exact q
        have hp328 : ∀ i, i < x11 + 1 → (f19 i).toInt = ((own_out A i : Nat) : Int) := by
          intro i hi
          rw [hf19]
          simp only [own_upd]
          by_cases hix : i = x11
          · rw [if_pos hix, hix, own_out]
            have q := hp227 (A x11) (hA x11 hxN).2
            have ps := own_ren_pos A x11
            have le := (own_ren_le A (x11 + 1)).2 (A x11)
            have a := c_isub (f17 (A x11)) 1
            have b := rng32 (f17 (A x11) - 1)
            have o : (1 : Int32).toInt = 1 := by decide
            omega
          · rw [if_neg hix]; exact pr3_11 i (by omega)
        have f29 := ((kk11.trans (Keep.of_wr W17) (allS (Or.inr sz_b5) all0)).trans (Keep.of_wr W19) (allS (Or.inr sz_b7) all0))
        obtain ⟨T21, L21, H21, nxb1121, ib1121, cb1121, fnb1121, fob1121, q0_21, q1_21, q2_21, q3_21, q4_21, q5_21, q6_21, q7_21, q8_21, q9_21, q10_21, q11_21, q12_21, k21⟩ := ih (x11 + 1) T19 _ h19 (nxa11 + (1 : Int32)) (ia11 + (1 : Int32)) (.val (.int (fa x11))) f17 f19 (by omega) X19 e19 N19 f22 f23 f24 V19 hp025 hp126 hp227 hp328 (One.val rfl) f29
        exact ⟨T21, L21, H21, nxb1121, ib1121, cb1121, fnb1121, fob1121, q0_21, q1_21, q2_21, q3_21, q4_21, q5_21, q6_21, q7_21, q8_21, q9_21, q10_21, q11_21, q12_21, fun tg_ kt => k20 tg_ (k21 tg_ kt)⟩
      · obtain ⟨T30, h30, X30, e30, W30, V30, st30⟩ := own_stI X11 hx hZ e11 j2_11 (i := x11) pr0_11 (by omega) (g := (mkF m 52 #[.val (.ref a), .val (.ref b5), .val (.ref b7), .val (.int nxa11), .val (.int ia11), .val (.int (fa x11))] [(.int ((fna11 (A x11)) - (1 : Int32))), (.int ia11), (.ref b7)])) rfl rfl (hb hby d1_52)
        have N30 := Fr.snoc X30 N11 ge_b7
        obtain ⟨f30, hf30⟩ : ∃ z : Nat → Int32, z = (own_upd foa11 x11 ((fna11 (A x11)) - (1 : Int32))) := ⟨_, rfl⟩
        rw [← hf30] at V30
        have k31 : ∀ tg_, Steps p.tables e below (T30.setTop (mkF m 15 #[.val (.ref a), .val (.ref b5), .val (.ref b7), .val (.int nxa11), .val (.int (ia11 + (1 : Int32))), .val (.int (fa x11))] [])) tg_ → Steps p.tables e below (Ta11.setTop (mkF m 15 #[.val (.ref a), .val (.ref b5), .val (.ref b7), .val (.int nxa11), .val (.int ia11), ca11] [])) tg_ := by
          intro tg_ kt
          refine k15 tg_ ?_
          refine XS.ifYes X11.here hx rfl (pc0 := 32) (pc' := 43) rfl (hb hby d1_32) rfl ((if0 _ _).trans (feq hc32_16).2) (by decide) (by decide) ?_
          show Steps p.tables e below (Ta11.setTop (mkF m 43 #[.val (.ref a), .val (.ref b5), .val (.ref b7), .val (.int nxa11), .val (.int ia11), .val (.int (fa x11))] [])) _
          refine XS.aloadN X11.here hx rfl (hb hby d1_43) rfl rfl ?_
          show Steps p.tables e below (Ta11.setTop (mkF m 44 #[.val (.ref a), .val (.ref b5), .val (.ref b7), .val (.int nxa11), .val (.int ia11), .val (.int (fa x11))] [(.ref b7)])) _
          refine XS.iload X11.here hx rfl (hb hby d1_44) rfl ?_
          show Steps p.tables e below (Ta11.setTop (mkF m 46 #[.val (.ref a), .val (.ref b5), .val (.ref b7), .val (.int nxa11), .val (.int ia11), .val (.int (fa x11))] [(.int ia11), (.ref b7)])) _
          refine XS.aloadN X11.here hx rfl (hb hby d1_46) rfl rfl ?_
          show Steps p.tables e below (Ta11.setTop (mkF m 47 #[.val (.ref a), .val (.ref b5), .val (.ref b7), .val (.int nxa11), .val (.int ia11), .val (.int (fa x11))] [(.ref b5), (.int ia11), (.ref b7)])) _
          refine XS.iload X11.here hx rfl (hb hby d1_47) rfl ?_
          show Steps p.tables e below (Ta11.setTop (mkF m 49 #[.val (.ref a), .val (.ref b5), .val (.ref b7), .val (.int nxa11), .val (.int ia11), .val (.int (fa x11))] [(.int (fa x11)), (.ref b5), (.int ia11), (.ref b7)])) _
          refine own_ldI X11 hx hZ e11 j1_11 (i := (A x11)) (hA x11 hxN).1 (hA x11 hxN).2 rfl (g := (mkF m 49 #[.val (.ref a), .val (.ref b5), .val (.ref b7), .val (.int nxa11), .val (.int ia11), .val (.int (fa x11))] [(.int (fa x11)), (.ref b5), (.int ia11), (.ref b7)])) rfl rfl (hb hby d1_49) _ ?_
          show Steps p.tables e below (Ta11.setTop (mkF m 50 #[.val (.ref a), .val (.ref b5), .val (.ref b7), .val (.int nxa11), .val (.int ia11), .val (.int (fa x11))] [(.int (fna11 (A x11))), (.int ia11), (.ref b7)])) _
          refine XS.iconst X11.here hx rfl (hb hby d1_50) ?_
          show Steps p.tables e below (Ta11.setTop (mkF m 51 #[.val (.ref a), .val (.ref b5), .val (.ref b7), .val (.int nxa11), .val (.int ia11), .val (.int (fa x11))] [(.int (1 : Int32)), (.int (fna11 (A x11))), (.int ia11), (.ref b7)])) _
          refine XS.isub X11.here hx rfl (hb hby d1_51) rfl ?_
          show Steps p.tables e below (Ta11.setTop (mkF m 52 #[.val (.ref a), .val (.ref b5), .val (.ref b7), .val (.int nxa11), .val (.int ia11), .val (.int (fa x11))] [(.int ((fna11 (A x11)) - (1 : Int32))), (.int ia11), (.ref b7)])) _
          refine st30 _ ?_
          show Steps p.tables e below (T30.setTop (mkF m 53 #[.val (.ref a), .val (.ref b5), .val (.ref b7), .val (.int nxa11), .val (.int ia11), .val (.int (fa x11))] [])) _
          refine XS.iinc X30.here hx rfl (hb hby d1_53) rfl (l' := #[.val (.ref a), .val (.ref b5), .val (.ref b7), .val (.int nxa11), .val (.int (ia11 + (1 : Int32))), .val (.int (fa x11))]) rfl ?_
          show Steps p.tables e below (T30.setTop (mkF m 56 #[.val (.ref a), .val (.ref b5), .val (.ref b7), .val (.int nxa11), .val (.int (ia11 + (1 : Int32))), .val (.int (fa x11))] [])) _
          refine XS.goto X30.here hx rfl (pc0 := 56) (pc' := 15) rfl (hb hby d1_56) (by decide) (by decide) ?_
          show Steps p.tables e below (T30.setTop (mkF m 15 #[.val (.ref a), .val (.ref b5), .val (.ref b7), .val (.int nxa11), .val (.int (ia11 + (1 : Int32))), .val (.int (fa x11))] [])) _
          exact kt
        have f33 := (Nat.le_trans z11 (Keep.of_wr W30).1)
        have f34 := (j0_11.keep (Keep.of_wr W30) (ninS ne_a_b7 nin0))
        have f35 := (j1_11.keep (Keep.of_wr W30) (ninS ne_b5_b7 nin0))
        have hp036 : (ia11 + (1 : Int32)).toInt = (((x11 + 1) : Nat) : Int) := by
          have a := c_iadd ia11 1
          have b := rng32 (ia11 + 1)
          have o : (1 : Int32).toInt = 1 := by decide
          have q := pr0_11
          omega
        have hp137 : nxa11.toInt = (((own_ren A (x11 + 1)).2 : Nat) : Int) := by
          have qx := pr2_11 (A x11) (hA x11 hxN).2
          have q1 := pr1_11
          have e0 : ¬ (own_ren A x11).1 (A x11) = 0 := fun e => hc32_16 (Int32.toInt_inj.mp (by rw [qx, e]; rfl))
          simp only [own_ren, if_neg e0]
          exact q1
        have hp238 : ∀ v, v < n → (fna11 v).toInt = (((own_ren A (x11 + 1)).1 v : Nat) : Int) := by
          intro v hv
          have q := pr2_11 v hv
          have qx := pr2_11 (A x11) (hA x11 hxN).2
          have q1 := pr1_11
          have e0 : ¬ (own_ren A x11).1 (A x11) = 0 := fun e => hc32_16 (Int32.toInt_inj.mp (by rw [qx, e]; rfl))
          simp only [own_ren, if_neg e0]
          exact q
        have hp339 : ∀ i, i < x11 + 1 → (f30 i).toInt = ((own_out A i : Nat) : Int) := by
          intro i hi
          rw [hf30]
          simp only [own_upd]
          by_cases hix : i = x11
          · rw [if_pos hix, hix, own_out]
            have q := hp238 (A x11) (hA x11 hxN).2
            have ps := own_ren_pos A x11
            have le := (own_ren_le A (x11 + 1)).2 (A x11)
            have a := c_isub (fna11 (A x11)) 1
            have b := rng32 (fna11 (A x11) - 1)
            have o : (1 : Int32).toInt = 1 := by decide
            omega
          · rw [if_neg hix]; exact pr3_11 i (by omega)
        have f40 := (kk11.trans (Keep.of_wr W30) (allS (Or.inr sz_b7) all0))
        obtain ⟨T32, L32, H32, nxb1132, ib1132, cb1132, fnb1132, fob1132, q0_32, q1_32, q2_32, q3_32, q4_32, q5_32, q6_32, q7_32, q8_32, q9_32, q10_32, q11_32, q12_32, k32⟩ := ih (x11 + 1) T30 _ h30 nxa11 (ia11 + (1 : Int32)) (.val (.int (fa x11))) fna11 f30 (by omega) X30 e30 N30 f33 f34 f35 V30 hp036 hp137 hp238 hp339 (One.val rfl) f40
        exact ⟨T32, L32, H32, nxb1132, ib1132, cb1132, fnb1132, fob1132, q0_32, q1_32, q2_32, q3_32, q4_32, q5_32, q6_32, q7_32, q8_32, q9_32, q10_32, q11_32, q12_32, fun tg_ kt => k31 tg_ (k32 tg_ kt)⟩
  have f42 := (Nat.le_trans f8 ((Keep.refl _ []).ext E7).1)
  have f43 := (f6.keep ((Keep.refl _ []).ext E7) nin0)
  have f44 := (V5.keep ((Keep.refl _ []).ext E7) nin0)
  have f45 := (f9.trans ((Keep.refl _ []).ext E7) all0)
  obtain ⟨T41, L41, H41, nxb1141, ib1141, cb1141, fnb1141, fob1141, X41, e41, N41, z41, j0_41, j1_41, j2_41, pr0_41, pr1_41, pr2_41, pr3_41, pr4_41, kk41, kl41⟩ := lp11 n 0 T7 _ h7 (0 : Int32) (0 : Int32) (.unset) (fun _ => 0) (fun _ => 0) (by omega) X7 e7 N0 f42 f43 f44 V7 (by decide) (by show (0 : Int32).toInt = ((0 : Nat) : Int); decide) (fun v _ => by show (0 : Int32).toInt = ((0 : Nat) : Int); decide) (fun i hi => absurd hi (by omega)) (One.u) f45
  have k41 : ∀ tg_, Steps p.tables e below (T41.setTop (mkF m 59 #[.val (.ref a), .val (.ref b5), .val (.ref b7), .val (.int nxb1141), .val (.int ib1141), cb1141] [])) tg_ → Steps p.tables e below (s₁.setTop (entryFrame m #[(.ref a)] 6)) tg_ := fun tg_ kt => k10 tg_ (kl41 tg_ kt)
  have k46 : ∀ tg_, Steps p.tables e below (T41.setTop (mkF m 60 #[.val (.ref a), .val (.ref b5), .val (.ref b7), .val (.int nxb1141), .val (.int ib1141), cb1141] [(.ref b7)])) tg_ → Steps p.tables e below (s₁.setTop (entryFrame m #[(.ref a)] 6)) tg_ := by
    intro tg_ kt
    refine k41 tg_ ?_
    refine XS.aloadN X41.here hx rfl (hb hby d1_59) rfl rfl ?_
    show Steps p.tables e below (T41.setTop (mkF m 60 #[.val (.ref a), .val (.ref b5), .val (.ref b7), .val (.int nxb1141), .val (.int ib1141), cb1141] [(.ref b7)])) _
    exact kt
  obtain ⟨fs, hr, hrun, hended, hW, hsame⟩ := X41.leave (v := some (.ref b7)) (fun h => by rw [Bd.returns] at h; cases h)
  refine ⟨_, _, k46 _ (retOut X41 hx Bd.returns rfl (Or.inr (Or.inr (Or.inr (Or.inr ⟨rfl, rfl, rfl⟩)))) (hb hby d1_60) hr), hrun, hended, _, _, rfl, ?_, ⟨_, rfl⟩, hW, hsame.mono (by decide) (by decide)⟩
  show Q1 Z a n nn fa A h0 n0 _ T41.heap _
  rw [e41]
  exact ⟨trivial, N41, kk41, ⟨b7, _, rfl, j2_41, pr3_41, ge_b7, sz_b7⟩⟩
theorem d2_0 : decode method_2_code 0 = .ok (.iload_n 3, 1) := by decide +kernel
theorem d2_1 : decode method_2_code 1 = .ok (.aload_n 0, 1) := by decide +kernel
theorem d2_2 : decode method_2_code 2 = .ok (.arraylength, 1) := by decide +kernel
theorem d2_3 : decode method_2_code 3 = .ok (.if_icmp .lt 5, 3) := by decide +kernel
theorem d2_6 : decode method_2_code 6 = .ok (.iconst 1, 1) := by decide +kernel
theorem d2_7 : decode method_2_code 7 = .ok (.ireturn, 1) := by decide +kernel
theorem d2_8 : decode method_2_code 8 = .ok (.aload_n 0, 1) := by decide +kernel
theorem d2_9 : decode method_2_code 9 = .ok (.iload_n 2, 1) := by decide +kernel
theorem d2_10 : decode method_2_code 10 = .ok (.iaload, 1) := by decide +kernel
theorem d2_11 : decode method_2_code 11 = .ok (.aload_n 0, 1) := by decide +kernel
theorem d2_12 : decode method_2_code 12 = .ok (.iload_n 3, 1) := by decide +kernel
theorem d2_13 : decode method_2_code 13 = .ok (.iaload, 1) := by decide +kernel
theorem d2_14 : decode method_2_code 14 = .ok (.if_icmp .ne 7, 3) := by decide +kernel
theorem d2_17 : decode method_2_code 17 = .ok (.iconst 1, 1) := by decide +kernel
theorem d2_18 : decode method_2_code 18 = .ok (.goto 4, 3) := by decide +kernel
theorem d2_21 : decode method_2_code 21 = .ok (.iconst 0, 1) := by decide +kernel
theorem d2_22 : decode method_2_code 22 = .ok (.aload_n 1, 1) := by decide +kernel
theorem d2_23 : decode method_2_code 23 = .ok (.iload_n 2, 1) := by decide +kernel
theorem d2_24 : decode method_2_code 24 = .ok (.iaload, 1) := by decide +kernel
theorem d2_25 : decode method_2_code 25 = .ok (.aload_n 1, 1) := by decide +kernel
theorem d2_26 : decode method_2_code 26 = .ok (.iload_n 3, 1) := by decide +kernel
theorem d2_27 : decode method_2_code 27 = .ok (.iaload, 1) := by decide +kernel
theorem d2_28 : decode method_2_code 28 = .ok (.if_icmp .ne 7, 3) := by decide +kernel
theorem d2_31 : decode method_2_code 31 = .ok (.iconst 1, 1) := by decide +kernel
theorem d2_32 : decode method_2_code 32 = .ok (.goto 4, 3) := by decide +kernel
theorem d2_35 : decode method_2_code 35 = .ok (.iconst 0, 1) := by decide +kernel
theorem d2_36 : decode method_2_code 36 = .ok (.if_icmp .ne 7, 3) := by decide +kernel
theorem d2_39 : decode method_2_code 39 = .ok (.iconst 1, 1) := by decide +kernel
theorem d2_40 : decode method_2_code 40 = .ok (.goto 4, 3) := by decide +kernel
theorem d2_43 : decode method_2_code 43 = .ok (.iconst 0, 1) := by decide +kernel
theorem d2_44 : decode method_2_code 44 = .ok (.ireturn, 1) := by decide +kernel
theorem pn_2 : plainName "com/example/coterie/coterie/methods/CommunitiesRenumberedPinLaw" = true := by first | (simp [plainName, overriddenIn]; done) | decide +kernel
theorem ef_2 (m : MethodId) (x0 : Addr) (x1 : Addr) (x2 : Int32) (x3 : Int32) : entryFrame m #[(.ref x0), (.ref x1), (.int x2), (.int x3)] 4 = mkF m 0 #[.val (.ref x0), .val (.ref x1), .val (.int x2), .val (.int x3)] [] := by first | (simp [entryFrame, mkF, argsToLocals, Value.category]; done) | rfl
def Q2 (Z : State) (a : Addr) (b : Addr) (i : Int32) (j : Int32) (n : Nat) (nn : Int32) (fa : Nat → Int32) (g : Nat → Int32) (ii : Nat) (jj : Nat) (h0 : Heap) (n0 : Nat) (rv_ : Option Value) (h : Heap) (LL_ : List Loc) : Prop := rv_ = some (.int (if jj < n then (if ((fa ii = fa jj) ↔ (g ii = g jj)) then (1 : Int32) else (0 : Int32)) else (1 : Int32))) ∧ Fr n0 LL_ ∧ h = h0
set_option maxRecDepth 65536 in
set_option maxHeartbeats 40000000 in
theorem rm2 (l : Launch) (Z : State) (a0 : Array Value) (hw : ∀ d ∈ tables_1, d.before a0 Z = true) (ws : List Jvm.Cond) (a : Addr) (b : Addr) (i : Int32) (j : Int32) (n : Nat) (nn : Int32) (fa : Nat → Int32) (g : Nat → Int32) (ii : Nat) (jj : Nat) (h0 : Heap) (n0 : Nat) (V_a : own_AI Z h0 a .int n fa) (V_b : own_AI Z h0 b .int n g) (hnn : nn.toInt = (n : Int)) (hi : i.toInt = (ii : Int)) (hj : j.toInt = (jj : Int)) (hij : ii < jj) :
    MetFree l (⟨"com/example/coterie/coterie/methods/CommunitiesRenumberedPinLaw", "pair", "([I[III)Z"⟩ : MethodName) (head1 (Jvm.Cond.code (⟨"com/example/coterie/coterie/methods/CommunitiesRenumberedPinLaw", "pair", "([I[III)Z"⟩ : MethodName) method_2_code 4 (some .boolean) :: ws) ({ frames := 0, cells := 0, slots := 0, locals := 0 } : Room)) (fun aa UU => aa = #[(.ref a), (.ref b), (.int i), (.int j)] ∧ Z.Warmed39 UU.vm ∧ UU.heap = h0) (fun _ _ _ _ _ => True) (fun _ UU oo UV => ∃ vv LL, oo = .returned vv ∧ Q2 Z a b i j n nn fa g ii jj h0 n0 vv UV.heap LL ∧ FrameEnd UU oo UV LL ({ frames := 0, cells := 0, slots := 0, locals := 0 } : Room).cells ({ frames := 0, cells := 0, slots := 0, locals := 0 } : Room).slots) := by
  refine MetFree.of_bodySF (plainFor_of_name pn_2) hisR ?_
  intro p e s m args below meth c s₁ Bd hml0 hP hK
  obtain ⟨rfl, hZ, hh⟩ := hP
  have hx := Bd.exec
  have hby := Bd.bytes
  have hml : c.maxLocals = 4 := hml0
  have hown : s.vm.findClass "com/example/coterie/coterie/methods/CommunitiesRenumberedPinLaw" = some m.cls := findClass_of_methodNamed Bd.named
  have hnm := (name_of_methodNamed Bd.named Bd.method).1
  have X0 : Stand p l e ({ frames := 0, cells := 0, slots := 0, locals := 0 } : Room) s m #[(.ref a), (.ref b), (.int i), (.int j)] below meth c s₁ [] 0 0 := Stand.of_body Bd
  have e0 : s₁.heap = h0 := by rw [← hh, Bd.state]; rfl
  have N0 := Fr.nil n0
  have k0 : ∀ tg_, Steps p.tables e below (s₁.setTop (mkF m 0 #[.val (.ref a), .val (.ref b), .val (.int i), .val (.int j)] [])) tg_ → Steps p.tables e below (s₁.setTop (entryFrame m #[(.ref a), (.ref b), (.int i), (.int j)] 4)) tg_ := fun tg_ k => castTop (ef_2 m a b i j) k
  have k47 : ∀ tg_, Steps p.tables e below (s₁.setTop (mkF m 3 #[.val (.ref a), .val (.ref b), .val (.int i), .val (.int j)] [(.int nn), (.int j)])) tg_ → Steps p.tables e below (s₁.setTop (entryFrame m #[(.ref a), (.ref b), (.int i), (.int j)] 4)) tg_ := by
    intro tg_ kt
    refine k0 tg_ ?_
    refine XS.iloadN X0.here hx rfl (hb hby d2_0) rfl ?_
    show Steps p.tables e below (s₁.setTop (mkF m 1 #[.val (.ref a), .val (.ref b), .val (.int i), .val (.int j)] [(.int j)])) _
    refine XS.aloadN X0.here hx rfl (hb hby d2_1) rfl rfl ?_
    show Steps p.tables e below (s₁.setTop (mkF m 2 #[.val (.ref a), .val (.ref b), .val (.int i), .val (.int j)] [(.ref a), (.int j)])) _
    refine own_len X0 hx hZ e0 V_a (z := nn) hnn (g := (mkF m 2 #[.val (.ref a), .val (.ref b), .val (.int i), .val (.int j)] [(.ref a), (.int j)])) rfl rfl (hb hby d2_2) _ ?_
    show Steps p.tables e below (s₁.setTop (mkF m 3 #[.val (.ref a), .val (.ref b), .val (.int i), .val (.int j)] [(.int nn), (.int j)])) _
    exact kt
  by_cases hc3_48 : j < nn
  · have k49 : ∀ tg_, Steps p.tables e below (s₁.setTop (mkF m 8 #[.val (.ref a), .val (.ref b), .val (.int i), .val (.int j)] [])) tg_ → Steps p.tables e below (s₁.setTop (entryFrame m #[(.ref a), (.ref b), (.int i), (.int j)] 4)) tg_ := by
      intro tg_ kt
      refine k47 tg_ ?_
      refine XS.icmpYes X0.here hx rfl (pc0 := 3) (pc' := 8) rfl (hb hby d2_3) rfl (tlt hc3_48).1 (by decide) (by decide) ?_
      show Steps p.tables e below (s₁.setTop (mkF m 8 #[.val (.ref a), .val (.ref b), .val (.int i), .val (.int j)] [])) _
      exact kt
    have hjn : jj < n := by
      have ar50 := rng32 j
      have ar51 := rng32 nn
      have ar52 : j.toInt < nn.toInt := Int32.lt_iff_toInt_lt.mp hc3_48
      omega
    have hii : ii < n := by omega
    have k53 : ∀ tg_, Steps p.tables e below (s₁.setTop (mkF m 14 #[.val (.ref a), .val (.ref b), .val (.int i), .val (.int j)] [(.int (fa jj)), (.int (fa ii))])) tg_ → Steps p.tables e below (s₁.setTop (entryFrame m #[(.ref a), (.ref b), (.int i), (.int j)] 4)) tg_ := by
      intro tg_ kt
      refine k49 tg_ ?_
      refine XS.aloadN X0.here hx rfl (hb hby d2_8) rfl rfl ?_
      show Steps p.tables e below (s₁.setTop (mkF m 9 #[.val (.ref a), .val (.ref b), .val (.int i), .val (.int j)] [(.ref a)])) _
      refine XS.iloadN X0.here hx rfl (hb hby d2_9) rfl ?_
      show Steps p.tables e below (s₁.setTop (mkF m 10 #[.val (.ref a), .val (.ref b), .val (.int i), .val (.int j)] [(.int i), (.ref a)])) _
      refine own_ldI X0 hx hZ e0 V_a (i := ii) hi hii rfl (g := (mkF m 10 #[.val (.ref a), .val (.ref b), .val (.int i), .val (.int j)] [(.int i), (.ref a)])) rfl rfl (hb hby d2_10) _ ?_
      show Steps p.tables e below (s₁.setTop (mkF m 11 #[.val (.ref a), .val (.ref b), .val (.int i), .val (.int j)] [(.int (fa ii))])) _
      refine XS.aloadN X0.here hx rfl (hb hby d2_11) rfl rfl ?_
      show Steps p.tables e below (s₁.setTop (mkF m 12 #[.val (.ref a), .val (.ref b), .val (.int i), .val (.int j)] [(.ref a), (.int (fa ii))])) _
      refine XS.iloadN X0.here hx rfl (hb hby d2_12) rfl ?_
      show Steps p.tables e below (s₁.setTop (mkF m 13 #[.val (.ref a), .val (.ref b), .val (.int i), .val (.int j)] [(.int j), (.ref a), (.int (fa ii))])) _
      refine own_ldI X0 hx hZ e0 V_a (i := jj) hj (by omega) rfl (g := (mkF m 13 #[.val (.ref a), .val (.ref b), .val (.int i), .val (.int j)] [(.int j), (.ref a), (.int (fa ii))])) rfl rfl (hb hby d2_13) _ ?_
      show Steps p.tables e below (s₁.setTop (mkF m 14 #[.val (.ref a), .val (.ref b), .val (.int i), .val (.int j)] [(.int (fa jj)), (.int (fa ii))])) _
      exact kt
    by_cases hc14_54 : (fa ii) = (fa jj)
    · have k55 : ∀ tg_, Steps p.tables e below (s₁.setTop (mkF m 28 #[.val (.ref a), .val (.ref b), .val (.int i), .val (.int j)] [(.int (g jj)), (.int (g ii)), (.int (1 : Int32))])) tg_ → Steps p.tables e below (s₁.setTop (entryFrame m #[(.ref a), (.ref b), (.int i), (.int j)] 4)) tg_ := by
        intro tg_ kt
        refine k53 tg_ ?_
        refine XS.icmpNo X0.here hx rfl (hb hby d2_14) rfl (teq hc14_54).2 ?_
        show Steps p.tables e below (s₁.setTop (mkF m 17 #[.val (.ref a), .val (.ref b), .val (.int i), .val (.int j)] [])) _
        refine XS.iconst X0.here hx rfl (hb hby d2_17) ?_
        show Steps p.tables e below (s₁.setTop (mkF m 18 #[.val (.ref a), .val (.ref b), .val (.int i), .val (.int j)] [(.int (1 : Int32))])) _
        refine XS.goto X0.here hx rfl (pc0 := 18) (pc' := 22) rfl (hb hby d2_18) (by decide) (by decide) ?_
        show Steps p.tables e below (s₁.setTop (mkF m 22 #[.val (.ref a), .val (.ref b), .val (.int i), .val (.int j)] [(.int (1 : Int32))])) _
        refine XS.aloadN X0.here hx rfl (hb hby d2_22) rfl rfl ?_
        show Steps p.tables e below (s₁.setTop (mkF m 23 #[.val (.ref a), .val (.ref b), .val (.int i), .val (.int j)] [(.ref b), (.int (1 : Int32))])) _
        refine XS.iloadN X0.here hx rfl (hb hby d2_23) rfl ?_
        show Steps p.tables e below (s₁.setTop (mkF m 24 #[.val (.ref a), .val (.ref b), .val (.int i), .val (.int j)] [(.int i), (.ref b), (.int (1 : Int32))])) _
        refine own_ldI X0 hx hZ e0 V_b (i := ii) hi hii rfl (g := (mkF m 24 #[.val (.ref a), .val (.ref b), .val (.int i), .val (.int j)] [(.int i), (.ref b), (.int (1 : Int32))])) rfl rfl (hb hby d2_24) _ ?_
        show Steps p.tables e below (s₁.setTop (mkF m 25 #[.val (.ref a), .val (.ref b), .val (.int i), .val (.int j)] [(.int (g ii)), (.int (1 : Int32))])) _
        refine XS.aloadN X0.here hx rfl (hb hby d2_25) rfl rfl ?_
        show Steps p.tables e below (s₁.setTop (mkF m 26 #[.val (.ref a), .val (.ref b), .val (.int i), .val (.int j)] [(.ref b), (.int (g ii)), (.int (1 : Int32))])) _
        refine XS.iloadN X0.here hx rfl (hb hby d2_26) rfl ?_
        show Steps p.tables e below (s₁.setTop (mkF m 27 #[.val (.ref a), .val (.ref b), .val (.int i), .val (.int j)] [(.int j), (.ref b), (.int (g ii)), (.int (1 : Int32))])) _
        refine own_ldI X0 hx hZ e0 V_b (i := jj) hj (by omega) rfl (g := (mkF m 27 #[.val (.ref a), .val (.ref b), .val (.int i), .val (.int j)] [(.int j), (.ref b), (.int (g ii)), (.int (1 : Int32))])) rfl rfl (hb hby d2_27) _ ?_
        show Steps p.tables e below (s₁.setTop (mkF m 28 #[.val (.ref a), .val (.ref b), .val (.int i), .val (.int j)] [(.int (g jj)), (.int (g ii)), (.int (1 : Int32))])) _
        exact kt
      by_cases hc28_56 : (g ii) = (g jj)
      · have k57 : ∀ tg_, Steps p.tables e below (s₁.setTop (mkF m 44 #[.val (.ref a), .val (.ref b), .val (.int i), .val (.int j)] [(.int (1 : Int32))])) tg_ → Steps p.tables e below (s₁.setTop (entryFrame m #[(.ref a), (.ref b), (.int i), (.int j)] 4)) tg_ := by
          intro tg_ kt
          refine k55 tg_ ?_
          refine XS.icmpNo X0.here hx rfl (hb hby d2_28) rfl (teq hc28_56).2 ?_
          show Steps p.tables e below (s₁.setTop (mkF m 31 #[.val (.ref a), .val (.ref b), .val (.int i), .val (.int j)] [(.int (1 : Int32))])) _
          refine XS.iconst X0.here hx rfl (hb hby d2_31) ?_
          show Steps p.tables e below (s₁.setTop (mkF m 32 #[.val (.ref a), .val (.ref b), .val (.int i), .val (.int j)] [(.int (1 : Int32)), (.int (1 : Int32))])) _
          refine XS.goto X0.here hx rfl (pc0 := 32) (pc' := 36) rfl (hb hby d2_32) (by decide) (by decide) ?_
          show Steps p.tables e below (s₁.setTop (mkF m 36 #[.val (.ref a), .val (.ref b), .val (.int i), .val (.int j)] [(.int (1 : Int32)), (.int (1 : Int32))])) _
          refine XS.icmpNo X0.here hx rfl (hb hby d2_36) rfl (teq (by decide : (1 : Int32) = (1 : Int32))).2 ?_
          show Steps p.tables e below (s₁.setTop (mkF m 39 #[.val (.ref a), .val (.ref b), .val (.int i), .val (.int j)] [])) _
          refine XS.iconst X0.here hx rfl (hb hby d2_39) ?_
          show Steps p.tables e below (s₁.setTop (mkF m 40 #[.val (.ref a), .val (.ref b), .val (.int i), .val (.int j)] [(.int (1 : Int32))])) _
          refine XS.goto X0.here hx rfl (pc0 := 40) (pc' := 44) rfl (hb hby d2_40) (by decide) (by decide) ?_
          show Steps p.tables e below (s₁.setTop (mkF m 44 #[.val (.ref a), .val (.ref b), .val (.int i), .val (.int j)] [(.int (1 : Int32))])) _
          exact kt
        have hjn58 : jj < n := by
          have ar59 := rng32 j
          have ar60 := rng32 nn
          have ar61 : j.toInt < nn.toInt := Int32.lt_iff_toInt_lt.mp hc3_48
          omega
        have hiff58 :  ((fa ii = fa jj) ↔ (g ii = g jj)) := by
          simp [hc14_54, hc28_56]
        obtain ⟨fs, hr, hrun, hended, hW, hsame⟩ := X0.leave (v := some (.int (1 : Int32))) (fun h => by rw [Bd.returns] at h; cases h)
        refine ⟨_, _, k57 _ (retN X0 hx (t := .boolean) Bd.returns (by simp) (hb hby d2_44) hr), hrun, hended, _, _, rfl, ?_, ⟨_, rfl⟩, hW, hsame.mono (by decide) (by decide)⟩
        show Q2 Z a b i j n nn fa g ii jj h0 n0 _ s₁.heap _
        rw [e0]
        exact ⟨(by rw [if_pos hjn58, if_pos hiff58]), N0, rfl⟩
      · have k62 : ∀ tg_, Steps p.tables e below (s₁.setTop (mkF m 44 #[.val (.ref a), .val (.ref b), .val (.int i), .val (.int j)] [(.int (0 : Int32))])) tg_ → Steps p.tables e below (s₁.setTop (entryFrame m #[(.ref a), (.ref b), (.int i), (.int j)] 4)) tg_ := by
          intro tg_ kt
          refine k55 tg_ ?_
          refine XS.icmpYes X0.here hx rfl (pc0 := 28) (pc' := 35) rfl (hb hby d2_28) rfl (feq hc28_56).2 (by decide) (by decide) ?_
          show Steps p.tables e below (s₁.setTop (mkF m 35 #[.val (.ref a), .val (.ref b), .val (.int i), .val (.int j)] [(.int (1 : Int32))])) _
          refine XS.iconst X0.here hx rfl (hb hby d2_35) ?_
          show Steps p.tables e below (s₁.setTop (mkF m 36 #[.val (.ref a), .val (.ref b), .val (.int i), .val (.int j)] [(.int (0 : Int32)), (.int (1 : Int32))])) _
          refine XS.icmpYes X0.here hx rfl (pc0 := 36) (pc' := 43) rfl (hb hby d2_36) rfl (feq (by decide : ¬ ((1 : Int32) = (0 : Int32)))).2 (by decide) (by decide) ?_
          show Steps p.tables e below (s₁.setTop (mkF m 43 #[.val (.ref a), .val (.ref b), .val (.int i), .val (.int j)] [])) _
          refine XS.iconst X0.here hx rfl (hb hby d2_43) ?_
          show Steps p.tables e below (s₁.setTop (mkF m 44 #[.val (.ref a), .val (.ref b), .val (.int i), .val (.int j)] [(.int (0 : Int32))])) _
          exact kt
        have hjn63 : jj < n := by
          have ar64 := rng32 j
          have ar65 := rng32 nn
          have ar66 : j.toInt < nn.toInt := Int32.lt_iff_toInt_lt.mp hc3_48
          omega
        have hiff63 : ¬ ((fa ii = fa jj) ↔ (g ii = g jj)) := by
          simp [hc14_54, hc28_56]
        obtain ⟨fs, hr, hrun, hended, hW, hsame⟩ := X0.leave (v := some (.int (0 : Int32))) (fun h => by rw [Bd.returns] at h; cases h)
        refine ⟨_, _, k62 _ (retN X0 hx (t := .boolean) Bd.returns (by simp) (hb hby d2_44) hr), hrun, hended, _, _, rfl, ?_, ⟨_, rfl⟩, hW, hsame.mono (by decide) (by decide)⟩
        show Q2 Z a b i j n nn fa g ii jj h0 n0 _ s₁.heap _
        rw [e0]
        exact ⟨(by rw [if_pos hjn63, if_neg hiff63]), N0, rfl⟩
    · have k67 : ∀ tg_, Steps p.tables e below (s₁.setTop (mkF m 28 #[.val (.ref a), .val (.ref b), .val (.int i), .val (.int j)] [(.int (g jj)), (.int (g ii)), (.int (0 : Int32))])) tg_ → Steps p.tables e below (s₁.setTop (entryFrame m #[(.ref a), (.ref b), (.int i), (.int j)] 4)) tg_ := by
        intro tg_ kt
        refine k53 tg_ ?_
        refine XS.icmpYes X0.here hx rfl (pc0 := 14) (pc' := 21) rfl (hb hby d2_14) rfl (feq hc14_54).2 (by decide) (by decide) ?_
        show Steps p.tables e below (s₁.setTop (mkF m 21 #[.val (.ref a), .val (.ref b), .val (.int i), .val (.int j)] [])) _
        refine XS.iconst X0.here hx rfl (hb hby d2_21) ?_
        show Steps p.tables e below (s₁.setTop (mkF m 22 #[.val (.ref a), .val (.ref b), .val (.int i), .val (.int j)] [(.int (0 : Int32))])) _
        refine XS.aloadN X0.here hx rfl (hb hby d2_22) rfl rfl ?_
        show Steps p.tables e below (s₁.setTop (mkF m 23 #[.val (.ref a), .val (.ref b), .val (.int i), .val (.int j)] [(.ref b), (.int (0 : Int32))])) _
        refine XS.iloadN X0.here hx rfl (hb hby d2_23) rfl ?_
        show Steps p.tables e below (s₁.setTop (mkF m 24 #[.val (.ref a), .val (.ref b), .val (.int i), .val (.int j)] [(.int i), (.ref b), (.int (0 : Int32))])) _
        refine own_ldI X0 hx hZ e0 V_b (i := ii) hi hii rfl (g := (mkF m 24 #[.val (.ref a), .val (.ref b), .val (.int i), .val (.int j)] [(.int i), (.ref b), (.int (0 : Int32))])) rfl rfl (hb hby d2_24) _ ?_
        show Steps p.tables e below (s₁.setTop (mkF m 25 #[.val (.ref a), .val (.ref b), .val (.int i), .val (.int j)] [(.int (g ii)), (.int (0 : Int32))])) _
        refine XS.aloadN X0.here hx rfl (hb hby d2_25) rfl rfl ?_
        show Steps p.tables e below (s₁.setTop (mkF m 26 #[.val (.ref a), .val (.ref b), .val (.int i), .val (.int j)] [(.ref b), (.int (g ii)), (.int (0 : Int32))])) _
        refine XS.iloadN X0.here hx rfl (hb hby d2_26) rfl ?_
        show Steps p.tables e below (s₁.setTop (mkF m 27 #[.val (.ref a), .val (.ref b), .val (.int i), .val (.int j)] [(.int j), (.ref b), (.int (g ii)), (.int (0 : Int32))])) _
        refine own_ldI X0 hx hZ e0 V_b (i := jj) hj (by omega) rfl (g := (mkF m 27 #[.val (.ref a), .val (.ref b), .val (.int i), .val (.int j)] [(.int j), (.ref b), (.int (g ii)), (.int (0 : Int32))])) rfl rfl (hb hby d2_27) _ ?_
        show Steps p.tables e below (s₁.setTop (mkF m 28 #[.val (.ref a), .val (.ref b), .val (.int i), .val (.int j)] [(.int (g jj)), (.int (g ii)), (.int (0 : Int32))])) _
        exact kt
      by_cases hc28_68 : (g ii) = (g jj)
      · have k69 : ∀ tg_, Steps p.tables e below (s₁.setTop (mkF m 44 #[.val (.ref a), .val (.ref b), .val (.int i), .val (.int j)] [(.int (0 : Int32))])) tg_ → Steps p.tables e below (s₁.setTop (entryFrame m #[(.ref a), (.ref b), (.int i), (.int j)] 4)) tg_ := by
          intro tg_ kt
          refine k67 tg_ ?_
          refine XS.icmpNo X0.here hx rfl (hb hby d2_28) rfl (teq hc28_68).2 ?_
          show Steps p.tables e below (s₁.setTop (mkF m 31 #[.val (.ref a), .val (.ref b), .val (.int i), .val (.int j)] [(.int (0 : Int32))])) _
          refine XS.iconst X0.here hx rfl (hb hby d2_31) ?_
          show Steps p.tables e below (s₁.setTop (mkF m 32 #[.val (.ref a), .val (.ref b), .val (.int i), .val (.int j)] [(.int (1 : Int32)), (.int (0 : Int32))])) _
          refine XS.goto X0.here hx rfl (pc0 := 32) (pc' := 36) rfl (hb hby d2_32) (by decide) (by decide) ?_
          show Steps p.tables e below (s₁.setTop (mkF m 36 #[.val (.ref a), .val (.ref b), .val (.int i), .val (.int j)] [(.int (1 : Int32)), (.int (0 : Int32))])) _
          refine XS.icmpYes X0.here hx rfl (pc0 := 36) (pc' := 43) rfl (hb hby d2_36) rfl (feq (by decide : ¬ ((0 : Int32) = (1 : Int32)))).2 (by decide) (by decide) ?_
          show Steps p.tables e below (s₁.setTop (mkF m 43 #[.val (.ref a), .val (.ref b), .val (.int i), .val (.int j)] [])) _
          refine XS.iconst X0.here hx rfl (hb hby d2_43) ?_
          show Steps p.tables e below (s₁.setTop (mkF m 44 #[.val (.ref a), .val (.ref b), .val (.int i), .val (.int j)] [(.int (0 : Int32))])) _
          exact kt
        have hjn70 : jj < n := by
          have ar71 := rng32 j
          have ar72 := rng32 nn
          have ar73 : j.toInt < nn.toInt := Int32.lt_iff_toInt_lt.mp hc3_48
          omega
        have hiff70 : ¬ ((fa ii = fa jj) ↔ (g ii = g jj)) := by
          simp [hc14_54, hc28_68]
        obtain ⟨fs, hr, hrun, hended, hW, hsame⟩ := X0.leave (v := some (.int (0 : Int32))) (fun h => by rw [Bd.returns] at h; cases h)
        refine ⟨_, _, k69 _ (retN X0 hx (t := .boolean) Bd.returns (by simp) (hb hby d2_44) hr), hrun, hended, _, _, rfl, ?_, ⟨_, rfl⟩, hW, hsame.mono (by decide) (by decide)⟩
        show Q2 Z a b i j n nn fa g ii jj h0 n0 _ s₁.heap _
        rw [e0]
        exact ⟨(by rw [if_pos hjn70, if_neg hiff70]), N0, rfl⟩
      · have k74 : ∀ tg_, Steps p.tables e below (s₁.setTop (mkF m 44 #[.val (.ref a), .val (.ref b), .val (.int i), .val (.int j)] [(.int (1 : Int32))])) tg_ → Steps p.tables e below (s₁.setTop (entryFrame m #[(.ref a), (.ref b), (.int i), (.int j)] 4)) tg_ := by
          intro tg_ kt
          refine k67 tg_ ?_
          refine XS.icmpYes X0.here hx rfl (pc0 := 28) (pc' := 35) rfl (hb hby d2_28) rfl (feq hc28_68).2 (by decide) (by decide) ?_
          show Steps p.tables e below (s₁.setTop (mkF m 35 #[.val (.ref a), .val (.ref b), .val (.int i), .val (.int j)] [(.int (0 : Int32))])) _
          refine XS.iconst X0.here hx rfl (hb hby d2_35) ?_
          show Steps p.tables e below (s₁.setTop (mkF m 36 #[.val (.ref a), .val (.ref b), .val (.int i), .val (.int j)] [(.int (0 : Int32)), (.int (0 : Int32))])) _
          refine XS.icmpNo X0.here hx rfl (hb hby d2_36) rfl (teq (by decide : (0 : Int32) = (0 : Int32))).2 ?_
          show Steps p.tables e below (s₁.setTop (mkF m 39 #[.val (.ref a), .val (.ref b), .val (.int i), .val (.int j)] [])) _
          refine XS.iconst X0.here hx rfl (hb hby d2_39) ?_
          show Steps p.tables e below (s₁.setTop (mkF m 40 #[.val (.ref a), .val (.ref b), .val (.int i), .val (.int j)] [(.int (1 : Int32))])) _
          refine XS.goto X0.here hx rfl (pc0 := 40) (pc' := 44) rfl (hb hby d2_40) (by decide) (by decide) ?_
          show Steps p.tables e below (s₁.setTop (mkF m 44 #[.val (.ref a), .val (.ref b), .val (.int i), .val (.int j)] [(.int (1 : Int32))])) _
          exact kt
        have hjn75 : jj < n := by
          have ar76 := rng32 j
          have ar77 := rng32 nn
          have ar78 : j.toInt < nn.toInt := Int32.lt_iff_toInt_lt.mp hc3_48
          omega
        have hiff75 :  ((fa ii = fa jj) ↔ (g ii = g jj)) := by
          simp [hc14_54, hc28_68]
        obtain ⟨fs, hr, hrun, hended, hW, hsame⟩ := X0.leave (v := some (.int (1 : Int32))) (fun h => by rw [Bd.returns] at h; cases h)
        refine ⟨_, _, k74 _ (retN X0 hx (t := .boolean) Bd.returns (by simp) (hb hby d2_44) hr), hrun, hended, _, _, rfl, ?_, ⟨_, rfl⟩, hW, hsame.mono (by decide) (by decide)⟩
        show Q2 Z a b i j n nn fa g ii jj h0 n0 _ s₁.heap _
        rw [e0]
        exact ⟨(by rw [if_pos hjn75, if_pos hiff75]), N0, rfl⟩
  · have k79 : ∀ tg_, Steps p.tables e below (s₁.setTop (mkF m 7 #[.val (.ref a), .val (.ref b), .val (.int i), .val (.int j)] [(.int (1 : Int32))])) tg_ → Steps p.tables e below (s₁.setTop (entryFrame m #[(.ref a), (.ref b), (.int i), (.int j)] 4)) tg_ := by
      intro tg_ kt
      refine k47 tg_ ?_
      refine XS.icmpNo X0.here hx rfl (hb hby d2_3) rfl (flt hc3_48).1 ?_
      show Steps p.tables e below (s₁.setTop (mkF m 6 #[.val (.ref a), .val (.ref b), .val (.int i), .val (.int j)] [])) _
      refine XS.iconst X0.here hx rfl (hb hby d2_6) ?_
      show Steps p.tables e below (s₁.setTop (mkF m 7 #[.val (.ref a), .val (.ref b), .val (.int i), .val (.int j)] [(.int (1 : Int32))])) _
      exact kt
    have hjn80 : ¬ jj < n := by
      have ar81 := rng32 j
      have ar82 := rng32 nn
      have ar83 : ¬ (j.toInt < nn.toInt) := fun qq_ => hc3_48 (Int32.lt_iff_toInt_lt.mpr qq_)
      omega
    obtain ⟨fs, hr, hrun, hended, hW, hsame⟩ := X0.leave (v := some (.int (1 : Int32))) (fun h => by rw [Bd.returns] at h; cases h)
    refine ⟨_, _, k79 _ (retN X0 hx (t := .boolean) Bd.returns (by simp) (hb hby d2_7) hr), hrun, hended, _, _, rfl, ?_, ⟨_, rfl⟩, hW, hsame.mono (by decide) (by decide)⟩
    show Q2 Z a b i j n nn fa g ii jj h0 n0 _ s₁.heap _
    rw [e0]
    exact ⟨(by rw [if_neg hjn80]), N0, rfl⟩

theorem own_ren_congr {A B : Nat → Nat} : ∀ x, (∀ j, j < x → A j = B j) → own_ren A x = own_ren B x
  | 0, _ => rfl
  | x + 1, h => by
    have ih := own_ren_congr x (fun j hj => h j (by omega))
    simp only [own_ren, ih, h x (by omega)]
theorem own_out_congr {A B : Nat → Nat} {i : Nat} (h : ∀ j, j ≤ i → A j = B j) : own_out A i = own_out B i := by
  rw [own_out, own_out, own_ren_congr (i + 1) (fun j hj => h j (by omega)), h i (Nat.le_refl _)]
def own_B (a0 a1 a2 a3 : Nat) (i : Nat) : Nat := if i = 0 then a0 else if i = 1 then a1 else if i = 2 then a2 else a3
def own_ok (n : Nat) (B : Nat → Nat) : Bool := ((List.range n).all fun j => (List.range n).all fun i => decide ((B i = B j) ↔ (own_out B i = own_out B j))) && (decide (0 < n → own_out B 0 = 0) && (decide (1 < n → own_out B 1 ≤ own_out B 0 + 1) && (decide (2 < n → own_out B 2 ≤ max (own_out B 0) (own_out B 1) + 1) && decide (3 < n → own_out B 3 ≤ max (max (own_out B 0) (own_out B 1)) (own_out B 2) + 1))))
theorem own_all : ∀ (n : Fin 5) (a0 a1 a2 a3 : Fin 4), own_ok n.1 (own_B a0.1 a1.1 a2.1 a3.1) = true := by decide +kernel
theorem own_fin {n : Nat} {A : Nat → Nat} (hn : n ≤ 4) (hA : ∀ i, i < n → A i < n) : (∀ i j, i < n → j < n → ((A i = A j) ↔ (own_out A i = own_out A j))) ∧ (0 < n → own_out A 0 = 0) ∧ (1 < n → own_out A 1 ≤ own_out A 0 + 1) ∧ (2 < n → own_out A 2 ≤ max (own_out A 0) (own_out A 1) + 1) ∧ (3 < n → own_out A 3 ≤ max (max (own_out A 0) (own_out A 1)) (own_out A 2) + 1) := by
  have q := own_all ⟨n, by omega⟩ (Fin.ofNat 4 (A 0)) (Fin.ofNat 4 (A 1)) (Fin.ofNat 4 (A 2)) (Fin.ofNat 4 (A 3))
  obtain ⟨B, hB⟩ : ∃ B, B = own_B (Fin.ofNat 4 (A 0)).1 (Fin.ofNat 4 (A 1)).1 (Fin.ofNat 4 (A 2)).1 (Fin.ofNat 4 (A 3)).1 := ⟨_, rfl⟩
  have e : ∀ i, i < n → A i = B i := fun i hi => by
    have h := hA i hi
    have hi4 : i = 0 ∨ i = 1 ∨ i = 2 ∨ i = 3 := by omega
    rw [hB]
    rcases hi4 with rfl | rfl | rfl | rfl <;> simp only [own_B, Fin.ofNat] <;> (try simp) <;> omega
  have eo : ∀ i, i < n → own_out A i = own_out B i := fun i hi => own_out_congr (fun j hj => e j (by omega))
  rw [← hB] at q
  simp only [own_ok, Bool.and_eq_true, List.all_eq_true, List.mem_range, decide_eq_true_eq] at q
  obtain ⟨q1, q2, q3, q4, q5⟩ := q
  refine ⟨fun i j hi hj => ?_, fun h => ?_, fun h => ?_, fun h => ?_, fun h => ?_⟩
  · rw [e i hi, e j hj, eo i hi, eo j hj]; exact q1 j hj i hi
  · rw [eo 0 (by omega)]; exact q2 h
  · rw [eo 0 (by omega), eo 1 (by omega)]; exact q3 h
  · rw [eo 0 (by omega), eo 1 (by omega), eo 2 (by omega)]; exact q4 h
  · rw [eo 0 (by omega), eo 1 (by omega), eo 2 (by omega), eo 3 (by omega)]; exact q5 h
theorem own_n (k : Int32) : ∃ n : Nat, ((k &&& (7 : Int32)) % (5 : Int32)).toInt = (n : Int) ∧ n ≤ 4 := by
  have e := c_mask k 7 3 (by decide) (by decide)
  have e1 := c_irem (k &&& 7) 5 5 (by decide)
  exact ⟨((k &&& 7) % 5).toInt.toNat, by omega, by omega⟩
theorem own_el {x nn : Int32} {n : Nat} (hnn : nn.toInt = (n : Int)) (h : 0 < n) : ∃ k : Nat, ((x &&& (2147483647 : Int32)) % nn).toInt = (k : Int) ∧ k < n := by
  have e := c_mask x 2147483647 31 (by decide) (by decide)
  have e2 := (c_iremV (x &&& 2147483647) nn).1 (by rw [e]; exact Int.emod_nonneg _ (by decide)) (by omega)
  exact ⟨((x &&& 2147483647) % nn).toInt.toNat, by omega, by omega⟩

theorem pd_0 : parseMethodDescriptor "([I)[I" = some ⟨[(.array .int)], some (.array .int)⟩ := by decide +kernel
theorem pd_1 : parseMethodDescriptor "([I[III)Z" = some ⟨[(.array .int), (.array .int), .int, .int], some .boolean⟩ := by decide +kernel
theorem pd_2 : parseMethodDescriptor "(II)I" = some ⟨[.int, .int], some .int⟩ := by decide +kernel
theorem pn_0 : plainName "com/example/coterie/coterie/methods/CommunitiesRenumberedPinLaw" = true := by first | (simp [plainName, overriddenIn]; done) | decide +kernel
theorem ef_0 (m : MethodId) (x0 : Int32) (x1 : Int32) (x2 : Int32) (x3 : Int32) (x4 : Int32) : entryFrame m #[(.int x0), (.int x1), (.int x2), (.int x3), (.int x4)] maxLocals = mkF m 0 #[.val (.int x0), .val (.int x1), .val (.int x2), .val (.int x3), .val (.int x4), .unset, .unset, .unset, .unset, .unset] [] := by first | (simp [entryFrame, mkF, argsToLocals, Value.category, maxLocals]; done) | rfl
def Q0 (Z : State) (p0 : Int32) (p1 : Int32) (p2 : Int32) (p3 : Int32) (p4 : Int32) (h0 : Heap) (n0 : Nat) (rv_ : Option Value) (h : Heap) (LL_ : List Loc) : Prop := rv_ = some (.int 1) ∧ Fr n0 LL_
set_option maxRecDepth 65536 in
set_option maxHeartbeats 40000000 in
theorem rm0 (l : Launch) (Z : State) (a0 : Array Value) (hw : ∀ d ∈ tables_1, d.before a0 Z = true) (ws : List Jvm.Cond) (p0 : Int32) (p1 : Int32) (p2 : Int32) (p3 : Int32) (p4 : Int32) (h0 : Heap) (n0 : Nat) (Z0 : n0 ≤ h0.size) :
    MetFree l x (head1 (Jvm.Cond.code x code maxLocals ret :: ws) room_1) (fun aa UU => aa = #[(.int p0), (.int p1), (.int p2), (.int p3), (.int p4)] ∧ Z.Warmed39 UU.vm ∧ UU.heap = h0) (fun _ _ _ _ _ => True) (fun _ UU oo UV => ∃ vv LL, oo = .returned vv ∧ Q0 Z p0 p1 p2 p3 p4 h0 n0 vv UV.heap LL ∧ FrameEnd UU oo UV LL room_1.cells room_1.slots) := by
  refine MetFree.of_bodySF (plainFor_of_name pn_0) hisR ?_
  intro p e s m args below meth c s₁ Bd hml0 hP hK
  obtain ⟨rfl, hZ, hh⟩ := hP
  have hx := Bd.exec
  have hby := Bd.bytes
  have hml : c.maxLocals = 10 := hml0
  have hown : s.vm.findClass "com/example/coterie/coterie/methods/CommunitiesRenumberedPinLaw" = some m.cls := findClass_of_methodNamed Bd.named
  have hnm := (name_of_methodNamed Bd.named Bd.method).1
  have X0 : Stand p l e room_1 s m #[(.int p0), (.int p1), (.int p2), (.int p3), (.int p4)] below meth c s₁ [] 0 0 := Stand.of_body Bd
  have e0 : s₁.heap = h0 := by rw [← hh, Bd.state]; rfl
  have N0 := Fr.nil n0
  have k0 : ∀ tg_, Steps p.tables e below (s₁.setTop (mkF m 0 #[.val (.int p0), .val (.int p1), .val (.int p2), .val (.int p3), .val (.int p4), .unset, .unset, .unset, .unset, .unset] [])) tg_ → Steps p.tables e below (s₁.setTop (entryFrame m #[(.int p0), (.int p1), (.int p2), (.int p3), (.int p4)] maxLocals)) tg_ := fun tg_ k => castTop (ef_0 m p0 p1 p2 p3 p4) k
  have k84 : ∀ tg_, Steps p.tables e below (s₁.setTop (mkF m 6 #[.val (.int p0), .val (.int p1), .val (.int p2), .val (.int p3), .val (.int p4), .unset, .unset, .unset, .unset, .unset] [(.int ((p0 &&& (7 : Int32)) % (5 : Int32)))])) tg_ → Steps p.tables e below (s₁.setTop (entryFrame m #[(.int p0), (.int p1), (.int p2), (.int p3), (.int p4)] maxLocals)) tg_ := by
    intro tg_ kt
    refine k0 tg_ ?_
    refine XS.iloadN X0.here hx rfl (hb hby at_0) rfl ?_
    show Steps p.tables e below (s₁.setTop (mkF m 1 #[.val (.int p0), .val (.int p1), .val (.int p2), .val (.int p3), .val (.int p4), .unset, .unset, .unset, .unset, .unset] [(.int p0)])) _
    refine XS.bipush X0.here hx rfl (hb hby at_1) ?_
    show Steps p.tables e below (s₁.setTop (mkF m 3 #[.val (.int p0), .val (.int p1), .val (.int p2), .val (.int p3), .val (.int p4), .unset, .unset, .unset, .unset, .unset] [(.int (7 : Int32)), (.int p0)])) _
    refine XS.iand X0.here hx rfl (hb hby at_3) rfl ?_
    show Steps p.tables e below (s₁.setTop (mkF m 4 #[.val (.int p0), .val (.int p1), .val (.int p2), .val (.int p3), .val (.int p4), .unset, .unset, .unset, .unset, .unset] [(.int (p0 &&& (7 : Int32)))])) _
    refine XS.iconst X0.here hx rfl (hb hby at_4) ?_
    show Steps p.tables e below (s₁.setTop (mkF m 5 #[.val (.int p0), .val (.int p1), .val (.int p2), .val (.int p3), .val (.int p4), .unset, .unset, .unset, .unset, .unset] [(.int (5 : Int32)), (.int (p0 &&& (7 : Int32)))])) _
    refine iremM X0 hx rfl (hb hby at_5) rfl (by decide) ?_
    show Steps p.tables e below (s₁.setTop (mkF m 6 #[.val (.int p0), .val (.int p1), .val (.int p2), .val (.int p3), .val (.int p4), .unset, .unset, .unset, .unset, .unset] [(.int ((p0 &&& (7 : Int32)) % (5 : Int32)))])) _
    exact kt
  obtain ⟨v85, hv85⟩ : ∃ z : Int32, z = ((p0 &&& (7 : Int32)) % (5 : Int32)) := ⟨_, rfl⟩
  rw [← hv85] at k84
  have k86 : ∀ tg_, Steps p.tables e below (s₁.setTop (mkF m 8 #[.val (.int p0), .val (.int p1), .val (.int p2), .val (.int p3), .val (.int p4), .val (.int v85), .unset, .unset, .unset, .unset] [])) tg_ → Steps p.tables e below (s₁.setTop (entryFrame m #[(.int p0), (.int p1), (.int p2), (.int p3), (.int p4)] maxLocals)) tg_ := by
    intro tg_ kt
    refine k84 tg_ ?_
    refine XS.istore X0.here hx rfl (hb hby at_6) rfl (l' := #[.val (.int p0), .val (.int p1), .val (.int p2), .val (.int p3), .val (.int p4), .val (.int v85), .unset, .unset, .unset, .unset]) rfl ?_
    show Steps p.tables e below (s₁.setTop (mkF m 8 #[.val (.int p0), .val (.int p1), .val (.int p2), .val (.int p3), .val (.int p4), .val (.int v85), .unset, .unset, .unset, .unset] [])) _
    exact kt
  obtain ⟨n, hnn, hn4⟩ : ∃ n : Nat, v85.toInt = (n : Int) ∧ n ≤ 4 := by rw [hv85]; exact own_n _
  obtain ⟨T87, h87, kA87, X87, e87, E87, A87, st87⟩ := newP X0 hx hZ (hw _ (List.mem_of_getElem? (i := 0) rfl)) e0 (g := (mkF m 10 #[.val (.int p0), .val (.int p1), .val (.int p2), .val (.int p3), .val (.int p4), .val (.int v85), .unset, .unset, .unset, .unset] [(.int v85)])) rfl (hb hby at_10) rfl (own_idx hnn).1 (cap := 4) (by rw [(own_idx hnn).2]; omega) (by decide) (by decide) (by decide)
  obtain ⟨b87, g87⟩ : ∃ z, z = h0.size := ⟨_, rfl⟩
  rw [← g87] at A87 st87
  have ge_b87 : n0 ≤ b87 := Nat.le_trans Z0 (Nat.le_of_eq g87.symm)
  have V87 : own_AI Z h87 b87 .int n (fun _ => 0) := own_newI hnn A87 rfl
  have k88 : ∀ tg_, Steps p.tables e below (T87.setTop (mkF m 16 #[.val (.int p0), .val (.int p1), .val (.int p2), .val (.int p3), .val (.int p4), .val (.int v85), .val (.ref b87), .unset, .unset, .unset] [(.int v85)])) tg_ → Steps p.tables e below (s₁.setTop (entryFrame m #[(.int p0), (.int p1), (.int p2), (.int p3), (.int p4)] maxLocals)) tg_ := by
    intro tg_ kt
    refine k86 tg_ ?_
    refine XS.iload X0.here hx rfl (hb hby at_8) rfl ?_
    show Steps p.tables e below (s₁.setTop (mkF m 10 #[.val (.int p0), .val (.int p1), .val (.int p2), .val (.int p3), .val (.int p4), .val (.int v85), .unset, .unset, .unset, .unset] [(.int v85)])) _
    refine st87 _ ?_
    show Steps p.tables e below (T87.setTop (mkF m 12 #[.val (.int p0), .val (.int p1), .val (.int p2), .val (.int p3), .val (.int p4), .val (.int v85), .unset, .unset, .unset, .unset] [(.ref b87)])) _
    refine XS.astore X87.here hx rfl (hb hby at_12) rfl rfl (l' := #[.val (.int p0), .val (.int p1), .val (.int p2), .val (.int p3), .val (.int p4), .val (.int v85), .val (.ref b87), .unset, .unset, .unset]) rfl ?_
    show Steps p.tables e below (T87.setTop (mkF m 14 #[.val (.int p0), .val (.int p1), .val (.int p2), .val (.int p3), .val (.int p4), .val (.int v85), .val (.ref b87), .unset, .unset, .unset] [])) _
    refine XS.iload X87.here hx rfl (hb hby at_14) rfl ?_
    show Steps p.tables e below (T87.setTop (mkF m 16 #[.val (.int p0), .val (.int p1), .val (.int p2), .val (.int p3), .val (.int p4), .val (.int v85), .val (.ref b87), .unset, .unset, .unset] [(.int v85)])) _
    exact kt
  by_cases hc16_89 : (0 : Int32) < v85
  · have k90 : ∀ tg_, Steps p.tables e below (T87.setTop (mkF m 19 #[.val (.int p0), .val (.int p1), .val (.int p2), .val (.int p3), .val (.int p4), .val (.int v85), .val (.ref b87), .unset, .unset, .unset] [])) tg_ → Steps p.tables e below (s₁.setTop (entryFrame m #[(.int p0), (.int p1), (.int p2), (.int p3), (.int p4)] maxLocals)) tg_ := by
      intro tg_ kt
      refine k88 tg_ ?_
      refine XS.ifNo X87.here hx rfl (hb hby at_16) rfl ((if0 _ _).trans (tlt hc16_89).2.2.2) ?_
      show Steps p.tables e below (T87.setTop (mkF m 19 #[.val (.int p0), .val (.int p1), .val (.int p2), .val (.int p3), .val (.int p4), .val (.int v85), .val (.ref b87), .unset, .unset, .unset] [])) _
      exact kt
    have hlt0 : 0 < n := by
      have ar91 : (0 : Int32).toInt = 0 := by decide
      have ar92 := rng32 v85
      have ar93 : (0 : Int32).toInt < v85.toInt := Int32.lt_iff_toInt_lt.mp hc16_89
      omega
    have hnz : ¬ v85 = (0 : Int32) := by
      intro q
      rw [q] at hnn
      have e : (0 : Int32).toInt = 0 := by decide
      omega
    obtain ⟨T94, h94, X94, e94, W94, V94, st94⟩ := own_stI X87 hx hZ e87 V87 (i := 0) (by decide : (0 : Int32).toInt = ((0 : Nat) : Int)) (by omega) (g := (mkF m 29 #[.val (.int p0), .val (.int p1), .val (.int p2), .val (.int p3), .val (.int p4), .val (.int v85), .val (.ref b87), .unset, .unset, .unset] [(.int ((p1 &&& (2147483647 : Int32)) % v85)), (.int (0 : Int32)), (.ref b87)])) rfl rfl (hb hby at_29)
    have N94 := Fr.snoc X94 N0 ge_b87
    have k95 : ∀ tg_, Steps p.tables e below (T94.setTop (mkF m 33 #[.val (.int p0), .val (.int p1), .val (.int p2), .val (.int p3), .val (.int p4), .val (.int v85), .val (.ref b87), .unset, .unset, .unset] [(.int (1 : Int32)), (.int v85)])) tg_ → Steps p.tables e below (s₁.setTop (entryFrame m #[(.int p0), (.int p1), (.int p2), (.int p3), (.int p4)] maxLocals)) tg_ := by
      intro tg_ kt
      refine k90 tg_ ?_
      refine XS.aload X87.here hx rfl (hb hby at_19) rfl rfl ?_
      show Steps p.tables e below (T87.setTop (mkF m 21 #[.val (.int p0), .val (.int p1), .val (.int p2), .val (.int p3), .val (.int p4), .val (.int v85), .val (.ref b87), .unset, .unset, .unset] [(.ref b87)])) _
      refine XS.iconst X87.here hx rfl (hb hby at_21) ?_
      show Steps p.tables e below (T87.setTop (mkF m 22 #[.val (.int p0), .val (.int p1), .val (.int p2), .val (.int p3), .val (.int p4), .val (.int v85), .val (.ref b87), .unset, .unset, .unset] [(.int (0 : Int32)), (.ref b87)])) _
      refine XS.iloadN X87.here hx rfl (hb hby at_22) rfl ?_
      show Steps p.tables e below (T87.setTop (mkF m 23 #[.val (.int p0), .val (.int p1), .val (.int p2), .val (.int p3), .val (.int p4), .val (.int v85), .val (.ref b87), .unset, .unset, .unset] [(.int p1), (.int (0 : Int32)), (.ref b87)])) _
      refine X87.ldcInt hx hown (mvT hZ (hw _ (List.mem_of_getElem? (i := 9) rfl))) (g := (mkF m 23 #[.val (.int p0), .val (.int p1), .val (.int p2), .val (.int p3), .val (.int p4), .val (.int v85), .val (.ref b87), .unset, .unset, .unset] [(.int p1), (.int (0 : Int32)), (.ref b87)])) rfl (hb hby at_23) _ ?_
      show Steps p.tables e below (T87.setTop (mkF m 25 #[.val (.int p0), .val (.int p1), .val (.int p2), .val (.int p3), .val (.int p4), .val (.int v85), .val (.ref b87), .unset, .unset, .unset] [(.int (2147483647 : Int32)), (.int p1), (.int (0 : Int32)), (.ref b87)])) _
      refine XS.iand X87.here hx rfl (hb hby at_25) rfl ?_
      show Steps p.tables e below (T87.setTop (mkF m 26 #[.val (.int p0), .val (.int p1), .val (.int p2), .val (.int p3), .val (.int p4), .val (.int v85), .val (.ref b87), .unset, .unset, .unset] [(.int (p1 &&& (2147483647 : Int32))), (.int (0 : Int32)), (.ref b87)])) _
      refine XS.iload X87.here hx rfl (hb hby at_26) rfl ?_
      show Steps p.tables e below (T87.setTop (mkF m 28 #[.val (.int p0), .val (.int p1), .val (.int p2), .val (.int p3), .val (.int p4), .val (.int v85), .val (.ref b87), .unset, .unset, .unset] [(.int v85), (.int (p1 &&& (2147483647 : Int32))), (.int (0 : Int32)), (.ref b87)])) _
      refine iremM X87 hx rfl (hb hby at_28) rfl hnz ?_
      show Steps p.tables e below (T87.setTop (mkF m 29 #[.val (.int p0), .val (.int p1), .val (.int p2), .val (.int p3), .val (.int p4), .val (.int v85), .val (.ref b87), .unset, .unset, .unset] [(.int ((p1 &&& (2147483647 : Int32)) % v85)), (.int (0 : Int32)), (.ref b87)])) _
      refine st94 _ ?_
      show Steps p.tables e below (T94.setTop (mkF m 30 #[.val (.int p0), .val (.int p1), .val (.int p2), .val (.int p3), .val (.int p4), .val (.int v85), .val (.ref b87), .unset, .unset, .unset] [])) _
      refine XS.iload X94.here hx rfl (hb hby at_30) rfl ?_
      show Steps p.tables e below (T94.setTop (mkF m 32 #[.val (.int p0), .val (.int p1), .val (.int p2), .val (.int p3), .val (.int p4), .val (.int v85), .val (.ref b87), .unset, .unset, .unset] [(.int v85)])) _
      refine XS.iconst X94.here hx rfl (hb hby at_32) ?_
      show Steps p.tables e below (T94.setTop (mkF m 33 #[.val (.int p0), .val (.int p1), .val (.int p2), .val (.int p3), .val (.int p4), .val (.int v85), .val (.ref b87), .unset, .unset, .unset] [(.int (1 : Int32)), (.int v85)])) _
      exact kt
    by_cases hc33_96 : (1 : Int32) < v85
    · have k97 : ∀ tg_, Steps p.tables e below (T94.setTop (mkF m 36 #[.val (.int p0), .val (.int p1), .val (.int p2), .val (.int p3), .val (.int p4), .val (.int v85), .val (.ref b87), .unset, .unset, .unset] [])) tg_ → Steps p.tables e below (s₁.setTop (entryFrame m #[(.int p0), (.int p1), (.int p2), (.int p3), (.int p4)] maxLocals)) tg_ := by
        intro tg_ kt
        refine k95 tg_ ?_
        refine XS.icmpNo X94.here hx rfl (hb hby at_33) rfl (tlt hc33_96).2.2.2 ?_
        show Steps p.tables e below (T94.setTop (mkF m 36 #[.val (.int p0), .val (.int p1), .val (.int p2), .val (.int p3), .val (.int p4), .val (.int v85), .val (.ref b87), .unset, .unset, .unset] [])) _
        exact kt
      have hlt1 : 1 < n := by
        have ar98 : (1 : Int32).toInt = 1 := by decide
        have ar99 := rng32 v85
        have ar100 : (1 : Int32).toInt < v85.toInt := Int32.lt_iff_toInt_lt.mp hc33_96
        omega
      obtain ⟨T101, h101, X101, e101, W101, V101, st101⟩ := own_stI X94 hx hZ e94 V94 (i := 1) (by decide : (1 : Int32).toInt = ((1 : Nat) : Int)) (by omega) (g := (mkF m 46 #[.val (.int p0), .val (.int p1), .val (.int p2), .val (.int p3), .val (.int p4), .val (.int v85), .val (.ref b87), .unset, .unset, .unset] [(.int ((p2 &&& (2147483647 : Int32)) % v85)), (.int (1 : Int32)), (.ref b87)])) rfl rfl (hb hby at_46)
      have N101 := Fr.snoc X101 N94 ge_b87
      have k102 : ∀ tg_, Steps p.tables e below (T101.setTop (mkF m 50 #[.val (.int p0), .val (.int p1), .val (.int p2), .val (.int p3), .val (.int p4), .val (.int v85), .val (.ref b87), .unset, .unset, .unset] [(.int (2 : Int32)), (.int v85)])) tg_ → Steps p.tables e below (s₁.setTop (entryFrame m #[(.int p0), (.int p1), (.int p2), (.int p3), (.int p4)] maxLocals)) tg_ := by
        intro tg_ kt
        refine k97 tg_ ?_
        refine XS.aload X94.here hx rfl (hb hby at_36) rfl rfl ?_
        show Steps p.tables e below (T94.setTop (mkF m 38 #[.val (.int p0), .val (.int p1), .val (.int p2), .val (.int p3), .val (.int p4), .val (.int v85), .val (.ref b87), .unset, .unset, .unset] [(.ref b87)])) _
        refine XS.iconst X94.here hx rfl (hb hby at_38) ?_
        show Steps p.tables e below (T94.setTop (mkF m 39 #[.val (.int p0), .val (.int p1), .val (.int p2), .val (.int p3), .val (.int p4), .val (.int v85), .val (.ref b87), .unset, .unset, .unset] [(.int (1 : Int32)), (.ref b87)])) _
        refine XS.iloadN X94.here hx rfl (hb hby at_39) rfl ?_
        show Steps p.tables e below (T94.setTop (mkF m 40 #[.val (.int p0), .val (.int p1), .val (.int p2), .val (.int p3), .val (.int p4), .val (.int v85), .val (.ref b87), .unset, .unset, .unset] [(.int p2), (.int (1 : Int32)), (.ref b87)])) _
        refine X94.ldcInt hx hown (mvT hZ (hw _ (List.mem_of_getElem? (i := 9) rfl))) (g := (mkF m 40 #[.val (.int p0), .val (.int p1), .val (.int p2), .val (.int p3), .val (.int p4), .val (.int v85), .val (.ref b87), .unset, .unset, .unset] [(.int p2), (.int (1 : Int32)), (.ref b87)])) rfl (hb hby at_40) _ ?_
        show Steps p.tables e below (T94.setTop (mkF m 42 #[.val (.int p0), .val (.int p1), .val (.int p2), .val (.int p3), .val (.int p4), .val (.int v85), .val (.ref b87), .unset, .unset, .unset] [(.int (2147483647 : Int32)), (.int p2), (.int (1 : Int32)), (.ref b87)])) _
        refine XS.iand X94.here hx rfl (hb hby at_42) rfl ?_
        show Steps p.tables e below (T94.setTop (mkF m 43 #[.val (.int p0), .val (.int p1), .val (.int p2), .val (.int p3), .val (.int p4), .val (.int v85), .val (.ref b87), .unset, .unset, .unset] [(.int (p2 &&& (2147483647 : Int32))), (.int (1 : Int32)), (.ref b87)])) _
        refine XS.iload X94.here hx rfl (hb hby at_43) rfl ?_
        show Steps p.tables e below (T94.setTop (mkF m 45 #[.val (.int p0), .val (.int p1), .val (.int p2), .val (.int p3), .val (.int p4), .val (.int v85), .val (.ref b87), .unset, .unset, .unset] [(.int v85), (.int (p2 &&& (2147483647 : Int32))), (.int (1 : Int32)), (.ref b87)])) _
        refine iremM X94 hx rfl (hb hby at_45) rfl hnz ?_
        show Steps p.tables e below (T94.setTop (mkF m 46 #[.val (.int p0), .val (.int p1), .val (.int p2), .val (.int p3), .val (.int p4), .val (.int v85), .val (.ref b87), .unset, .unset, .unset] [(.int ((p2 &&& (2147483647 : Int32)) % v85)), (.int (1 : Int32)), (.ref b87)])) _
        refine st101 _ ?_
        show Steps p.tables e below (T101.setTop (mkF m 47 #[.val (.int p0), .val (.int p1), .val (.int p2), .val (.int p3), .val (.int p4), .val (.int v85), .val (.ref b87), .unset, .unset, .unset] [])) _
        refine XS.iload X101.here hx rfl (hb hby at_47) rfl ?_
        show Steps p.tables e below (T101.setTop (mkF m 49 #[.val (.int p0), .val (.int p1), .val (.int p2), .val (.int p3), .val (.int p4), .val (.int v85), .val (.ref b87), .unset, .unset, .unset] [(.int v85)])) _
        refine XS.iconst X101.here hx rfl (hb hby at_49) ?_
        show Steps p.tables e below (T101.setTop (mkF m 50 #[.val (.int p0), .val (.int p1), .val (.int p2), .val (.int p3), .val (.int p4), .val (.int v85), .val (.ref b87), .unset, .unset, .unset] [(.int (2 : Int32)), (.int v85)])) _
        exact kt
      by_cases hc50_103 : (2 : Int32) < v85
      · have k104 : ∀ tg_, Steps p.tables e below (T101.setTop (mkF m 53 #[.val (.int p0), .val (.int p1), .val (.int p2), .val (.int p3), .val (.int p4), .val (.int v85), .val (.ref b87), .unset, .unset, .unset] [])) tg_ → Steps p.tables e below (s₁.setTop (entryFrame m #[(.int p0), (.int p1), (.int p2), (.int p3), (.int p4)] maxLocals)) tg_ := by
          intro tg_ kt
          refine k102 tg_ ?_
          refine XS.icmpNo X101.here hx rfl (hb hby at_50) rfl (tlt hc50_103).2.2.2 ?_
          show Steps p.tables e below (T101.setTop (mkF m 53 #[.val (.int p0), .val (.int p1), .val (.int p2), .val (.int p3), .val (.int p4), .val (.int v85), .val (.ref b87), .unset, .unset, .unset] [])) _
          exact kt
        have hlt2 : 2 < n := by
          have ar105 : (2 : Int32).toInt = 2 := by decide
          have ar106 := rng32 v85
          have ar107 : (2 : Int32).toInt < v85.toInt := Int32.lt_iff_toInt_lt.mp hc50_103
          omega
        obtain ⟨T108, h108, X108, e108, W108, V108, st108⟩ := own_stI X101 hx hZ e101 V101 (i := 2) (by decide : (2 : Int32).toInt = ((2 : Nat) : Int)) (by omega) (g := (mkF m 63 #[.val (.int p0), .val (.int p1), .val (.int p2), .val (.int p3), .val (.int p4), .val (.int v85), .val (.ref b87), .unset, .unset, .unset] [(.int ((p3 &&& (2147483647 : Int32)) % v85)), (.int (2 : Int32)), (.ref b87)])) rfl rfl (hb hby at_63)
        have N108 := Fr.snoc X108 N101 ge_b87
        have k109 : ∀ tg_, Steps p.tables e below (T108.setTop (mkF m 67 #[.val (.int p0), .val (.int p1), .val (.int p2), .val (.int p3), .val (.int p4), .val (.int v85), .val (.ref b87), .unset, .unset, .unset] [(.int (3 : Int32)), (.int v85)])) tg_ → Steps p.tables e below (s₁.setTop (entryFrame m #[(.int p0), (.int p1), (.int p2), (.int p3), (.int p4)] maxLocals)) tg_ := by
          intro tg_ kt
          refine k104 tg_ ?_
          refine XS.aload X101.here hx rfl (hb hby at_53) rfl rfl ?_
          show Steps p.tables e below (T101.setTop (mkF m 55 #[.val (.int p0), .val (.int p1), .val (.int p2), .val (.int p3), .val (.int p4), .val (.int v85), .val (.ref b87), .unset, .unset, .unset] [(.ref b87)])) _
          refine XS.iconst X101.here hx rfl (hb hby at_55) ?_
          show Steps p.tables e below (T101.setTop (mkF m 56 #[.val (.int p0), .val (.int p1), .val (.int p2), .val (.int p3), .val (.int p4), .val (.int v85), .val (.ref b87), .unset, .unset, .unset] [(.int (2 : Int32)), (.ref b87)])) _
          refine XS.iloadN X101.here hx rfl (hb hby at_56) rfl ?_
          show Steps p.tables e below (T101.setTop (mkF m 57 #[.val (.int p0), .val (.int p1), .val (.int p2), .val (.int p3), .val (.int p4), .val (.int v85), .val (.ref b87), .unset, .unset, .unset] [(.int p3), (.int (2 : Int32)), (.ref b87)])) _
          refine X101.ldcInt hx hown (mvT hZ (hw _ (List.mem_of_getElem? (i := 9) rfl))) (g := (mkF m 57 #[.val (.int p0), .val (.int p1), .val (.int p2), .val (.int p3), .val (.int p4), .val (.int v85), .val (.ref b87), .unset, .unset, .unset] [(.int p3), (.int (2 : Int32)), (.ref b87)])) rfl (hb hby at_57) _ ?_
          show Steps p.tables e below (T101.setTop (mkF m 59 #[.val (.int p0), .val (.int p1), .val (.int p2), .val (.int p3), .val (.int p4), .val (.int v85), .val (.ref b87), .unset, .unset, .unset] [(.int (2147483647 : Int32)), (.int p3), (.int (2 : Int32)), (.ref b87)])) _
          refine XS.iand X101.here hx rfl (hb hby at_59) rfl ?_
          show Steps p.tables e below (T101.setTop (mkF m 60 #[.val (.int p0), .val (.int p1), .val (.int p2), .val (.int p3), .val (.int p4), .val (.int v85), .val (.ref b87), .unset, .unset, .unset] [(.int (p3 &&& (2147483647 : Int32))), (.int (2 : Int32)), (.ref b87)])) _
          refine XS.iload X101.here hx rfl (hb hby at_60) rfl ?_
          show Steps p.tables e below (T101.setTop (mkF m 62 #[.val (.int p0), .val (.int p1), .val (.int p2), .val (.int p3), .val (.int p4), .val (.int v85), .val (.ref b87), .unset, .unset, .unset] [(.int v85), (.int (p3 &&& (2147483647 : Int32))), (.int (2 : Int32)), (.ref b87)])) _
          refine iremM X101 hx rfl (hb hby at_62) rfl hnz ?_
          show Steps p.tables e below (T101.setTop (mkF m 63 #[.val (.int p0), .val (.int p1), .val (.int p2), .val (.int p3), .val (.int p4), .val (.int v85), .val (.ref b87), .unset, .unset, .unset] [(.int ((p3 &&& (2147483647 : Int32)) % v85)), (.int (2 : Int32)), (.ref b87)])) _
          refine st108 _ ?_
          show Steps p.tables e below (T108.setTop (mkF m 64 #[.val (.int p0), .val (.int p1), .val (.int p2), .val (.int p3), .val (.int p4), .val (.int v85), .val (.ref b87), .unset, .unset, .unset] [])) _
          refine XS.iload X108.here hx rfl (hb hby at_64) rfl ?_
          show Steps p.tables e below (T108.setTop (mkF m 66 #[.val (.int p0), .val (.int p1), .val (.int p2), .val (.int p3), .val (.int p4), .val (.int v85), .val (.ref b87), .unset, .unset, .unset] [(.int v85)])) _
          refine XS.iconst X108.here hx rfl (hb hby at_66) ?_
          show Steps p.tables e below (T108.setTop (mkF m 67 #[.val (.int p0), .val (.int p1), .val (.int p2), .val (.int p3), .val (.int p4), .val (.int v85), .val (.ref b87), .unset, .unset, .unset] [(.int (3 : Int32)), (.int v85)])) _
          exact kt
        by_cases hc67_110 : (3 : Int32) < v85
        · have k111 : ∀ tg_, Steps p.tables e below (T108.setTop (mkF m 70 #[.val (.int p0), .val (.int p1), .val (.int p2), .val (.int p3), .val (.int p4), .val (.int v85), .val (.ref b87), .unset, .unset, .unset] [])) tg_ → Steps p.tables e below (s₁.setTop (entryFrame m #[(.int p0), (.int p1), (.int p2), (.int p3), (.int p4)] maxLocals)) tg_ := by
            intro tg_ kt
            refine k109 tg_ ?_
            refine XS.icmpNo X108.here hx rfl (hb hby at_67) rfl (tlt hc67_110).2.2.2 ?_
            show Steps p.tables e below (T108.setTop (mkF m 70 #[.val (.int p0), .val (.int p1), .val (.int p2), .val (.int p3), .val (.int p4), .val (.int v85), .val (.ref b87), .unset, .unset, .unset] [])) _
            exact kt
          have hlt3 : 3 < n := by
            have ar112 : (3 : Int32).toInt = 3 := by decide
            have ar113 := rng32 v85
            have ar114 : (3 : Int32).toInt < v85.toInt := Int32.lt_iff_toInt_lt.mp hc67_110
            omega
          obtain ⟨T115, h115, X115, e115, W115, V115, st115⟩ := own_stI X108 hx hZ e108 V108 (i := 3) (by decide : (3 : Int32).toInt = ((3 : Nat) : Int)) (by omega) (g := (mkF m 81 #[.val (.int p0), .val (.int p1), .val (.int p2), .val (.int p3), .val (.int p4), .val (.int v85), .val (.ref b87), .unset, .unset, .unset] [(.int ((p4 &&& (2147483647 : Int32)) % v85)), (.int (3 : Int32)), (.ref b87)])) rfl rfl (hb hby at_81)
          have N115 := Fr.snoc X115 N108 ge_b87
          have k116 : ∀ tg_, Steps p.tables e below (T115.setTop (mkF m 82 #[.val (.int p0), .val (.int p1), .val (.int p2), .val (.int p3), .val (.int p4), .val (.int v85), .val (.ref b87), .unset, .unset, .unset] [])) tg_ → Steps p.tables e below (s₁.setTop (entryFrame m #[(.int p0), (.int p1), (.int p2), (.int p3), (.int p4)] maxLocals)) tg_ := by
            intro tg_ kt
            refine k111 tg_ ?_
            refine XS.aload X108.here hx rfl (hb hby at_70) rfl rfl ?_
            show Steps p.tables e below (T108.setTop (mkF m 72 #[.val (.int p0), .val (.int p1), .val (.int p2), .val (.int p3), .val (.int p4), .val (.int v85), .val (.ref b87), .unset, .unset, .unset] [(.ref b87)])) _
            refine XS.iconst X108.here hx rfl (hb hby at_72) ?_
            show Steps p.tables e below (T108.setTop (mkF m 73 #[.val (.int p0), .val (.int p1), .val (.int p2), .val (.int p3), .val (.int p4), .val (.int v85), .val (.ref b87), .unset, .unset, .unset] [(.int (3 : Int32)), (.ref b87)])) _
            refine XS.iload X108.here hx rfl (hb hby at_73) rfl ?_
            show Steps p.tables e below (T108.setTop (mkF m 75 #[.val (.int p0), .val (.int p1), .val (.int p2), .val (.int p3), .val (.int p4), .val (.int v85), .val (.ref b87), .unset, .unset, .unset] [(.int p4), (.int (3 : Int32)), (.ref b87)])) _
            refine X108.ldcInt hx hown (mvT hZ (hw _ (List.mem_of_getElem? (i := 9) rfl))) (g := (mkF m 75 #[.val (.int p0), .val (.int p1), .val (.int p2), .val (.int p3), .val (.int p4), .val (.int v85), .val (.ref b87), .unset, .unset, .unset] [(.int p4), (.int (3 : Int32)), (.ref b87)])) rfl (hb hby at_75) _ ?_
            show Steps p.tables e below (T108.setTop (mkF m 77 #[.val (.int p0), .val (.int p1), .val (.int p2), .val (.int p3), .val (.int p4), .val (.int v85), .val (.ref b87), .unset, .unset, .unset] [(.int (2147483647 : Int32)), (.int p4), (.int (3 : Int32)), (.ref b87)])) _
            refine XS.iand X108.here hx rfl (hb hby at_77) rfl ?_
            show Steps p.tables e below (T108.setTop (mkF m 78 #[.val (.int p0), .val (.int p1), .val (.int p2), .val (.int p3), .val (.int p4), .val (.int v85), .val (.ref b87), .unset, .unset, .unset] [(.int (p4 &&& (2147483647 : Int32))), (.int (3 : Int32)), (.ref b87)])) _
            refine XS.iload X108.here hx rfl (hb hby at_78) rfl ?_
            show Steps p.tables e below (T108.setTop (mkF m 80 #[.val (.int p0), .val (.int p1), .val (.int p2), .val (.int p3), .val (.int p4), .val (.int v85), .val (.ref b87), .unset, .unset, .unset] [(.int v85), (.int (p4 &&& (2147483647 : Int32))), (.int (3 : Int32)), (.ref b87)])) _
            refine iremM X108 hx rfl (hb hby at_80) rfl hnz ?_
            show Steps p.tables e below (T108.setTop (mkF m 81 #[.val (.int p0), .val (.int p1), .val (.int p2), .val (.int p3), .val (.int p4), .val (.int v85), .val (.ref b87), .unset, .unset, .unset] [(.int ((p4 &&& (2147483647 : Int32)) % v85)), (.int (3 : Int32)), (.ref b87)])) _
            refine st115 _ ?_
            show Steps p.tables e below (T115.setTop (mkF m 82 #[.val (.int p0), .val (.int p1), .val (.int p2), .val (.int p3), .val (.int p4), .val (.int v85), .val (.ref b87), .unset, .unset, .unset] [])) _
            exact kt
          have hnc : n = 4 := by
            have ar117 : (0 : Int32).toInt = 0 := by decide
            have ar118 := rng32 v85
            have ar119 : (0 : Int32).toInt < v85.toInt := Int32.lt_iff_toInt_lt.mp hc16_89
            have ar120 : (1 : Int32).toInt = 1 := by decide
            have ar121 : (1 : Int32).toInt < v85.toInt := Int32.lt_iff_toInt_lt.mp hc33_96
            have ar122 : (2 : Int32).toInt = 2 := by decide
            have ar123 : (2 : Int32).toInt < v85.toInt := Int32.lt_iff_toInt_lt.mp hc50_103
            have ar124 : (3 : Int32).toInt = 3 := by decide
            have ar125 : (3 : Int32).toInt < v85.toInt := Int32.lt_iff_toInt_lt.mp hc67_110
            have hv := hnn
            omega
          obtain ⟨fa126, hfa126⟩ : ∃ z : Nat → Int32, z = (own_upd (own_upd (own_upd (own_upd (fun _ => 0) 0 ((p1 &&& (2147483647 : Int32)) % v85)) 1 ((p2 &&& (2147483647 : Int32)) % v85)) 2 ((p3 &&& (2147483647 : Int32)) % v85)) 3 ((p4 &&& (2147483647 : Int32)) % v85)) := ⟨_, rfl⟩
          rw [← hfa126] at V115
          obtain ⟨A, hAd⟩ : ∃ A : Nat → Nat, A = fun i => (fa126 i).toInt.toNat := ⟨_, rfl⟩
          have hA : ∀ i, i < n → (fa126 i).toInt = ((A i : Nat) : Int) ∧ A i < n := by
            intro i hi
            have hi4 : i = 0 ∨ i = 1 ∨ i = 2 ∨ i = 3 := by omega
            rcases hi4 with rfl | rfl | rfl | rfl
            · obtain ⟨k, hk, hkn⟩ := own_el (x := p1) hnn hlt0
              have e : fa126 0 = ((p1 &&& (2147483647 : Int32)) % v85) := by rw [hfa126]; rfl
              rw [hAd]; dsimp only; rw [e]; omega
            · obtain ⟨k, hk, hkn⟩ := own_el (x := p2) hnn hlt0
              have e : fa126 1 = ((p2 &&& (2147483647 : Int32)) % v85) := by rw [hfa126]; rfl
              rw [hAd]; dsimp only; rw [e]; omega
            · obtain ⟨k, hk, hkn⟩ := own_el (x := p3) hnn hlt0
              have e : fa126 2 = ((p3 &&& (2147483647 : Int32)) % v85) := by rw [hfa126]; rfl
              rw [hAd]; dsimp only; rw [e]; omega
            · obtain ⟨k, hk, hkn⟩ := own_el (x := p4) hnn hlt0
              have e : fa126 3 = ((p4 &&& (2147483647 : Int32)) % v85) := by rw [hfa126]; rfl
              rw [hAd]; dsimp only; rw [e]; omega
          have hfin := own_fin hn4 (fun i hi => (hA i hi).2)
          obtain ⟨hf1, hf2, hf3, hf4, hf5⟩ := hfin
          have f127 := (Nat.le_trans (Nat.le_trans (Nat.le_trans (Nat.le_trans (Nat.le_trans Z0 ((Keep.refl _ []).ext E87).1) (Keep.of_wr W94).1) (Keep.of_wr W101).1) (Keep.of_wr W108).1) (Keep.of_wr W115).1)
          obtain ⟨_, _, ⟨T128, L128, kc128, nc128⟩, -, X128, ⟨Lc128, hQ128, l128, y128, z128⟩, st128⟩ := Jvm.LawKit.callS X115 hx (y := (⟨"com/example/coterie/coterie/methods/Communities", "renumbered", "([I)[I"⟩ : MethodName)) hown (mvT hZ (hw _ (List.mem_of_getElem? (i := 1) rfl))) (mvT hZ (hw _ (List.mem_of_getElem? (i := 2) rfl))) (mvT hZ (hw _ (List.mem_of_getElem? (i := 3) rfl))) (mvT hZ (hw _ (List.mem_of_getElem? (i := 4) rfl))) (by decide) (backOf (W := 0) (rm1 l Z a0 hw [] b87 n v85 fa126 A h115 n0 f127 V115 hnn hn4 hA) hZ (hw _ (List.mem_of_getElem? (i := 4) rfl)) (hw _ (List.mem_of_getElem? (i := 3) rfl)) (by decide) (by decide)) (g := (mkF m 84 #[.val (.int p0), .val (.int p1), .val (.int p2), .val (.int p3), .val (.int p4), .val (.int v85), .val (.ref b87), .unset, .unset, .unset] [(.ref b87)])) rfl (by rw [hml]; rfl) (argsL := [(.ref b87)]) (rest := []) (lenOf pd_0 rfl) rfl (by show 2 * 0 + _ ≤ _; exact Nat.le_of_eq rfl) (hb hby at_84) (fun _ _ => ⟨rfl, e115, (by decide : 1 + 2 ≤ _), (by decide : 4 + 8 ≤ _)⟩)
          dsimp only [Pt.U, Pt.locs, Pt.cells, Pt.slots] at X128 l128 y128 z128 st128 hQ128
          subst l128 y128 z128
          obtain ⟨-, Nq128, oK128, m0_128⟩ := hQ128
          have N128 := Fr.app N115 Nq128
          obtain ⟨b128, g128, rfl, Vr128, hr128, gb128, sb128⟩ := m0_128
          have k129 : ∀ tg_, Steps p.tables e below (T128.setTop (mkF m 89 #[.val (.int p0), .val (.int p1), .val (.int p2), .val (.int p3), .val (.int p4), .val (.int v85), .val (.ref b87), .val (.ref b128), .unset, .unset] [])) tg_ → Steps p.tables e below (s₁.setTop (entryFrame m #[(.int p0), (.int p1), (.int p2), (.int p3), (.int p4)] maxLocals)) tg_ := by
            intro tg_ kt
            refine k116 tg_ ?_
            refine XS.aload X115.here hx rfl (hb hby at_82) rfl rfl ?_
            show Steps p.tables e below (T115.setTop (mkF m 84 #[.val (.int p0), .val (.int p1), .val (.int p2), .val (.int p3), .val (.int p4), .val (.int v85), .val (.ref b87), .unset, .unset, .unset] [(.ref b87)])) _
            refine st128 _ ?_
            show Steps p.tables e below (T128.setTop (mkF m 87 #[.val (.int p0), .val (.int p1), .val (.int p2), .val (.int p3), .val (.int p4), .val (.int v85), .val (.ref b87), .unset, .unset, .unset] [(.ref b128)])) _
            refine XS.astore X128.here hx rfl (hb hby at_87) rfl rfl (l' := #[.val (.int p0), .val (.int p1), .val (.int p2), .val (.int p3), .val (.int p4), .val (.int v85), .val (.ref b87), .val (.ref b128), .unset, .unset]) rfl ?_
            show Steps p.tables e below (T128.setTop (mkF m 89 #[.val (.int p0), .val (.int p1), .val (.int p2), .val (.int p3), .val (.int p4), .val (.int v85), .val (.ref b87), .val (.ref b128), .unset, .unset] [])) _
            exact kt
          have hg0 : (g128 0).toInt = ((own_out A 0 : Nat) : Int) := hr128 0 (by omega)
          have hg1 : (g128 1).toInt = ((own_out A 1 : Nat) : Int) := hr128 1 (by omega)
          have hg2 : (g128 2).toInt = ((own_out A 2 : Nat) : Int) := hr128 2 (by omega)
          have hg3 : (g128 3).toInt = ((own_out A 3 : Nat) : Int) := hr128 3 (by omega)
          have ho0 := hf2 (by omega)
          have ho1 := hf3 (by omega)
          have ho2 := hf4 (by omega)
          have ho3 := hf5 (by omega)
          have hc99_130 : v85 = v85 := rfl
          have f131 := (V115.keep oK128 nin0)
          obtain ⟨_, _, ⟨T132, L132, kc132, nc132⟩, -, X132, ⟨Lc132, hQ132, l132, y132, z132⟩, st132⟩ := Jvm.LawKit.callS X128 hx (y := (⟨"com/example/coterie/coterie/methods/CommunitiesRenumberedPinLaw", "pair", "([I[III)Z"⟩ : MethodName)) hown (mvT hZ (hw _ (List.mem_of_getElem? (i := 5) rfl))) (mvT hZ (hw _ (List.mem_of_getElem? (i := 6) rfl))) (mvT hZ (hw _ (List.mem_of_getElem? (i := 7) rfl))) (mvT hZ (hw _ (List.mem_of_getElem? (i := 8) rfl))) (by decide) (backOf (W := 0) (rm2 l Z a0 hw [] b87 b128 (0 : Int32) (1 : Int32) n v85 fa126 g128 0 1 T128.heap n0 f131 Vr128 hnn (by decide) (by decide) (by decide)) hZ (hw _ (List.mem_of_getElem? (i := 8) rfl)) (hw _ (List.mem_of_getElem? (i := 7) rfl)) (by decide) (by decide)) (g := (mkF m 110 #[.val (.int p0), .val (.int p1), .val (.int p2), .val (.int p3), .val (.int p4), .val (.int v85), .val (.ref b87), .val (.ref b128), .unset, .unset] [(.int (1 : Int32)), (.int (0 : Int32)), (.ref b128), (.ref b87)])) rfl (by rw [hml]; rfl) (argsL := [(.ref b87), (.ref b128), (.int (0 : Int32)), (.int (1 : Int32))]) (rest := []) (lenOf pd_1 rfl) rfl (by show 2 * 0 + _ ≤ _; exact Nat.le_of_eq rfl) (hb hby at_110) (fun _ _ => ⟨rfl, rfl, (by decide : 3 + 0 ≤ _), (by decide : 12 + 0 ≤ _)⟩)
          dsimp only [Pt.U, Pt.locs, Pt.cells, Pt.slots] at X132 l132 y132 z132 st132 hQ132
          subst l132 y132 z132
          obtain ⟨rfl, Nq132, eq132⟩ := hQ132
          have N132 := Fr.app N128 Nq132
          have hpi133 : ((fa126 0 = fa126 1) ↔ (g128 0 = g128 1)) := by
            have a := hf1 0 1 (by omega) (by omega)
            have b := hA 0 (by omega)
            have d := hA 1 (by omega)
            constructor
            · intro q; apply Int32.toInt_inj.mp; have q' := congrArg Int32.toInt q; rw [hg0, hg1, a.mp (by omega)]
            · intro q; apply Int32.toInt_inj.mp; have q' := congrArg Int32.toInt q; rw [hg0, hg1] at q'; rw [b.1, d.1, a.mpr (by omega)]
          have hc113_134 : ¬ ((if 1 < n then (if ((fa126 0 = fa126 1) ↔ (g128 0 = g128 1)) then (1 : Int32) else (0 : Int32)) else (1 : Int32)) = (0 : Int32)) := (by rw [if_pos (by omega : 1 < n), if_pos hpi133]; decide)
          obtain ⟨_, _, ⟨T135, L135, kc135, nc135⟩, -, X135, ⟨Lc135, hQ135, l135, y135, z135⟩, st135⟩ := Jvm.LawKit.callS X132 hx (y := (⟨"com/example/coterie/coterie/methods/CommunitiesRenumberedPinLaw", "pair", "([I[III)Z"⟩ : MethodName)) hown (mvT hZ (hw _ (List.mem_of_getElem? (i := 5) rfl))) (mvT hZ (hw _ (List.mem_of_getElem? (i := 6) rfl))) (mvT hZ (hw _ (List.mem_of_getElem? (i := 7) rfl))) (mvT hZ (hw _ (List.mem_of_getElem? (i := 8) rfl))) (by decide) (backOf (W := 0) (rm2 l Z a0 hw [] b87 b128 (0 : Int32) (2 : Int32) n v85 fa126 g128 0 2 T128.heap n0 f131 Vr128 hnn (by decide) (by decide) (by decide)) hZ (hw _ (List.mem_of_getElem? (i := 8) rfl)) (hw _ (List.mem_of_getElem? (i := 7) rfl)) (by decide) (by decide)) (g := (mkF m 122 #[.val (.int p0), .val (.int p1), .val (.int p2), .val (.int p3), .val (.int p4), .val (.int v85), .val (.ref b87), .val (.ref b128), .unset, .unset] [(.int (2 : Int32)), (.int (0 : Int32)), (.ref b128), (.ref b87)])) rfl (by rw [hml]; rfl) (argsL := [(.ref b87), (.ref b128), (.int (0 : Int32)), (.int (2 : Int32))]) (rest := []) (lenOf pd_1 rfl) rfl (by show 2 * 0 + _ ≤ _; exact Nat.le_of_eq rfl) (hb hby at_122) (fun _ _ => ⟨rfl, eq132, (by decide : 3 + 0 ≤ _), (by decide : 12 + 0 ≤ _)⟩)
          dsimp only [Pt.U, Pt.locs, Pt.cells, Pt.slots] at X135 l135 y135 z135 st135 hQ135
          subst l135 y135 z135
          obtain ⟨rfl, Nq135, eq135⟩ := hQ135
          have N135 := Fr.app N132 Nq135
          have hpi136 : ((fa126 0 = fa126 2) ↔ (g128 0 = g128 2)) := by
            have a := hf1 0 2 (by omega) (by omega)
            have b := hA 0 (by omega)
            have d := hA 2 (by omega)
            constructor
            · intro q; apply Int32.toInt_inj.mp; have q' := congrArg Int32.toInt q; rw [hg0, hg2, a.mp (by omega)]
            · intro q; apply Int32.toInt_inj.mp; have q' := congrArg Int32.toInt q; rw [hg0, hg2] at q'; rw [b.1, d.1, a.mpr (by omega)]
          have hc125_137 : ¬ ((if 2 < n then (if ((fa126 0 = fa126 2) ↔ (g128 0 = g128 2)) then (1 : Int32) else (0 : Int32)) else (1 : Int32)) = (0 : Int32)) := (by rw [if_pos (by omega : 2 < n), if_pos hpi136]; decide)
          obtain ⟨_, _, ⟨T138, L138, kc138, nc138⟩, -, X138, ⟨Lc138, hQ138, l138, y138, z138⟩, st138⟩ := Jvm.LawKit.callS X135 hx (y := (⟨"com/example/coterie/coterie/methods/CommunitiesRenumberedPinLaw", "pair", "([I[III)Z"⟩ : MethodName)) hown (mvT hZ (hw _ (List.mem_of_getElem? (i := 5) rfl))) (mvT hZ (hw _ (List.mem_of_getElem? (i := 6) rfl))) (mvT hZ (hw _ (List.mem_of_getElem? (i := 7) rfl))) (mvT hZ (hw _ (List.mem_of_getElem? (i := 8) rfl))) (by decide) (backOf (W := 0) (rm2 l Z a0 hw [] b87 b128 (0 : Int32) (3 : Int32) n v85 fa126 g128 0 3 T128.heap n0 f131 Vr128 hnn (by decide) (by decide) (by decide)) hZ (hw _ (List.mem_of_getElem? (i := 8) rfl)) (hw _ (List.mem_of_getElem? (i := 7) rfl)) (by decide) (by decide)) (g := (mkF m 134 #[.val (.int p0), .val (.int p1), .val (.int p2), .val (.int p3), .val (.int p4), .val (.int v85), .val (.ref b87), .val (.ref b128), .unset, .unset] [(.int (3 : Int32)), (.int (0 : Int32)), (.ref b128), (.ref b87)])) rfl (by rw [hml]; rfl) (argsL := [(.ref b87), (.ref b128), (.int (0 : Int32)), (.int (3 : Int32))]) (rest := []) (lenOf pd_1 rfl) rfl (by show 2 * 0 + _ ≤ _; exact Nat.le_of_eq rfl) (hb hby at_134) (fun _ _ => ⟨rfl, eq135, (by decide : 3 + 0 ≤ _), (by decide : 12 + 0 ≤ _)⟩)
          dsimp only [Pt.U, Pt.locs, Pt.cells, Pt.slots] at X138 l138 y138 z138 st138 hQ138
          subst l138 y138 z138
          obtain ⟨rfl, Nq138, eq138⟩ := hQ138
          have N138 := Fr.app N135 Nq138
          have hpi139 : ((fa126 0 = fa126 3) ↔ (g128 0 = g128 3)) := by
            have a := hf1 0 3 (by omega) (by omega)
            have b := hA 0 (by omega)
            have d := hA 3 (by omega)
            constructor
            · intro q; apply Int32.toInt_inj.mp; have q' := congrArg Int32.toInt q; rw [hg0, hg3, a.mp (by omega)]
            · intro q; apply Int32.toInt_inj.mp; have q' := congrArg Int32.toInt q; rw [hg0, hg3] at q'; rw [b.1, d.1, a.mpr (by omega)]
          have hc137_140 : ¬ ((if 3 < n then (if ((fa126 0 = fa126 3) ↔ (g128 0 = g128 3)) then (1 : Int32) else (0 : Int32)) else (1 : Int32)) = (0 : Int32)) := (by rw [if_pos (by omega : 3 < n), if_pos hpi139]; decide)
          obtain ⟨_, _, ⟨T141, L141, kc141, nc141⟩, -, X141, ⟨Lc141, hQ141, l141, y141, z141⟩, st141⟩ := Jvm.LawKit.callS X138 hx (y := (⟨"com/example/coterie/coterie/methods/CommunitiesRenumberedPinLaw", "pair", "([I[III)Z"⟩ : MethodName)) hown (mvT hZ (hw _ (List.mem_of_getElem? (i := 5) rfl))) (mvT hZ (hw _ (List.mem_of_getElem? (i := 6) rfl))) (mvT hZ (hw _ (List.mem_of_getElem? (i := 7) rfl))) (mvT hZ (hw _ (List.mem_of_getElem? (i := 8) rfl))) (by decide) (backOf (W := 0) (rm2 l Z a0 hw [] b87 b128 (1 : Int32) (2 : Int32) n v85 fa126 g128 1 2 T128.heap n0 f131 Vr128 hnn (by decide) (by decide) (by decide)) hZ (hw _ (List.mem_of_getElem? (i := 8) rfl)) (hw _ (List.mem_of_getElem? (i := 7) rfl)) (by decide) (by decide)) (g := (mkF m 146 #[.val (.int p0), .val (.int p1), .val (.int p2), .val (.int p3), .val (.int p4), .val (.int v85), .val (.ref b87), .val (.ref b128), .unset, .unset] [(.int (2 : Int32)), (.int (1 : Int32)), (.ref b128), (.ref b87)])) rfl (by rw [hml]; rfl) (argsL := [(.ref b87), (.ref b128), (.int (1 : Int32)), (.int (2 : Int32))]) (rest := []) (lenOf pd_1 rfl) rfl (by show 2 * 0 + _ ≤ _; exact Nat.le_of_eq rfl) (hb hby at_146) (fun _ _ => ⟨rfl, eq138, (by decide : 3 + 0 ≤ _), (by decide : 12 + 0 ≤ _)⟩)
          dsimp only [Pt.U, Pt.locs, Pt.cells, Pt.slots] at X141 l141 y141 z141 st141 hQ141
          subst l141 y141 z141
          obtain ⟨rfl, Nq141, eq141⟩ := hQ141
          have N141 := Fr.app N138 Nq141
          have hpi142 : ((fa126 1 = fa126 2) ↔ (g128 1 = g128 2)) := by
            have a := hf1 1 2 (by omega) (by omega)
            have b := hA 1 (by omega)
            have d := hA 2 (by omega)
            constructor
            · intro q; apply Int32.toInt_inj.mp; have q' := congrArg Int32.toInt q; rw [hg1, hg2, a.mp (by omega)]
            · intro q; apply Int32.toInt_inj.mp; have q' := congrArg Int32.toInt q; rw [hg1, hg2] at q'; rw [b.1, d.1, a.mpr (by omega)]
          have hc149_143 : ¬ ((if 2 < n then (if ((fa126 1 = fa126 2) ↔ (g128 1 = g128 2)) then (1 : Int32) else (0 : Int32)) else (1 : Int32)) = (0 : Int32)) := (by rw [if_pos (by omega : 2 < n), if_pos hpi142]; decide)
          obtain ⟨_, _, ⟨T144, L144, kc144, nc144⟩, -, X144, ⟨Lc144, hQ144, l144, y144, z144⟩, st144⟩ := Jvm.LawKit.callS X141 hx (y := (⟨"com/example/coterie/coterie/methods/CommunitiesRenumberedPinLaw", "pair", "([I[III)Z"⟩ : MethodName)) hown (mvT hZ (hw _ (List.mem_of_getElem? (i := 5) rfl))) (mvT hZ (hw _ (List.mem_of_getElem? (i := 6) rfl))) (mvT hZ (hw _ (List.mem_of_getElem? (i := 7) rfl))) (mvT hZ (hw _ (List.mem_of_getElem? (i := 8) rfl))) (by decide) (backOf (W := 0) (rm2 l Z a0 hw [] b87 b128 (1 : Int32) (3 : Int32) n v85 fa126 g128 1 3 T128.heap n0 f131 Vr128 hnn (by decide) (by decide) (by decide)) hZ (hw _ (List.mem_of_getElem? (i := 8) rfl)) (hw _ (List.mem_of_getElem? (i := 7) rfl)) (by decide) (by decide)) (g := (mkF m 158 #[.val (.int p0), .val (.int p1), .val (.int p2), .val (.int p3), .val (.int p4), .val (.int v85), .val (.ref b87), .val (.ref b128), .unset, .unset] [(.int (3 : Int32)), (.int (1 : Int32)), (.ref b128), (.ref b87)])) rfl (by rw [hml]; rfl) (argsL := [(.ref b87), (.ref b128), (.int (1 : Int32)), (.int (3 : Int32))]) (rest := []) (lenOf pd_1 rfl) rfl (by show 2 * 0 + _ ≤ _; exact Nat.le_of_eq rfl) (hb hby at_158) (fun _ _ => ⟨rfl, eq141, (by decide : 3 + 0 ≤ _), (by decide : 12 + 0 ≤ _)⟩)
          dsimp only [Pt.U, Pt.locs, Pt.cells, Pt.slots] at X144 l144 y144 z144 st144 hQ144
          subst l144 y144 z144
          obtain ⟨rfl, Nq144, eq144⟩ := hQ144
          have N144 := Fr.app N141 Nq144
          have hpi145 : ((fa126 1 = fa126 3) ↔ (g128 1 = g128 3)) := by
            have a := hf1 1 3 (by omega) (by omega)
            have b := hA 1 (by omega)
            have d := hA 3 (by omega)
            constructor
            · intro q; apply Int32.toInt_inj.mp; have q' := congrArg Int32.toInt q; rw [hg1, hg3, a.mp (by omega)]
            · intro q; apply Int32.toInt_inj.mp; have q' := congrArg Int32.toInt q; rw [hg1, hg3] at q'; rw [b.1, d.1, a.mpr (by omega)]
          have hc161_146 : ¬ ((if 3 < n then (if ((fa126 1 = fa126 3) ↔ (g128 1 = g128 3)) then (1 : Int32) else (0 : Int32)) else (1 : Int32)) = (0 : Int32)) := (by rw [if_pos (by omega : 3 < n), if_pos hpi145]; decide)
          obtain ⟨_, _, ⟨T147, L147, kc147, nc147⟩, -, X147, ⟨Lc147, hQ147, l147, y147, z147⟩, st147⟩ := Jvm.LawKit.callS X144 hx (y := (⟨"com/example/coterie/coterie/methods/CommunitiesRenumberedPinLaw", "pair", "([I[III)Z"⟩ : MethodName)) hown (mvT hZ (hw _ (List.mem_of_getElem? (i := 5) rfl))) (mvT hZ (hw _ (List.mem_of_getElem? (i := 6) rfl))) (mvT hZ (hw _ (List.mem_of_getElem? (i := 7) rfl))) (mvT hZ (hw _ (List.mem_of_getElem? (i := 8) rfl))) (by decide) (backOf (W := 0) (rm2 l Z a0 hw [] b87 b128 (2 : Int32) (3 : Int32) n v85 fa126 g128 2 3 T128.heap n0 f131 Vr128 hnn (by decide) (by decide) (by decide)) hZ (hw _ (List.mem_of_getElem? (i := 8) rfl)) (hw _ (List.mem_of_getElem? (i := 7) rfl)) (by decide) (by decide)) (g := (mkF m 170 #[.val (.int p0), .val (.int p1), .val (.int p2), .val (.int p3), .val (.int p4), .val (.int v85), .val (.ref b87), .val (.ref b128), .unset, .unset] [(.int (3 : Int32)), (.int (2 : Int32)), (.ref b128), (.ref b87)])) rfl (by rw [hml]; rfl) (argsL := [(.ref b87), (.ref b128), (.int (2 : Int32)), (.int (3 : Int32))]) (rest := []) (lenOf pd_1 rfl) rfl (by show 2 * 0 + _ ≤ _; exact Nat.le_of_eq rfl) (hb hby at_170) (fun _ _ => ⟨rfl, eq144, (by decide : 3 + 0 ≤ _), (by decide : 12 + 0 ≤ _)⟩)
          dsimp only [Pt.U, Pt.locs, Pt.cells, Pt.slots] at X147 l147 y147 z147 st147 hQ147
          subst l147 y147 z147
          obtain ⟨rfl, Nq147, eq147⟩ := hQ147
          have N147 := Fr.app N144 Nq147
          have hpi148 : ((fa126 2 = fa126 3) ↔ (g128 2 = g128 3)) := by
            have a := hf1 2 3 (by omega) (by omega)
            have b := hA 2 (by omega)
            have d := hA 3 (by omega)
            constructor
            · intro q; apply Int32.toInt_inj.mp; have q' := congrArg Int32.toInt q; rw [hg2, hg3, a.mp (by omega)]
            · intro q; apply Int32.toInt_inj.mp; have q' := congrArg Int32.toInt q; rw [hg2, hg3] at q'; rw [b.1, d.1, a.mpr (by omega)]
          have hc173_149 : ¬ ((if 3 < n then (if ((fa126 2 = fa126 3) ↔ (g128 2 = g128 3)) then (1 : Int32) else (0 : Int32)) else (1 : Int32)) = (0 : Int32)) := (by rw [if_pos (by omega : 3 < n), if_pos hpi148]; decide)
          have hc187_152 : (g128 0) = (0 : Int32) := (by
              have ar150 := rng32 (g128 0)
              have ar151 : (0 : Int32).toInt = 0 := by decide
              exact Int32.toInt_inj.mp (by omega))
          have hc202_155 : ¬ ((g128 1) < (0 : Int32)) := (by
              have ar153 := rng32 (g128 1)
              have ar154 : (0 : Int32).toInt = 0 := by decide
              exact fun qq_ => absurd (Int32.lt_iff_toInt_lt.mp qq_) (by omega))
          have hc215_161 : ¬ (((g128 0) + (1 : Int32)) < (g128 1)) := (by
              have ar156 := rng32 (g128 0)
              have ar157 : (1 : Int32).toInt = 1 := by decide
              have ar158 := rng32 ((g128 0) + (1 : Int32))
              first | have ar159 : ((g128 0) + (1 : Int32)).toInt = (g128 0).toInt + 1 := (by have qw := c_iadd (g128 0) (1 : Int32); omega) | (have ar159 := c_iadd (g128 0) (1 : Int32); skip)
              have ar160 := rng32 (g128 1)
              exact fun qq_ => absurd (Int32.lt_iff_toInt_lt.mp qq_) (by omega))
          obtain ⟨_, _, ⟨T162, L162, kc162, nc162⟩, -, X162, ⟨Lc162, hQ162, l162, y162, z162⟩, st162⟩ := Jvm.LawKit.callS X147 hx (y := (⟨"java/lang/Math", "max", "(II)I"⟩ : MethodName)) hown (mvT hZ (hw _ (List.mem_of_getElem? (i := 10) rfl))) (mvT hZ (hw _ (List.mem_of_getElem? (i := 11) rfl))) (mvT hZ (hw _ (List.mem_of_getElem? (i := 12) rfl))) (mvT hZ (hw _ (List.mem_of_getElem? (i := 13) rfl))) (by decide) (backOf (W := 0) (rm3 l Z a0 hw [] (g128 0) (g128 1) T128.heap n0 ) hZ (hw _ (List.mem_of_getElem? (i := 13) rfl)) (hw _ (List.mem_of_getElem? (i := 12) rfl)) (by decide) (by decide)) (g := (mkF m 234 #[.val (.int p0), .val (.int p1), .val (.int p2), .val (.int p3), .val (.int p4), .val (.int v85), .val (.ref b87), .val (.ref b128), .unset, .unset] [(.int (g128 1)), (.int (g128 0))])) rfl (by rw [hml]; rfl) (argsL := [(.int (g128 0)), (.int (g128 1))]) (rest := []) (lenOf pd_2 rfl) rfl (by show 2 * 0 + _ ≤ _; exact Nat.le_of_eq rfl) (hb hby at_234) (fun _ _ => ⟨rfl, eq147, (by decide : 3 + 0 ≤ _), (by decide : 12 + 0 ≤ _)⟩)
          dsimp only [Pt.U, Pt.locs, Pt.cells, Pt.slots] at X162 l162 y162 z162 st162 hQ162
          subst l162 y162 z162
          obtain ⟨rfl, Nq162, eq162⟩ := hQ162
          have N162 := Fr.app N147 Nq162
          have k163 : ∀ tg_, Steps p.tables e below (T162.setTop (mkF m 237 #[.val (.int p0), .val (.int p1), .val (.int p2), .val (.int p3), .val (.int p4), .val (.int v85), .val (.ref b87), .val (.ref b128), .unset, .unset] [(.int (own_max (g128 0) (g128 1)))])) tg_ → Steps p.tables e below (s₁.setTop (entryFrame m #[(.int p0), (.int p1), (.int p2), (.int p3), (.int p4)] maxLocals)) tg_ := by
            intro tg_ kt
            refine k129 tg_ ?_
            refine XS.aload X128.here hx rfl (hb hby at_89) rfl rfl ?_
            show Steps p.tables e below (T128.setTop (mkF m 91 #[.val (.int p0), .val (.int p1), .val (.int p2), .val (.int p3), .val (.int p4), .val (.int v85), .val (.ref b87), .val (.ref b128), .unset, .unset] [(.ref b128)])) _
            refine XS.ifnullNo X128.here hx rfl (hb hby at_91) rfl ?_
            show Steps p.tables e below (T128.setTop (mkF m 94 #[.val (.int p0), .val (.int p1), .val (.int p2), .val (.int p3), .val (.int p4), .val (.int v85), .val (.ref b87), .val (.ref b128), .unset, .unset] [])) _
            refine XS.aload X128.here hx rfl (hb hby at_94) rfl rfl ?_
            show Steps p.tables e below (T128.setTop (mkF m 96 #[.val (.int p0), .val (.int p1), .val (.int p2), .val (.int p3), .val (.int p4), .val (.int v85), .val (.ref b87), .val (.ref b128), .unset, .unset] [(.ref b128)])) _
            refine own_len X128 hx hZ rfl Vr128 (z := v85) hnn (g := (mkF m 96 #[.val (.int p0), .val (.int p1), .val (.int p2), .val (.int p3), .val (.int p4), .val (.int v85), .val (.ref b87), .val (.ref b128), .unset, .unset] [(.ref b128)])) rfl rfl (hb hby at_96) _ ?_
            show Steps p.tables e below (T128.setTop (mkF m 97 #[.val (.int p0), .val (.int p1), .val (.int p2), .val (.int p3), .val (.int p4), .val (.int v85), .val (.ref b87), .val (.ref b128), .unset, .unset] [(.int v85)])) _
            refine XS.iload X128.here hx rfl (hb hby at_97) rfl ?_
            show Steps p.tables e below (T128.setTop (mkF m 99 #[.val (.int p0), .val (.int p1), .val (.int p2), .val (.int p3), .val (.int p4), .val (.int v85), .val (.ref b87), .val (.ref b128), .unset, .unset] [(.int v85), (.int v85)])) _
            refine XS.icmpYes X128.here hx rfl (pc0 := 99) (pc' := 104) rfl (hb hby at_99) rfl (teq hc99_130).1 (by decide) (by decide) ?_
            show Steps p.tables e below (T128.setTop (mkF m 104 #[.val (.int p0), .val (.int p1), .val (.int p2), .val (.int p3), .val (.int p4), .val (.int v85), .val (.ref b87), .val (.ref b128), .unset, .unset] [])) _
            refine XS.aload X128.here hx rfl (hb hby at_104) rfl rfl ?_
            show Steps p.tables e below (T128.setTop (mkF m 106 #[.val (.int p0), .val (.int p1), .val (.int p2), .val (.int p3), .val (.int p4), .val (.int v85), .val (.ref b87), .val (.ref b128), .unset, .unset] [(.ref b87)])) _
            refine XS.aload X128.here hx rfl (hb hby at_106) rfl rfl ?_
            show Steps p.tables e below (T128.setTop (mkF m 108 #[.val (.int p0), .val (.int p1), .val (.int p2), .val (.int p3), .val (.int p4), .val (.int v85), .val (.ref b87), .val (.ref b128), .unset, .unset] [(.ref b128), (.ref b87)])) _
            refine XS.iconst X128.here hx rfl (hb hby at_108) ?_
            show Steps p.tables e below (T128.setTop (mkF m 109 #[.val (.int p0), .val (.int p1), .val (.int p2), .val (.int p3), .val (.int p4), .val (.int v85), .val (.ref b87), .val (.ref b128), .unset, .unset] [(.int (0 : Int32)), (.ref b128), (.ref b87)])) _
            refine XS.iconst X128.here hx rfl (hb hby at_109) ?_
            show Steps p.tables e below (T128.setTop (mkF m 110 #[.val (.int p0), .val (.int p1), .val (.int p2), .val (.int p3), .val (.int p4), .val (.int v85), .val (.ref b87), .val (.ref b128), .unset, .unset] [(.int (1 : Int32)), (.int (0 : Int32)), (.ref b128), (.ref b87)])) _
            refine st132 _ ?_
            show Steps p.tables e below (T132.setTop (mkF m 113 #[.val (.int p0), .val (.int p1), .val (.int p2), .val (.int p3), .val (.int p4), .val (.int v85), .val (.ref b87), .val (.ref b128), .unset, .unset] [(.int (if 1 < n then (if ((fa126 0 = fa126 1) ↔ (g128 0 = g128 1)) then (1 : Int32) else (0 : Int32)) else (1 : Int32)))])) _
            refine XS.ifNo X132.here hx rfl (hb hby at_113) rfl ((if0 _ _).trans (feq hc113_134).1) ?_
            show Steps p.tables e below (T132.setTop (mkF m 116 #[.val (.int p0), .val (.int p1), .val (.int p2), .val (.int p3), .val (.int p4), .val (.int v85), .val (.ref b87), .val (.ref b128), .unset, .unset] [])) _
            refine XS.aload X132.here hx rfl (hb hby at_116) rfl rfl ?_
            show Steps p.tables e below (T132.setTop (mkF m 118 #[.val (.int p0), .val (.int p1), .val (.int p2), .val (.int p3), .val (.int p4), .val (.int v85), .val (.ref b87), .val (.ref b128), .unset, .unset] [(.ref b87)])) _
            refine XS.aload X132.here hx rfl (hb hby at_118) rfl rfl ?_
            show Steps p.tables e below (T132.setTop (mkF m 120 #[.val (.int p0), .val (.int p1), .val (.int p2), .val (.int p3), .val (.int p4), .val (.int v85), .val (.ref b87), .val (.ref b128), .unset, .unset] [(.ref b128), (.ref b87)])) _
            refine XS.iconst X132.here hx rfl (hb hby at_120) ?_
            show Steps p.tables e below (T132.setTop (mkF m 121 #[.val (.int p0), .val (.int p1), .val (.int p2), .val (.int p3), .val (.int p4), .val (.int v85), .val (.ref b87), .val (.ref b128), .unset, .unset] [(.int (0 : Int32)), (.ref b128), (.ref b87)])) _
            refine XS.iconst X132.here hx rfl (hb hby at_121) ?_
            show Steps p.tables e below (T132.setTop (mkF m 122 #[.val (.int p0), .val (.int p1), .val (.int p2), .val (.int p3), .val (.int p4), .val (.int v85), .val (.ref b87), .val (.ref b128), .unset, .unset] [(.int (2 : Int32)), (.int (0 : Int32)), (.ref b128), (.ref b87)])) _
            refine st135 _ ?_
            show Steps p.tables e below (T135.setTop (mkF m 125 #[.val (.int p0), .val (.int p1), .val (.int p2), .val (.int p3), .val (.int p4), .val (.int v85), .val (.ref b87), .val (.ref b128), .unset, .unset] [(.int (if 2 < n then (if ((fa126 0 = fa126 2) ↔ (g128 0 = g128 2)) then (1 : Int32) else (0 : Int32)) else (1 : Int32)))])) _
            refine XS.ifNo X135.here hx rfl (hb hby at_125) rfl ((if0 _ _).trans (feq hc125_137).1) ?_
            show Steps p.tables e below (T135.setTop (mkF m 128 #[.val (.int p0), .val (.int p1), .val (.int p2), .val (.int p3), .val (.int p4), .val (.int v85), .val (.ref b87), .val (.ref b128), .unset, .unset] [])) _
            refine XS.aload X135.here hx rfl (hb hby at_128) rfl rfl ?_
            show Steps p.tables e below (T135.setTop (mkF m 130 #[.val (.int p0), .val (.int p1), .val (.int p2), .val (.int p3), .val (.int p4), .val (.int v85), .val (.ref b87), .val (.ref b128), .unset, .unset] [(.ref b87)])) _
            refine XS.aload X135.here hx rfl (hb hby at_130) rfl rfl ?_
            show Steps p.tables e below (T135.setTop (mkF m 132 #[.val (.int p0), .val (.int p1), .val (.int p2), .val (.int p3), .val (.int p4), .val (.int v85), .val (.ref b87), .val (.ref b128), .unset, .unset] [(.ref b128), (.ref b87)])) _
            refine XS.iconst X135.here hx rfl (hb hby at_132) ?_
            show Steps p.tables e below (T135.setTop (mkF m 133 #[.val (.int p0), .val (.int p1), .val (.int p2), .val (.int p3), .val (.int p4), .val (.int v85), .val (.ref b87), .val (.ref b128), .unset, .unset] [(.int (0 : Int32)), (.ref b128), (.ref b87)])) _
            refine XS.iconst X135.here hx rfl (hb hby at_133) ?_
            show Steps p.tables e below (T135.setTop (mkF m 134 #[.val (.int p0), .val (.int p1), .val (.int p2), .val (.int p3), .val (.int p4), .val (.int v85), .val (.ref b87), .val (.ref b128), .unset, .unset] [(.int (3 : Int32)), (.int (0 : Int32)), (.ref b128), (.ref b87)])) _
            refine st138 _ ?_
            show Steps p.tables e below (T138.setTop (mkF m 137 #[.val (.int p0), .val (.int p1), .val (.int p2), .val (.int p3), .val (.int p4), .val (.int v85), .val (.ref b87), .val (.ref b128), .unset, .unset] [(.int (if 3 < n then (if ((fa126 0 = fa126 3) ↔ (g128 0 = g128 3)) then (1 : Int32) else (0 : Int32)) else (1 : Int32)))])) _
            refine XS.ifNo X138.here hx rfl (hb hby at_137) rfl ((if0 _ _).trans (feq hc137_140).1) ?_
            show Steps p.tables e below (T138.setTop (mkF m 140 #[.val (.int p0), .val (.int p1), .val (.int p2), .val (.int p3), .val (.int p4), .val (.int v85), .val (.ref b87), .val (.ref b128), .unset, .unset] [])) _
            refine XS.aload X138.here hx rfl (hb hby at_140) rfl rfl ?_
            show Steps p.tables e below (T138.setTop (mkF m 142 #[.val (.int p0), .val (.int p1), .val (.int p2), .val (.int p3), .val (.int p4), .val (.int v85), .val (.ref b87), .val (.ref b128), .unset, .unset] [(.ref b87)])) _
            refine XS.aload X138.here hx rfl (hb hby at_142) rfl rfl ?_
            show Steps p.tables e below (T138.setTop (mkF m 144 #[.val (.int p0), .val (.int p1), .val (.int p2), .val (.int p3), .val (.int p4), .val (.int v85), .val (.ref b87), .val (.ref b128), .unset, .unset] [(.ref b128), (.ref b87)])) _
            refine XS.iconst X138.here hx rfl (hb hby at_144) ?_
            show Steps p.tables e below (T138.setTop (mkF m 145 #[.val (.int p0), .val (.int p1), .val (.int p2), .val (.int p3), .val (.int p4), .val (.int v85), .val (.ref b87), .val (.ref b128), .unset, .unset] [(.int (1 : Int32)), (.ref b128), (.ref b87)])) _
            refine XS.iconst X138.here hx rfl (hb hby at_145) ?_
            show Steps p.tables e below (T138.setTop (mkF m 146 #[.val (.int p0), .val (.int p1), .val (.int p2), .val (.int p3), .val (.int p4), .val (.int v85), .val (.ref b87), .val (.ref b128), .unset, .unset] [(.int (2 : Int32)), (.int (1 : Int32)), (.ref b128), (.ref b87)])) _
            refine st141 _ ?_
            show Steps p.tables e below (T141.setTop (mkF m 149 #[.val (.int p0), .val (.int p1), .val (.int p2), .val (.int p3), .val (.int p4), .val (.int v85), .val (.ref b87), .val (.ref b128), .unset, .unset] [(.int (if 2 < n then (if ((fa126 1 = fa126 2) ↔ (g128 1 = g128 2)) then (1 : Int32) else (0 : Int32)) else (1 : Int32)))])) _
            refine XS.ifNo X141.here hx rfl (hb hby at_149) rfl ((if0 _ _).trans (feq hc149_143).1) ?_
            show Steps p.tables e below (T141.setTop (mkF m 152 #[.val (.int p0), .val (.int p1), .val (.int p2), .val (.int p3), .val (.int p4), .val (.int v85), .val (.ref b87), .val (.ref b128), .unset, .unset] [])) _
            refine XS.aload X141.here hx rfl (hb hby at_152) rfl rfl ?_
            show Steps p.tables e below (T141.setTop (mkF m 154 #[.val (.int p0), .val (.int p1), .val (.int p2), .val (.int p3), .val (.int p4), .val (.int v85), .val (.ref b87), .val (.ref b128), .unset, .unset] [(.ref b87)])) _
            refine XS.aload X141.here hx rfl (hb hby at_154) rfl rfl ?_
            show Steps p.tables e below (T141.setTop (mkF m 156 #[.val (.int p0), .val (.int p1), .val (.int p2), .val (.int p3), .val (.int p4), .val (.int v85), .val (.ref b87), .val (.ref b128), .unset, .unset] [(.ref b128), (.ref b87)])) _
            refine XS.iconst X141.here hx rfl (hb hby at_156) ?_
            show Steps p.tables e below (T141.setTop (mkF m 157 #[.val (.int p0), .val (.int p1), .val (.int p2), .val (.int p3), .val (.int p4), .val (.int v85), .val (.ref b87), .val (.ref b128), .unset, .unset] [(.int (1 : Int32)), (.ref b128), (.ref b87)])) _
            refine XS.iconst X141.here hx rfl (hb hby at_157) ?_
            show Steps p.tables e below (T141.setTop (mkF m 158 #[.val (.int p0), .val (.int p1), .val (.int p2), .val (.int p3), .val (.int p4), .val (.int v85), .val (.ref b87), .val (.ref b128), .unset, .unset] [(.int (3 : Int32)), (.int (1 : Int32)), (.ref b128), (.ref b87)])) _
            refine st144 _ ?_
            show Steps p.tables e below (T144.setTop (mkF m 161 #[.val (.int p0), .val (.int p1), .val (.int p2), .val (.int p3), .val (.int p4), .val (.int v85), .val (.ref b87), .val (.ref b128), .unset, .unset] [(.int (if 3 < n then (if ((fa126 1 = fa126 3) ↔ (g128 1 = g128 3)) then (1 : Int32) else (0 : Int32)) else (1 : Int32)))])) _
            refine XS.ifNo X144.here hx rfl (hb hby at_161) rfl ((if0 _ _).trans (feq hc161_146).1) ?_
            show Steps p.tables e below (T144.setTop (mkF m 164 #[.val (.int p0), .val (.int p1), .val (.int p2), .val (.int p3), .val (.int p4), .val (.int v85), .val (.ref b87), .val (.ref b128), .unset, .unset] [])) _
            refine XS.aload X144.here hx rfl (hb hby at_164) rfl rfl ?_
            show Steps p.tables e below (T144.setTop (mkF m 166 #[.val (.int p0), .val (.int p1), .val (.int p2), .val (.int p3), .val (.int p4), .val (.int v85), .val (.ref b87), .val (.ref b128), .unset, .unset] [(.ref b87)])) _
            refine XS.aload X144.here hx rfl (hb hby at_166) rfl rfl ?_
            show Steps p.tables e below (T144.setTop (mkF m 168 #[.val (.int p0), .val (.int p1), .val (.int p2), .val (.int p3), .val (.int p4), .val (.int v85), .val (.ref b87), .val (.ref b128), .unset, .unset] [(.ref b128), (.ref b87)])) _
            refine XS.iconst X144.here hx rfl (hb hby at_168) ?_
            show Steps p.tables e below (T144.setTop (mkF m 169 #[.val (.int p0), .val (.int p1), .val (.int p2), .val (.int p3), .val (.int p4), .val (.int v85), .val (.ref b87), .val (.ref b128), .unset, .unset] [(.int (2 : Int32)), (.ref b128), (.ref b87)])) _
            refine XS.iconst X144.here hx rfl (hb hby at_169) ?_
            show Steps p.tables e below (T144.setTop (mkF m 170 #[.val (.int p0), .val (.int p1), .val (.int p2), .val (.int p3), .val (.int p4), .val (.int v85), .val (.ref b87), .val (.ref b128), .unset, .unset] [(.int (3 : Int32)), (.int (2 : Int32)), (.ref b128), (.ref b87)])) _
            refine st147 _ ?_
            show Steps p.tables e below (T147.setTop (mkF m 173 #[.val (.int p0), .val (.int p1), .val (.int p2), .val (.int p3), .val (.int p4), .val (.int v85), .val (.ref b87), .val (.ref b128), .unset, .unset] [(.int (if 3 < n then (if ((fa126 2 = fa126 3) ↔ (g128 2 = g128 3)) then (1 : Int32) else (0 : Int32)) else (1 : Int32)))])) _
            refine XS.ifYes X147.here hx rfl (pc0 := 173) (pc' := 178) rfl (hb hby at_173) rfl ((if0 _ _).trans (feq hc173_149).2) (by decide) (by decide) ?_
            show Steps p.tables e below (T147.setTop (mkF m 178 #[.val (.int p0), .val (.int p1), .val (.int p2), .val (.int p3), .val (.int p4), .val (.int v85), .val (.ref b87), .val (.ref b128), .unset, .unset] [])) _
            refine XS.iload X147.here hx rfl (hb hby at_178) rfl ?_
            show Steps p.tables e below (T147.setTop (mkF m 180 #[.val (.int p0), .val (.int p1), .val (.int p2), .val (.int p3), .val (.int p4), .val (.int v85), .val (.ref b87), .val (.ref b128), .unset, .unset] [(.int v85)])) _
            refine XS.ifNo X147.here hx rfl (hb hby at_180) rfl ((if0 _ _).trans (tlt hc16_89).2.2.2) ?_
            show Steps p.tables e below (T147.setTop (mkF m 183 #[.val (.int p0), .val (.int p1), .val (.int p2), .val (.int p3), .val (.int p4), .val (.int v85), .val (.ref b87), .val (.ref b128), .unset, .unset] [])) _
            refine XS.aload X147.here hx rfl (hb hby at_183) rfl rfl ?_
            show Steps p.tables e below (T147.setTop (mkF m 185 #[.val (.int p0), .val (.int p1), .val (.int p2), .val (.int p3), .val (.int p4), .val (.int v85), .val (.ref b87), .val (.ref b128), .unset, .unset] [(.ref b128)])) _
            refine XS.iconst X147.here hx rfl (hb hby at_185) ?_
            show Steps p.tables e below (T147.setTop (mkF m 186 #[.val (.int p0), .val (.int p1), .val (.int p2), .val (.int p3), .val (.int p4), .val (.int v85), .val (.ref b87), .val (.ref b128), .unset, .unset] [(.int (0 : Int32)), (.ref b128)])) _
            refine own_ldI X147 hx hZ eq147 Vr128 (i := 0) (by decide : (0 : Int32).toInt = ((0 : Nat) : Int)) (by omega) rfl (g := (mkF m 186 #[.val (.int p0), .val (.int p1), .val (.int p2), .val (.int p3), .val (.int p4), .val (.int v85), .val (.ref b87), .val (.ref b128), .unset, .unset] [(.int (0 : Int32)), (.ref b128)])) rfl rfl (hb hby at_186) _ ?_
            show Steps p.tables e below (T147.setTop (mkF m 187 #[.val (.int p0), .val (.int p1), .val (.int p2), .val (.int p3), .val (.int p4), .val (.int v85), .val (.ref b87), .val (.ref b128), .unset, .unset] [(.int (g128 0))])) _
            refine XS.ifYes X147.here hx rfl (pc0 := 187) (pc' := 192) rfl (hb hby at_187) rfl ((if0 _ _).trans (teq hc187_152).1) (by decide) (by decide) ?_
            show Steps p.tables e below (T147.setTop (mkF m 192 #[.val (.int p0), .val (.int p1), .val (.int p2), .val (.int p3), .val (.int p4), .val (.int v85), .val (.ref b87), .val (.ref b128), .unset, .unset] [])) _
            refine XS.iload X147.here hx rfl (hb hby at_192) rfl ?_
            show Steps p.tables e below (T147.setTop (mkF m 194 #[.val (.int p0), .val (.int p1), .val (.int p2), .val (.int p3), .val (.int p4), .val (.int v85), .val (.ref b87), .val (.ref b128), .unset, .unset] [(.int v85)])) _
            refine XS.iconst X147.here hx rfl (hb hby at_194) ?_
            show Steps p.tables e below (T147.setTop (mkF m 195 #[.val (.int p0), .val (.int p1), .val (.int p2), .val (.int p3), .val (.int p4), .val (.int v85), .val (.ref b87), .val (.ref b128), .unset, .unset] [(.int (1 : Int32)), (.int v85)])) _
            refine XS.icmpNo X147.here hx rfl (hb hby at_195) rfl (tlt hc33_96).2.2.2 ?_
            show Steps p.tables e below (T147.setTop (mkF m 198 #[.val (.int p0), .val (.int p1), .val (.int p2), .val (.int p3), .val (.int p4), .val (.int v85), .val (.ref b87), .val (.ref b128), .unset, .unset] [])) _
            refine XS.aload X147.here hx rfl (hb hby at_198) rfl rfl ?_
            show Steps p.tables e below (T147.setTop (mkF m 200 #[.val (.int p0), .val (.int p1), .val (.int p2), .val (.int p3), .val (.int p4), .val (.int v85), .val (.ref b87), .val (.ref b128), .unset, .unset] [(.ref b128)])) _
            refine XS.iconst X147.here hx rfl (hb hby at_200) ?_
            show Steps p.tables e below (T147.setTop (mkF m 201 #[.val (.int p0), .val (.int p1), .val (.int p2), .val (.int p3), .val (.int p4), .val (.int v85), .val (.ref b87), .val (.ref b128), .unset, .unset] [(.int (1 : Int32)), (.ref b128)])) _
            refine own_ldI X147 hx hZ eq147 Vr128 (i := 1) (by decide : (1 : Int32).toInt = ((1 : Nat) : Int)) (by omega) rfl (g := (mkF m 201 #[.val (.int p0), .val (.int p1), .val (.int p2), .val (.int p3), .val (.int p4), .val (.int v85), .val (.ref b87), .val (.ref b128), .unset, .unset] [(.int (1 : Int32)), (.ref b128)])) rfl rfl (hb hby at_201) _ ?_
            show Steps p.tables e below (T147.setTop (mkF m 202 #[.val (.int p0), .val (.int p1), .val (.int p2), .val (.int p3), .val (.int p4), .val (.int v85), .val (.ref b87), .val (.ref b128), .unset, .unset] [(.int (g128 1))])) _
            refine XS.ifNo X147.here hx rfl (hb hby at_202) rfl ((if0 _ _).trans (flt hc202_155).1) ?_
            show Steps p.tables e below (T147.setTop (mkF m 205 #[.val (.int p0), .val (.int p1), .val (.int p2), .val (.int p3), .val (.int p4), .val (.int v85), .val (.ref b87), .val (.ref b128), .unset, .unset] [])) _
            refine XS.aload X147.here hx rfl (hb hby at_205) rfl rfl ?_
            show Steps p.tables e below (T147.setTop (mkF m 207 #[.val (.int p0), .val (.int p1), .val (.int p2), .val (.int p3), .val (.int p4), .val (.int v85), .val (.ref b87), .val (.ref b128), .unset, .unset] [(.ref b128)])) _
            refine XS.iconst X147.here hx rfl (hb hby at_207) ?_
            show Steps p.tables e below (T147.setTop (mkF m 208 #[.val (.int p0), .val (.int p1), .val (.int p2), .val (.int p3), .val (.int p4), .val (.int v85), .val (.ref b87), .val (.ref b128), .unset, .unset] [(.int (1 : Int32)), (.ref b128)])) _
            refine own_ldI X147 hx hZ eq147 Vr128 (i := 1) (by decide : (1 : Int32).toInt = ((1 : Nat) : Int)) (by omega) rfl (g := (mkF m 208 #[.val (.int p0), .val (.int p1), .val (.int p2), .val (.int p3), .val (.int p4), .val (.int v85), .val (.ref b87), .val (.ref b128), .unset, .unset] [(.int (1 : Int32)), (.ref b128)])) rfl rfl (hb hby at_208) _ ?_
            show Steps p.tables e below (T147.setTop (mkF m 209 #[.val (.int p0), .val (.int p1), .val (.int p2), .val (.int p3), .val (.int p4), .val (.int v85), .val (.ref b87), .val (.ref b128), .unset, .unset] [(.int (g128 1))])) _
            refine XS.aload X147.here hx rfl (hb hby at_209) rfl rfl ?_
            show Steps p.tables e below (T147.setTop (mkF m 211 #[.val (.int p0), .val (.int p1), .val (.int p2), .val (.int p3), .val (.int p4), .val (.int v85), .val (.ref b87), .val (.ref b128), .unset, .unset] [(.ref b128), (.int (g128 1))])) _
            refine XS.iconst X147.here hx rfl (hb hby at_211) ?_
            show Steps p.tables e below (T147.setTop (mkF m 212 #[.val (.int p0), .val (.int p1), .val (.int p2), .val (.int p3), .val (.int p4), .val (.int v85), .val (.ref b87), .val (.ref b128), .unset, .unset] [(.int (0 : Int32)), (.ref b128), (.int (g128 1))])) _
            refine own_ldI X147 hx hZ eq147 Vr128 (i := 0) (by decide : (0 : Int32).toInt = ((0 : Nat) : Int)) (by omega) rfl (g := (mkF m 212 #[.val (.int p0), .val (.int p1), .val (.int p2), .val (.int p3), .val (.int p4), .val (.int v85), .val (.ref b87), .val (.ref b128), .unset, .unset] [(.int (0 : Int32)), (.ref b128), (.int (g128 1))])) rfl rfl (hb hby at_212) _ ?_
            show Steps p.tables e below (T147.setTop (mkF m 213 #[.val (.int p0), .val (.int p1), .val (.int p2), .val (.int p3), .val (.int p4), .val (.int v85), .val (.ref b87), .val (.ref b128), .unset, .unset] [(.int (g128 0)), (.int (g128 1))])) _
            refine XS.iconst X147.here hx rfl (hb hby at_213) ?_
            show Steps p.tables e below (T147.setTop (mkF m 214 #[.val (.int p0), .val (.int p1), .val (.int p2), .val (.int p3), .val (.int p4), .val (.int v85), .val (.ref b87), .val (.ref b128), .unset, .unset] [(.int (1 : Int32)), (.int (g128 0)), (.int (g128 1))])) _
            refine XS.iadd X147.here hx rfl (hb hby at_214) rfl ?_
            show Steps p.tables e below (T147.setTop (mkF m 215 #[.val (.int p0), .val (.int p1), .val (.int p2), .val (.int p3), .val (.int p4), .val (.int v85), .val (.ref b87), .val (.ref b128), .unset, .unset] [(.int ((g128 0) + (1 : Int32))), (.int (g128 1))])) _
            refine XS.icmpYes X147.here hx rfl (pc0 := 215) (pc' := 220) rfl (hb hby at_215) rfl (flt hc215_161).2.2.2 (by decide) (by decide) ?_
            show Steps p.tables e below (T147.setTop (mkF m 220 #[.val (.int p0), .val (.int p1), .val (.int p2), .val (.int p3), .val (.int p4), .val (.int v85), .val (.ref b87), .val (.ref b128), .unset, .unset] [])) _
            refine XS.iload X147.here hx rfl (hb hby at_220) rfl ?_
            show Steps p.tables e below (T147.setTop (mkF m 222 #[.val (.int p0), .val (.int p1), .val (.int p2), .val (.int p3), .val (.int p4), .val (.int v85), .val (.ref b87), .val (.ref b128), .unset, .unset] [(.int v85)])) _
            refine XS.iconst X147.here hx rfl (hb hby at_222) ?_
            show Steps p.tables e below (T147.setTop (mkF m 223 #[.val (.int p0), .val (.int p1), .val (.int p2), .val (.int p3), .val (.int p4), .val (.int v85), .val (.ref b87), .val (.ref b128), .unset, .unset] [(.int (2 : Int32)), (.int v85)])) _
            refine XS.icmpNo X147.here hx rfl (hb hby at_223) rfl (tlt hc50_103).2.2.2 ?_
            show Steps p.tables e below (T147.setTop (mkF m 226 #[.val (.int p0), .val (.int p1), .val (.int p2), .val (.int p3), .val (.int p4), .val (.int v85), .val (.ref b87), .val (.ref b128), .unset, .unset] [])) _
            refine XS.aload X147.here hx rfl (hb hby at_226) rfl rfl ?_
            show Steps p.tables e below (T147.setTop (mkF m 228 #[.val (.int p0), .val (.int p1), .val (.int p2), .val (.int p3), .val (.int p4), .val (.int v85), .val (.ref b87), .val (.ref b128), .unset, .unset] [(.ref b128)])) _
            refine XS.iconst X147.here hx rfl (hb hby at_228) ?_
            show Steps p.tables e below (T147.setTop (mkF m 229 #[.val (.int p0), .val (.int p1), .val (.int p2), .val (.int p3), .val (.int p4), .val (.int v85), .val (.ref b87), .val (.ref b128), .unset, .unset] [(.int (0 : Int32)), (.ref b128)])) _
            refine own_ldI X147 hx hZ eq147 Vr128 (i := 0) (by decide : (0 : Int32).toInt = ((0 : Nat) : Int)) (by omega) rfl (g := (mkF m 229 #[.val (.int p0), .val (.int p1), .val (.int p2), .val (.int p3), .val (.int p4), .val (.int v85), .val (.ref b87), .val (.ref b128), .unset, .unset] [(.int (0 : Int32)), (.ref b128)])) rfl rfl (hb hby at_229) _ ?_
            show Steps p.tables e below (T147.setTop (mkF m 230 #[.val (.int p0), .val (.int p1), .val (.int p2), .val (.int p3), .val (.int p4), .val (.int v85), .val (.ref b87), .val (.ref b128), .unset, .unset] [(.int (g128 0))])) _
            refine XS.aload X147.here hx rfl (hb hby at_230) rfl rfl ?_
            show Steps p.tables e below (T147.setTop (mkF m 232 #[.val (.int p0), .val (.int p1), .val (.int p2), .val (.int p3), .val (.int p4), .val (.int v85), .val (.ref b87), .val (.ref b128), .unset, .unset] [(.ref b128), (.int (g128 0))])) _
            refine XS.iconst X147.here hx rfl (hb hby at_232) ?_
            show Steps p.tables e below (T147.setTop (mkF m 233 #[.val (.int p0), .val (.int p1), .val (.int p2), .val (.int p3), .val (.int p4), .val (.int v85), .val (.ref b87), .val (.ref b128), .unset, .unset] [(.int (1 : Int32)), (.ref b128), (.int (g128 0))])) _
            refine own_ldI X147 hx hZ eq147 Vr128 (i := 1) (by decide : (1 : Int32).toInt = ((1 : Nat) : Int)) (by omega) rfl (g := (mkF m 233 #[.val (.int p0), .val (.int p1), .val (.int p2), .val (.int p3), .val (.int p4), .val (.int v85), .val (.ref b87), .val (.ref b128), .unset, .unset] [(.int (1 : Int32)), (.ref b128), (.int (g128 0))])) rfl rfl (hb hby at_233) _ ?_
            show Steps p.tables e below (T147.setTop (mkF m 234 #[.val (.int p0), .val (.int p1), .val (.int p2), .val (.int p3), .val (.int p4), .val (.int v85), .val (.ref b87), .val (.ref b128), .unset, .unset] [(.int (g128 1)), (.int (g128 0))])) _
            refine st162 _ ?_
            show Steps p.tables e below (T162.setTop (mkF m 237 #[.val (.int p0), .val (.int p1), .val (.int p2), .val (.int p3), .val (.int p4), .val (.int v85), .val (.ref b87), .val (.ref b128), .unset, .unset] [(.int (own_max (g128 0) (g128 1)))])) _
            exact kt
          obtain ⟨r164, hr164⟩ : ∃ z : Int32, z = (own_max (g128 0) (g128 1)) := ⟨_, rfl⟩
          rw [← hr164] at k163
          have hc243_167 : ¬ ((g128 2) < (0 : Int32)) := (by
              have ar165 := rng32 (g128 2)
              have ar166 : (0 : Int32).toInt = 0 := by decide
              exact fun qq_ => absurd (Int32.lt_iff_toInt_lt.mp qq_) (by omega))
          have hc254_178 : ¬ ((r164 + (1 : Int32)) < (g128 2)) := (by
              have ar168 := rng32 r164
              have ar169 := rng32 (g128 0)
              have ar170 := rng32 (g128 1)
              have ar171 : ((g128 0).toInt < (g128 1).toInt ∧ (if (g128 0) < (g128 1) then (g128 1) else (g128 0)).toInt = (g128 1).toInt) ∨ (¬ ((g128 0).toInt < (g128 1).toInt) ∧ (if (g128 0) < (g128 1) then (g128 1) else (g128 0)).toInt = (g128 0).toInt) := by
                    by_cases q : (g128 0) < (g128 1)
                    · exact Or.inl ⟨Int32.lt_iff_toInt_lt.mp q, by rw [if_pos q]⟩
                    · exact Or.inr ⟨fun q' => q (Int32.lt_iff_toInt_lt.mpr q'), by rw [if_neg q]⟩
              have ar172 : (own_max (g128 0) (g128 1)).toInt = (if (g128 0) < (g128 1) then (g128 1) else (g128 0)).toInt := congrArg _ (own_eq_own_max (g128 0) (g128 1))
              have ar173 := congrArg Int32.toInt hr164
              have ar174 : (1 : Int32).toInt = 1 := by decide
              have ar175 := rng32 (r164 + (1 : Int32))
              first | have ar176 : (r164 + (1 : Int32)).toInt = r164.toInt + 1 := (by have qw := c_iadd r164 (1 : Int32); omega) | (have ar176 := c_iadd r164 (1 : Int32); skip)
              have ar177 := rng32 (g128 2)
              exact fun qq_ => absurd (Int32.lt_iff_toInt_lt.mp qq_) (by omega))
          obtain ⟨_, _, ⟨T179, L179, kc179, nc179⟩, -, X179, ⟨Lc179, hQ179, l179, y179, z179⟩, st179⟩ := Jvm.LawKit.callS X162 hx (y := (⟨"java/lang/Math", "max", "(II)I"⟩ : MethodName)) hown (mvT hZ (hw _ (List.mem_of_getElem? (i := 10) rfl))) (mvT hZ (hw _ (List.mem_of_getElem? (i := 11) rfl))) (mvT hZ (hw _ (List.mem_of_getElem? (i := 12) rfl))) (mvT hZ (hw _ (List.mem_of_getElem? (i := 13) rfl))) (by decide) (backOf (W := 0) (rm3 l Z a0 hw [] r164 (g128 2) T128.heap n0 ) hZ (hw _ (List.mem_of_getElem? (i := 13) rfl)) (hw _ (List.mem_of_getElem? (i := 12) rfl)) (by decide) (by decide)) (g := (mkF m 271 #[.val (.int p0), .val (.int p1), .val (.int p2), .val (.int p3), .val (.int p4), .val (.int v85), .val (.ref b87), .val (.ref b128), .val (.int r164), .unset] [(.int (g128 2)), (.int r164)])) rfl (by rw [hml]; rfl) (argsL := [(.int r164), (.int (g128 2))]) (rest := []) (lenOf pd_2 rfl) rfl (by show 2 * 0 + _ ≤ _; exact Nat.le_of_eq rfl) (hb hby at_271) (fun _ _ => ⟨rfl, eq162, (by decide : 3 + 0 ≤ _), (by decide : 12 + 0 ≤ _)⟩)
          dsimp only [Pt.U, Pt.locs, Pt.cells, Pt.slots] at X179 l179 y179 z179 st179 hQ179
          subst l179 y179 z179
          obtain ⟨rfl, Nq179, eq179⟩ := hQ179
          have N179 := Fr.app N162 Nq179
          have k180 : ∀ tg_, Steps p.tables e below (T179.setTop (mkF m 274 #[.val (.int p0), .val (.int p1), .val (.int p2), .val (.int p3), .val (.int p4), .val (.int v85), .val (.ref b87), .val (.ref b128), .val (.int r164), .unset] [(.int (own_max r164 (g128 2)))])) tg_ → Steps p.tables e below (s₁.setTop (entryFrame m #[(.int p0), (.int p1), (.int p2), (.int p3), (.int p4)] maxLocals)) tg_ := by
            intro tg_ kt
            refine k163 tg_ ?_
            show Steps p.tables e below (T162.setTop (mkF m 237 #[.val (.int p0), .val (.int p1), .val (.int p2), .val (.int p3), .val (.int p4), .val (.int v85), .val (.ref b87), .val (.ref b128), .unset, .unset] [(.int r164)])) _
            refine XS.istore X162.here hx rfl (hb hby at_237) rfl (l' := #[.val (.int p0), .val (.int p1), .val (.int p2), .val (.int p3), .val (.int p4), .val (.int v85), .val (.ref b87), .val (.ref b128), .val (.int r164), .unset]) rfl ?_
            show Steps p.tables e below (T162.setTop (mkF m 239 #[.val (.int p0), .val (.int p1), .val (.int p2), .val (.int p3), .val (.int p4), .val (.int v85), .val (.ref b87), .val (.ref b128), .val (.int r164), .unset] [])) _
            refine XS.aload X162.here hx rfl (hb hby at_239) rfl rfl ?_
            show Steps p.tables e below (T162.setTop (mkF m 241 #[.val (.int p0), .val (.int p1), .val (.int p2), .val (.int p3), .val (.int p4), .val (.int v85), .val (.ref b87), .val (.ref b128), .val (.int r164), .unset] [(.ref b128)])) _
            refine XS.iconst X162.here hx rfl (hb hby at_241) ?_
            show Steps p.tables e below (T162.setTop (mkF m 242 #[.val (.int p0), .val (.int p1), .val (.int p2), .val (.int p3), .val (.int p4), .val (.int v85), .val (.ref b87), .val (.ref b128), .val (.int r164), .unset] [(.int (2 : Int32)), (.ref b128)])) _
            refine own_ldI X162 hx hZ eq162 Vr128 (i := 2) (by decide : (2 : Int32).toInt = ((2 : Nat) : Int)) (by omega) rfl (g := (mkF m 242 #[.val (.int p0), .val (.int p1), .val (.int p2), .val (.int p3), .val (.int p4), .val (.int v85), .val (.ref b87), .val (.ref b128), .val (.int r164), .unset] [(.int (2 : Int32)), (.ref b128)])) rfl rfl (hb hby at_242) _ ?_
            show Steps p.tables e below (T162.setTop (mkF m 243 #[.val (.int p0), .val (.int p1), .val (.int p2), .val (.int p3), .val (.int p4), .val (.int v85), .val (.ref b87), .val (.ref b128), .val (.int r164), .unset] [(.int (g128 2))])) _
            refine XS.ifNo X162.here hx rfl (hb hby at_243) rfl ((if0 _ _).trans (flt hc243_167).1) ?_
            show Steps p.tables e below (T162.setTop (mkF m 246 #[.val (.int p0), .val (.int p1), .val (.int p2), .val (.int p3), .val (.int p4), .val (.int v85), .val (.ref b87), .val (.ref b128), .val (.int r164), .unset] [])) _
            refine XS.aload X162.here hx rfl (hb hby at_246) rfl rfl ?_
            show Steps p.tables e below (T162.setTop (mkF m 248 #[.val (.int p0), .val (.int p1), .val (.int p2), .val (.int p3), .val (.int p4), .val (.int v85), .val (.ref b87), .val (.ref b128), .val (.int r164), .unset] [(.ref b128)])) _
            refine XS.iconst X162.here hx rfl (hb hby at_248) ?_
            show Steps p.tables e below (T162.setTop (mkF m 249 #[.val (.int p0), .val (.int p1), .val (.int p2), .val (.int p3), .val (.int p4), .val (.int v85), .val (.ref b87), .val (.ref b128), .val (.int r164), .unset] [(.int (2 : Int32)), (.ref b128)])) _
            refine own_ldI X162 hx hZ eq162 Vr128 (i := 2) (by decide : (2 : Int32).toInt = ((2 : Nat) : Int)) (by omega) rfl (g := (mkF m 249 #[.val (.int p0), .val (.int p1), .val (.int p2), .val (.int p3), .val (.int p4), .val (.int v85), .val (.ref b87), .val (.ref b128), .val (.int r164), .unset] [(.int (2 : Int32)), (.ref b128)])) rfl rfl (hb hby at_249) _ ?_
            show Steps p.tables e below (T162.setTop (mkF m 250 #[.val (.int p0), .val (.int p1), .val (.int p2), .val (.int p3), .val (.int p4), .val (.int v85), .val (.ref b87), .val (.ref b128), .val (.int r164), .unset] [(.int (g128 2))])) _
            refine XS.iload X162.here hx rfl (hb hby at_250) rfl ?_
            show Steps p.tables e below (T162.setTop (mkF m 252 #[.val (.int p0), .val (.int p1), .val (.int p2), .val (.int p3), .val (.int p4), .val (.int v85), .val (.ref b87), .val (.ref b128), .val (.int r164), .unset] [(.int r164), (.int (g128 2))])) _
            refine XS.iconst X162.here hx rfl (hb hby at_252) ?_
            show Steps p.tables e below (T162.setTop (mkF m 253 #[.val (.int p0), .val (.int p1), .val (.int p2), .val (.int p3), .val (.int p4), .val (.int v85), .val (.ref b87), .val (.ref b128), .val (.int r164), .unset] [(.int (1 : Int32)), (.int r164), (.int (g128 2))])) _
            refine XS.iadd X162.here hx rfl (hb hby at_253) rfl ?_
            show Steps p.tables e below (T162.setTop (mkF m 254 #[.val (.int p0), .val (.int p1), .val (.int p2), .val (.int p3), .val (.int p4), .val (.int v85), .val (.ref b87), .val (.ref b128), .val (.int r164), .unset] [(.int (r164 + (1 : Int32))), (.int (g128 2))])) _
            refine XS.icmpYes X162.here hx rfl (pc0 := 254) (pc' := 259) rfl (hb hby at_254) rfl (flt hc254_178).2.2.2 (by decide) (by decide) ?_
            show Steps p.tables e below (T162.setTop (mkF m 259 #[.val (.int p0), .val (.int p1), .val (.int p2), .val (.int p3), .val (.int p4), .val (.int v85), .val (.ref b87), .val (.ref b128), .val (.int r164), .unset] [])) _
            refine XS.iload X162.here hx rfl (hb hby at_259) rfl ?_
            show Steps p.tables e below (T162.setTop (mkF m 261 #[.val (.int p0), .val (.int p1), .val (.int p2), .val (.int p3), .val (.int p4), .val (.int v85), .val (.ref b87), .val (.ref b128), .val (.int r164), .unset] [(.int v85)])) _
            refine XS.iconst X162.here hx rfl (hb hby at_261) ?_
            show Steps p.tables e below (T162.setTop (mkF m 262 #[.val (.int p0), .val (.int p1), .val (.int p2), .val (.int p3), .val (.int p4), .val (.int v85), .val (.ref b87), .val (.ref b128), .val (.int r164), .unset] [(.int (3 : Int32)), (.int v85)])) _
            refine XS.icmpNo X162.here hx rfl (hb hby at_262) rfl (tlt hc67_110).2.2.2 ?_
            show Steps p.tables e below (T162.setTop (mkF m 265 #[.val (.int p0), .val (.int p1), .val (.int p2), .val (.int p3), .val (.int p4), .val (.int v85), .val (.ref b87), .val (.ref b128), .val (.int r164), .unset] [])) _
            refine XS.iload X162.here hx rfl (hb hby at_265) rfl ?_
            show Steps p.tables e below (T162.setTop (mkF m 267 #[.val (.int p0), .val (.int p1), .val (.int p2), .val (.int p3), .val (.int p4), .val (.int v85), .val (.ref b87), .val (.ref b128), .val (.int r164), .unset] [(.int r164)])) _
            refine XS.aload X162.here hx rfl (hb hby at_267) rfl rfl ?_
            show Steps p.tables e below (T162.setTop (mkF m 269 #[.val (.int p0), .val (.int p1), .val (.int p2), .val (.int p3), .val (.int p4), .val (.int v85), .val (.ref b87), .val (.ref b128), .val (.int r164), .unset] [(.ref b128), (.int r164)])) _
            refine XS.iconst X162.here hx rfl (hb hby at_269) ?_
            show Steps p.tables e below (T162.setTop (mkF m 270 #[.val (.int p0), .val (.int p1), .val (.int p2), .val (.int p3), .val (.int p4), .val (.int v85), .val (.ref b87), .val (.ref b128), .val (.int r164), .unset] [(.int (2 : Int32)), (.ref b128), (.int r164)])) _
            refine own_ldI X162 hx hZ eq162 Vr128 (i := 2) (by decide : (2 : Int32).toInt = ((2 : Nat) : Int)) (by omega) rfl (g := (mkF m 270 #[.val (.int p0), .val (.int p1), .val (.int p2), .val (.int p3), .val (.int p4), .val (.int v85), .val (.ref b87), .val (.ref b128), .val (.int r164), .unset] [(.int (2 : Int32)), (.ref b128), (.int r164)])) rfl rfl (hb hby at_270) _ ?_
            show Steps p.tables e below (T162.setTop (mkF m 271 #[.val (.int p0), .val (.int p1), .val (.int p2), .val (.int p3), .val (.int p4), .val (.int v85), .val (.ref b87), .val (.ref b128), .val (.int r164), .unset] [(.int (g128 2)), (.int r164)])) _
            refine st179 _ ?_
            show Steps p.tables e below (T179.setTop (mkF m 274 #[.val (.int p0), .val (.int p1), .val (.int p2), .val (.int p3), .val (.int p4), .val (.int v85), .val (.ref b87), .val (.ref b128), .val (.int r164), .unset] [(.int (own_max r164 (g128 2)))])) _
            exact kt
          obtain ⟨r181, hr181⟩ : ∃ z : Int32, z = (own_max r164 (g128 2)) := ⟨_, rfl⟩
          rw [← hr181] at k180
          have hc280_184 : ¬ ((g128 3) < (0 : Int32)) := (by
              have ar182 := rng32 (g128 3)
              have ar183 : (0 : Int32).toInt = 0 := by decide
              exact fun qq_ => absurd (Int32.lt_iff_toInt_lt.mp qq_) (by omega))
          have hc291_200 : ¬ ((r181 + (1 : Int32)) < (g128 3)) := (by
              have ar185 := rng32 r181
              have ar186 := rng32 r164
              have ar187 := rng32 (g128 0)
              have ar188 := rng32 (g128 1)
              have ar189 : ((g128 0).toInt < (g128 1).toInt ∧ (if (g128 0) < (g128 1) then (g128 1) else (g128 0)).toInt = (g128 1).toInt) ∨ (¬ ((g128 0).toInt < (g128 1).toInt) ∧ (if (g128 0) < (g128 1) then (g128 1) else (g128 0)).toInt = (g128 0).toInt) := by
                    by_cases q : (g128 0) < (g128 1)
                    · exact Or.inl ⟨Int32.lt_iff_toInt_lt.mp q, by rw [if_pos q]⟩
                    · exact Or.inr ⟨fun q' => q (Int32.lt_iff_toInt_lt.mpr q'), by rw [if_neg q]⟩
              have ar190 : (own_max (g128 0) (g128 1)).toInt = (if (g128 0) < (g128 1) then (g128 1) else (g128 0)).toInt := congrArg _ (own_eq_own_max (g128 0) (g128 1))
              have ar191 := congrArg Int32.toInt hr164
              have ar192 := rng32 (g128 2)
              have ar193 : (r164.toInt < (g128 2).toInt ∧ (if r164 < (g128 2) then (g128 2) else r164).toInt = (g128 2).toInt) ∨ (¬ (r164.toInt < (g128 2).toInt) ∧ (if r164 < (g128 2) then (g128 2) else r164).toInt = r164.toInt) := by
                    by_cases q : r164 < (g128 2)
                    · exact Or.inl ⟨Int32.lt_iff_toInt_lt.mp q, by rw [if_pos q]⟩
                    · exact Or.inr ⟨fun q' => q (Int32.lt_iff_toInt_lt.mpr q'), by rw [if_neg q]⟩
              have ar194 : (own_max r164 (g128 2)).toInt = (if r164 < (g128 2) then (g128 2) else r164).toInt := congrArg _ (own_eq_own_max r164 (g128 2))
              have ar195 := congrArg Int32.toInt hr181
              have ar196 : (1 : Int32).toInt = 1 := by decide
              have ar197 := rng32 (r181 + (1 : Int32))
              first | have ar198 : (r181 + (1 : Int32)).toInt = r181.toInt + 1 := (by have qw := c_iadd r181 (1 : Int32); omega) | (have ar198 := c_iadd r181 (1 : Int32); skip)
              have ar199 := rng32 (g128 3)
              exact fun qq_ => absurd (Int32.lt_iff_toInt_lt.mp qq_) (by omega))
          have k201 : ∀ tg_, Steps p.tables e below (T179.setTop (mkF m 297 #[.val (.int p0), .val (.int p1), .val (.int p2), .val (.int p3), .val (.int p4), .val (.int v85), .val (.ref b87), .val (.ref b128), .val (.int r164), .val (.int r181)] [(.int (1 : Int32))])) tg_ → Steps p.tables e below (s₁.setTop (entryFrame m #[(.int p0), (.int p1), (.int p2), (.int p3), (.int p4)] maxLocals)) tg_ := by
            intro tg_ kt
            refine k180 tg_ ?_
            show Steps p.tables e below (T179.setTop (mkF m 274 #[.val (.int p0), .val (.int p1), .val (.int p2), .val (.int p3), .val (.int p4), .val (.int v85), .val (.ref b87), .val (.ref b128), .val (.int r164), .unset] [(.int r181)])) _
            refine XS.istore X179.here hx rfl (hb hby at_274) rfl (l' := #[.val (.int p0), .val (.int p1), .val (.int p2), .val (.int p3), .val (.int p4), .val (.int v85), .val (.ref b87), .val (.ref b128), .val (.int r164), .val (.int r181)]) rfl ?_
            show Steps p.tables e below (T179.setTop (mkF m 276 #[.val (.int p0), .val (.int p1), .val (.int p2), .val (.int p3), .val (.int p4), .val (.int v85), .val (.ref b87), .val (.ref b128), .val (.int r164), .val (.int r181)] [])) _
            refine XS.aload X179.here hx rfl (hb hby at_276) rfl rfl ?_
            show Steps p.tables e below (T179.setTop (mkF m 278 #[.val (.int p0), .val (.int p1), .val (.int p2), .val (.int p3), .val (.int p4), .val (.int v85), .val (.ref b87), .val (.ref b128), .val (.int r164), .val (.int r181)] [(.ref b128)])) _
            refine XS.iconst X179.here hx rfl (hb hby at_278) ?_
            show Steps p.tables e below (T179.setTop (mkF m 279 #[.val (.int p0), .val (.int p1), .val (.int p2), .val (.int p3), .val (.int p4), .val (.int v85), .val (.ref b87), .val (.ref b128), .val (.int r164), .val (.int r181)] [(.int (3 : Int32)), (.ref b128)])) _
            refine own_ldI X179 hx hZ eq179 Vr128 (i := 3) (by decide : (3 : Int32).toInt = ((3 : Nat) : Int)) (by omega) rfl (g := (mkF m 279 #[.val (.int p0), .val (.int p1), .val (.int p2), .val (.int p3), .val (.int p4), .val (.int v85), .val (.ref b87), .val (.ref b128), .val (.int r164), .val (.int r181)] [(.int (3 : Int32)), (.ref b128)])) rfl rfl (hb hby at_279) _ ?_
            show Steps p.tables e below (T179.setTop (mkF m 280 #[.val (.int p0), .val (.int p1), .val (.int p2), .val (.int p3), .val (.int p4), .val (.int v85), .val (.ref b87), .val (.ref b128), .val (.int r164), .val (.int r181)] [(.int (g128 3))])) _
            refine XS.ifNo X179.here hx rfl (hb hby at_280) rfl ((if0 _ _).trans (flt hc280_184).1) ?_
            show Steps p.tables e below (T179.setTop (mkF m 283 #[.val (.int p0), .val (.int p1), .val (.int p2), .val (.int p3), .val (.int p4), .val (.int v85), .val (.ref b87), .val (.ref b128), .val (.int r164), .val (.int r181)] [])) _
            refine XS.aload X179.here hx rfl (hb hby at_283) rfl rfl ?_
            show Steps p.tables e below (T179.setTop (mkF m 285 #[.val (.int p0), .val (.int p1), .val (.int p2), .val (.int p3), .val (.int p4), .val (.int v85), .val (.ref b87), .val (.ref b128), .val (.int r164), .val (.int r181)] [(.ref b128)])) _
            refine XS.iconst X179.here hx rfl (hb hby at_285) ?_
            show Steps p.tables e below (T179.setTop (mkF m 286 #[.val (.int p0), .val (.int p1), .val (.int p2), .val (.int p3), .val (.int p4), .val (.int v85), .val (.ref b87), .val (.ref b128), .val (.int r164), .val (.int r181)] [(.int (3 : Int32)), (.ref b128)])) _
            refine own_ldI X179 hx hZ eq179 Vr128 (i := 3) (by decide : (3 : Int32).toInt = ((3 : Nat) : Int)) (by omega) rfl (g := (mkF m 286 #[.val (.int p0), .val (.int p1), .val (.int p2), .val (.int p3), .val (.int p4), .val (.int v85), .val (.ref b87), .val (.ref b128), .val (.int r164), .val (.int r181)] [(.int (3 : Int32)), (.ref b128)])) rfl rfl (hb hby at_286) _ ?_
            show Steps p.tables e below (T179.setTop (mkF m 287 #[.val (.int p0), .val (.int p1), .val (.int p2), .val (.int p3), .val (.int p4), .val (.int v85), .val (.ref b87), .val (.ref b128), .val (.int r164), .val (.int r181)] [(.int (g128 3))])) _
            refine XS.iload X179.here hx rfl (hb hby at_287) rfl ?_
            show Steps p.tables e below (T179.setTop (mkF m 289 #[.val (.int p0), .val (.int p1), .val (.int p2), .val (.int p3), .val (.int p4), .val (.int v85), .val (.ref b87), .val (.ref b128), .val (.int r164), .val (.int r181)] [(.int r181), (.int (g128 3))])) _
            refine XS.iconst X179.here hx rfl (hb hby at_289) ?_
            show Steps p.tables e below (T179.setTop (mkF m 290 #[.val (.int p0), .val (.int p1), .val (.int p2), .val (.int p3), .val (.int p4), .val (.int v85), .val (.ref b87), .val (.ref b128), .val (.int r164), .val (.int r181)] [(.int (1 : Int32)), (.int r181), (.int (g128 3))])) _
            refine XS.iadd X179.here hx rfl (hb hby at_290) rfl ?_
            show Steps p.tables e below (T179.setTop (mkF m 291 #[.val (.int p0), .val (.int p1), .val (.int p2), .val (.int p3), .val (.int p4), .val (.int v85), .val (.ref b87), .val (.ref b128), .val (.int r164), .val (.int r181)] [(.int (r181 + (1 : Int32))), (.int (g128 3))])) _
            refine XS.icmpYes X179.here hx rfl (pc0 := 291) (pc' := 296) rfl (hb hby at_291) rfl (flt hc291_200).2.2.2 (by decide) (by decide) ?_
            show Steps p.tables e below (T179.setTop (mkF m 296 #[.val (.int p0), .val (.int p1), .val (.int p2), .val (.int p3), .val (.int p4), .val (.int v85), .val (.ref b87), .val (.ref b128), .val (.int r164), .val (.int r181)] [])) _
            refine XS.iconst X179.here hx rfl (hb hby at_296) ?_
            show Steps p.tables e below (T179.setTop (mkF m 297 #[.val (.int p0), .val (.int p1), .val (.int p2), .val (.int p3), .val (.int p4), .val (.int v85), .val (.ref b87), .val (.ref b128), .val (.int r164), .val (.int r181)] [(.int (1 : Int32))])) _
            exact kt
          obtain ⟨fs, hr, hrun, hended, hW, hsame⟩ := X179.leave (v := some (.int (1 : Int32))) (fun h => by rw [Bd.returns] at h; cases h)
          refine ⟨_, _, k201 _ (retN X179 hx (t := .boolean) Bd.returns (by simp) (hb hby at_297) hr), hrun, hended, _, _, rfl, ?_, ⟨_, rfl⟩, hW, hsame.mono (by decide) (by decide)⟩
          show Q0 Z p0 p1 p2 p3 p4 h0 n0 _ T179.heap _
          rw [eq179]
          exact ⟨rfl, N179⟩
        · have k202 : ∀ tg_, Steps p.tables e below (T108.setTop (mkF m 82 #[.val (.int p0), .val (.int p1), .val (.int p2), .val (.int p3), .val (.int p4), .val (.int v85), .val (.ref b87), .unset, .unset, .unset] [])) tg_ → Steps p.tables e below (s₁.setTop (entryFrame m #[(.int p0), (.int p1), (.int p2), (.int p3), (.int p4)] maxLocals)) tg_ := by
            intro tg_ kt
            refine k109 tg_ ?_
            refine XS.icmpYes X108.here hx rfl (pc0 := 67) (pc' := 82) rfl (hb hby at_67) rfl (flt hc67_110).2.2.2 (by decide) (by decide) ?_
            show Steps p.tables e below (T108.setTop (mkF m 82 #[.val (.int p0), .val (.int p1), .val (.int p2), .val (.int p3), .val (.int p4), .val (.int v85), .val (.ref b87), .unset, .unset, .unset] [])) _
            exact kt
          have hnc : n = 3 := by
            have ar203 : (0 : Int32).toInt = 0 := by decide
            have ar204 := rng32 v85
            have ar205 : (0 : Int32).toInt < v85.toInt := Int32.lt_iff_toInt_lt.mp hc16_89
            have ar206 : (1 : Int32).toInt = 1 := by decide
            have ar207 : (1 : Int32).toInt < v85.toInt := Int32.lt_iff_toInt_lt.mp hc33_96
            have ar208 : (2 : Int32).toInt = 2 := by decide
            have ar209 : (2 : Int32).toInt < v85.toInt := Int32.lt_iff_toInt_lt.mp hc50_103
            have ar210 : (3 : Int32).toInt = 3 := by decide
            have ar211 : ¬ ((3 : Int32).toInt < v85.toInt) := fun qq_ => hc67_110 (Int32.lt_iff_toInt_lt.mpr qq_)
            have hv := hnn
            omega
          obtain ⟨fa212, hfa212⟩ : ∃ z : Nat → Int32, z = (own_upd (own_upd (own_upd (fun _ => 0) 0 ((p1 &&& (2147483647 : Int32)) % v85)) 1 ((p2 &&& (2147483647 : Int32)) % v85)) 2 ((p3 &&& (2147483647 : Int32)) % v85)) := ⟨_, rfl⟩
          rw [← hfa212] at V108
          obtain ⟨A, hAd⟩ : ∃ A : Nat → Nat, A = fun i => (fa212 i).toInt.toNat := ⟨_, rfl⟩
          have hA : ∀ i, i < n → (fa212 i).toInt = ((A i : Nat) : Int) ∧ A i < n := by
            intro i hi
            have hi4 : i = 0 ∨ i = 1 ∨ i = 2 := by omega
            rcases hi4 with rfl | rfl | rfl
            · obtain ⟨k, hk, hkn⟩ := own_el (x := p1) hnn hlt0
              have e : fa212 0 = ((p1 &&& (2147483647 : Int32)) % v85) := by rw [hfa212]; rfl
              rw [hAd]; dsimp only; rw [e]; omega
            · obtain ⟨k, hk, hkn⟩ := own_el (x := p2) hnn hlt0
              have e : fa212 1 = ((p2 &&& (2147483647 : Int32)) % v85) := by rw [hfa212]; rfl
              rw [hAd]; dsimp only; rw [e]; omega
            · obtain ⟨k, hk, hkn⟩ := own_el (x := p3) hnn hlt0
              have e : fa212 2 = ((p3 &&& (2147483647 : Int32)) % v85) := by rw [hfa212]; rfl
              rw [hAd]; dsimp only; rw [e]; omega
          have hfin := own_fin hn4 (fun i hi => (hA i hi).2)
          obtain ⟨hf1, hf2, hf3, hf4, hf5⟩ := hfin
          have f213 := (Nat.le_trans (Nat.le_trans (Nat.le_trans (Nat.le_trans Z0 ((Keep.refl _ []).ext E87).1) (Keep.of_wr W94).1) (Keep.of_wr W101).1) (Keep.of_wr W108).1)
          obtain ⟨_, _, ⟨T214, L214, kc214, nc214⟩, -, X214, ⟨Lc214, hQ214, l214, y214, z214⟩, st214⟩ := Jvm.LawKit.callS X108 hx (y := (⟨"com/example/coterie/coterie/methods/Communities", "renumbered", "([I)[I"⟩ : MethodName)) hown (mvT hZ (hw _ (List.mem_of_getElem? (i := 1) rfl))) (mvT hZ (hw _ (List.mem_of_getElem? (i := 2) rfl))) (mvT hZ (hw _ (List.mem_of_getElem? (i := 3) rfl))) (mvT hZ (hw _ (List.mem_of_getElem? (i := 4) rfl))) (by decide) (backOf (W := 0) (rm1 l Z a0 hw [] b87 n v85 fa212 A h108 n0 f213 V108 hnn hn4 hA) hZ (hw _ (List.mem_of_getElem? (i := 4) rfl)) (hw _ (List.mem_of_getElem? (i := 3) rfl)) (by decide) (by decide)) (g := (mkF m 84 #[.val (.int p0), .val (.int p1), .val (.int p2), .val (.int p3), .val (.int p4), .val (.int v85), .val (.ref b87), .unset, .unset, .unset] [(.ref b87)])) rfl (by rw [hml]; rfl) (argsL := [(.ref b87)]) (rest := []) (lenOf pd_0 rfl) rfl (by show 2 * 0 + _ ≤ _; exact Nat.le_of_eq rfl) (hb hby at_84) (fun _ _ => ⟨rfl, e108, (by decide : 1 + 2 ≤ _), (by decide : 4 + 8 ≤ _)⟩)
          dsimp only [Pt.U, Pt.locs, Pt.cells, Pt.slots] at X214 l214 y214 z214 st214 hQ214
          subst l214 y214 z214
          obtain ⟨-, Nq214, oK214, m0_214⟩ := hQ214
          have N214 := Fr.app N108 Nq214
          obtain ⟨b214, g214, rfl, Vr214, hr214, gb214, sb214⟩ := m0_214
          have k215 : ∀ tg_, Steps p.tables e below (T214.setTop (mkF m 89 #[.val (.int p0), .val (.int p1), .val (.int p2), .val (.int p3), .val (.int p4), .val (.int v85), .val (.ref b87), .val (.ref b214), .unset, .unset] [])) tg_ → Steps p.tables e below (s₁.setTop (entryFrame m #[(.int p0), (.int p1), (.int p2), (.int p3), (.int p4)] maxLocals)) tg_ := by
            intro tg_ kt
            refine k202 tg_ ?_
            refine XS.aload X108.here hx rfl (hb hby at_82) rfl rfl ?_
            show Steps p.tables e below (T108.setTop (mkF m 84 #[.val (.int p0), .val (.int p1), .val (.int p2), .val (.int p3), .val (.int p4), .val (.int v85), .val (.ref b87), .unset, .unset, .unset] [(.ref b87)])) _
            refine st214 _ ?_
            show Steps p.tables e below (T214.setTop (mkF m 87 #[.val (.int p0), .val (.int p1), .val (.int p2), .val (.int p3), .val (.int p4), .val (.int v85), .val (.ref b87), .unset, .unset, .unset] [(.ref b214)])) _
            refine XS.astore X214.here hx rfl (hb hby at_87) rfl rfl (l' := #[.val (.int p0), .val (.int p1), .val (.int p2), .val (.int p3), .val (.int p4), .val (.int v85), .val (.ref b87), .val (.ref b214), .unset, .unset]) rfl ?_
            show Steps p.tables e below (T214.setTop (mkF m 89 #[.val (.int p0), .val (.int p1), .val (.int p2), .val (.int p3), .val (.int p4), .val (.int v85), .val (.ref b87), .val (.ref b214), .unset, .unset] [])) _
            exact kt
          have hg0 : (g214 0).toInt = ((own_out A 0 : Nat) : Int) := hr214 0 (by omega)
          have hg1 : (g214 1).toInt = ((own_out A 1 : Nat) : Int) := hr214 1 (by omega)
          have hg2 : (g214 2).toInt = ((own_out A 2 : Nat) : Int) := hr214 2 (by omega)
          have ho0 := hf2 (by omega)
          have ho1 := hf3 (by omega)
          have ho2 := hf4 (by omega)
          have hc99_216 : v85 = v85 := rfl
          have f217 := (V108.keep oK214 nin0)
          obtain ⟨_, _, ⟨T218, L218, kc218, nc218⟩, -, X218, ⟨Lc218, hQ218, l218, y218, z218⟩, st218⟩ := Jvm.LawKit.callS X214 hx (y := (⟨"com/example/coterie/coterie/methods/CommunitiesRenumberedPinLaw", "pair", "([I[III)Z"⟩ : MethodName)) hown (mvT hZ (hw _ (List.mem_of_getElem? (i := 5) rfl))) (mvT hZ (hw _ (List.mem_of_getElem? (i := 6) rfl))) (mvT hZ (hw _ (List.mem_of_getElem? (i := 7) rfl))) (mvT hZ (hw _ (List.mem_of_getElem? (i := 8) rfl))) (by decide) (backOf (W := 0) (rm2 l Z a0 hw [] b87 b214 (0 : Int32) (1 : Int32) n v85 fa212 g214 0 1 T214.heap n0 f217 Vr214 hnn (by decide) (by decide) (by decide)) hZ (hw _ (List.mem_of_getElem? (i := 8) rfl)) (hw _ (List.mem_of_getElem? (i := 7) rfl)) (by decide) (by decide)) (g := (mkF m 110 #[.val (.int p0), .val (.int p1), .val (.int p2), .val (.int p3), .val (.int p4), .val (.int v85), .val (.ref b87), .val (.ref b214), .unset, .unset] [(.int (1 : Int32)), (.int (0 : Int32)), (.ref b214), (.ref b87)])) rfl (by rw [hml]; rfl) (argsL := [(.ref b87), (.ref b214), (.int (0 : Int32)), (.int (1 : Int32))]) (rest := []) (lenOf pd_1 rfl) rfl (by show 2 * 0 + _ ≤ _; exact Nat.le_of_eq rfl) (hb hby at_110) (fun _ _ => ⟨rfl, rfl, (by decide : 3 + 0 ≤ _), (by decide : 12 + 0 ≤ _)⟩)
          dsimp only [Pt.U, Pt.locs, Pt.cells, Pt.slots] at X218 l218 y218 z218 st218 hQ218
          subst l218 y218 z218
          obtain ⟨rfl, Nq218, eq218⟩ := hQ218
          have N218 := Fr.app N214 Nq218
          have hpi219 : ((fa212 0 = fa212 1) ↔ (g214 0 = g214 1)) := by
            have a := hf1 0 1 (by omega) (by omega)
            have b := hA 0 (by omega)
            have d := hA 1 (by omega)
            constructor
            · intro q; apply Int32.toInt_inj.mp; have q' := congrArg Int32.toInt q; rw [hg0, hg1, a.mp (by omega)]
            · intro q; apply Int32.toInt_inj.mp; have q' := congrArg Int32.toInt q; rw [hg0, hg1] at q'; rw [b.1, d.1, a.mpr (by omega)]
          have hc113_220 : ¬ ((if 1 < n then (if ((fa212 0 = fa212 1) ↔ (g214 0 = g214 1)) then (1 : Int32) else (0 : Int32)) else (1 : Int32)) = (0 : Int32)) := (by rw [if_pos (by omega : 1 < n), if_pos hpi219]; decide)
          obtain ⟨_, _, ⟨T221, L221, kc221, nc221⟩, -, X221, ⟨Lc221, hQ221, l221, y221, z221⟩, st221⟩ := Jvm.LawKit.callS X218 hx (y := (⟨"com/example/coterie/coterie/methods/CommunitiesRenumberedPinLaw", "pair", "([I[III)Z"⟩ : MethodName)) hown (mvT hZ (hw _ (List.mem_of_getElem? (i := 5) rfl))) (mvT hZ (hw _ (List.mem_of_getElem? (i := 6) rfl))) (mvT hZ (hw _ (List.mem_of_getElem? (i := 7) rfl))) (mvT hZ (hw _ (List.mem_of_getElem? (i := 8) rfl))) (by decide) (backOf (W := 0) (rm2 l Z a0 hw [] b87 b214 (0 : Int32) (2 : Int32) n v85 fa212 g214 0 2 T214.heap n0 f217 Vr214 hnn (by decide) (by decide) (by decide)) hZ (hw _ (List.mem_of_getElem? (i := 8) rfl)) (hw _ (List.mem_of_getElem? (i := 7) rfl)) (by decide) (by decide)) (g := (mkF m 122 #[.val (.int p0), .val (.int p1), .val (.int p2), .val (.int p3), .val (.int p4), .val (.int v85), .val (.ref b87), .val (.ref b214), .unset, .unset] [(.int (2 : Int32)), (.int (0 : Int32)), (.ref b214), (.ref b87)])) rfl (by rw [hml]; rfl) (argsL := [(.ref b87), (.ref b214), (.int (0 : Int32)), (.int (2 : Int32))]) (rest := []) (lenOf pd_1 rfl) rfl (by show 2 * 0 + _ ≤ _; exact Nat.le_of_eq rfl) (hb hby at_122) (fun _ _ => ⟨rfl, eq218, (by decide : 3 + 0 ≤ _), (by decide : 12 + 0 ≤ _)⟩)
          dsimp only [Pt.U, Pt.locs, Pt.cells, Pt.slots] at X221 l221 y221 z221 st221 hQ221
          subst l221 y221 z221
          obtain ⟨rfl, Nq221, eq221⟩ := hQ221
          have N221 := Fr.app N218 Nq221
          have hpi222 : ((fa212 0 = fa212 2) ↔ (g214 0 = g214 2)) := by
            have a := hf1 0 2 (by omega) (by omega)
            have b := hA 0 (by omega)
            have d := hA 2 (by omega)
            constructor
            · intro q; apply Int32.toInt_inj.mp; have q' := congrArg Int32.toInt q; rw [hg0, hg2, a.mp (by omega)]
            · intro q; apply Int32.toInt_inj.mp; have q' := congrArg Int32.toInt q; rw [hg0, hg2] at q'; rw [b.1, d.1, a.mpr (by omega)]
          have hc125_223 : ¬ ((if 2 < n then (if ((fa212 0 = fa212 2) ↔ (g214 0 = g214 2)) then (1 : Int32) else (0 : Int32)) else (1 : Int32)) = (0 : Int32)) := (by rw [if_pos (by omega : 2 < n), if_pos hpi222]; decide)
          obtain ⟨_, _, ⟨T224, L224, kc224, nc224⟩, -, X224, ⟨Lc224, hQ224, l224, y224, z224⟩, st224⟩ := Jvm.LawKit.callS X221 hx (y := (⟨"com/example/coterie/coterie/methods/CommunitiesRenumberedPinLaw", "pair", "([I[III)Z"⟩ : MethodName)) hown (mvT hZ (hw _ (List.mem_of_getElem? (i := 5) rfl))) (mvT hZ (hw _ (List.mem_of_getElem? (i := 6) rfl))) (mvT hZ (hw _ (List.mem_of_getElem? (i := 7) rfl))) (mvT hZ (hw _ (List.mem_of_getElem? (i := 8) rfl))) (by decide) (backOf (W := 0) (rm2 l Z a0 hw [] b87 b214 (0 : Int32) (3 : Int32) n v85 fa212 g214 0 3 T214.heap n0 f217 Vr214 hnn (by decide) (by decide) (by decide)) hZ (hw _ (List.mem_of_getElem? (i := 8) rfl)) (hw _ (List.mem_of_getElem? (i := 7) rfl)) (by decide) (by decide)) (g := (mkF m 134 #[.val (.int p0), .val (.int p1), .val (.int p2), .val (.int p3), .val (.int p4), .val (.int v85), .val (.ref b87), .val (.ref b214), .unset, .unset] [(.int (3 : Int32)), (.int (0 : Int32)), (.ref b214), (.ref b87)])) rfl (by rw [hml]; rfl) (argsL := [(.ref b87), (.ref b214), (.int (0 : Int32)), (.int (3 : Int32))]) (rest := []) (lenOf pd_1 rfl) rfl (by show 2 * 0 + _ ≤ _; exact Nat.le_of_eq rfl) (hb hby at_134) (fun _ _ => ⟨rfl, eq221, (by decide : 3 + 0 ≤ _), (by decide : 12 + 0 ≤ _)⟩)
          dsimp only [Pt.U, Pt.locs, Pt.cells, Pt.slots] at X224 l224 y224 z224 st224 hQ224
          subst l224 y224 z224
          obtain ⟨rfl, Nq224, eq224⟩ := hQ224
          have N224 := Fr.app N221 Nq224
          have hc137_226 : ¬ ((if 3 < n then (if ((fa212 0 = fa212 3) ↔ (g214 0 = g214 3)) then (1 : Int32) else (0 : Int32)) else (1 : Int32)) = (0 : Int32)) := (by rw [if_neg (by omega : ¬ 3 < n)]; decide)
          obtain ⟨_, _, ⟨T227, L227, kc227, nc227⟩, -, X227, ⟨Lc227, hQ227, l227, y227, z227⟩, st227⟩ := Jvm.LawKit.callS X224 hx (y := (⟨"com/example/coterie/coterie/methods/CommunitiesRenumberedPinLaw", "pair", "([I[III)Z"⟩ : MethodName)) hown (mvT hZ (hw _ (List.mem_of_getElem? (i := 5) rfl))) (mvT hZ (hw _ (List.mem_of_getElem? (i := 6) rfl))) (mvT hZ (hw _ (List.mem_of_getElem? (i := 7) rfl))) (mvT hZ (hw _ (List.mem_of_getElem? (i := 8) rfl))) (by decide) (backOf (W := 0) (rm2 l Z a0 hw [] b87 b214 (1 : Int32) (2 : Int32) n v85 fa212 g214 1 2 T214.heap n0 f217 Vr214 hnn (by decide) (by decide) (by decide)) hZ (hw _ (List.mem_of_getElem? (i := 8) rfl)) (hw _ (List.mem_of_getElem? (i := 7) rfl)) (by decide) (by decide)) (g := (mkF m 146 #[.val (.int p0), .val (.int p1), .val (.int p2), .val (.int p3), .val (.int p4), .val (.int v85), .val (.ref b87), .val (.ref b214), .unset, .unset] [(.int (2 : Int32)), (.int (1 : Int32)), (.ref b214), (.ref b87)])) rfl (by rw [hml]; rfl) (argsL := [(.ref b87), (.ref b214), (.int (1 : Int32)), (.int (2 : Int32))]) (rest := []) (lenOf pd_1 rfl) rfl (by show 2 * 0 + _ ≤ _; exact Nat.le_of_eq rfl) (hb hby at_146) (fun _ _ => ⟨rfl, eq224, (by decide : 3 + 0 ≤ _), (by decide : 12 + 0 ≤ _)⟩)
          dsimp only [Pt.U, Pt.locs, Pt.cells, Pt.slots] at X227 l227 y227 z227 st227 hQ227
          subst l227 y227 z227
          obtain ⟨rfl, Nq227, eq227⟩ := hQ227
          have N227 := Fr.app N224 Nq227
          have hpi228 : ((fa212 1 = fa212 2) ↔ (g214 1 = g214 2)) := by
            have a := hf1 1 2 (by omega) (by omega)
            have b := hA 1 (by omega)
            have d := hA 2 (by omega)
            constructor
            · intro q; apply Int32.toInt_inj.mp; have q' := congrArg Int32.toInt q; rw [hg1, hg2, a.mp (by omega)]
            · intro q; apply Int32.toInt_inj.mp; have q' := congrArg Int32.toInt q; rw [hg1, hg2] at q'; rw [b.1, d.1, a.mpr (by omega)]
          have hc149_229 : ¬ ((if 2 < n then (if ((fa212 1 = fa212 2) ↔ (g214 1 = g214 2)) then (1 : Int32) else (0 : Int32)) else (1 : Int32)) = (0 : Int32)) := (by rw [if_pos (by omega : 2 < n), if_pos hpi228]; decide)
          obtain ⟨_, _, ⟨T230, L230, kc230, nc230⟩, -, X230, ⟨Lc230, hQ230, l230, y230, z230⟩, st230⟩ := Jvm.LawKit.callS X227 hx (y := (⟨"com/example/coterie/coterie/methods/CommunitiesRenumberedPinLaw", "pair", "([I[III)Z"⟩ : MethodName)) hown (mvT hZ (hw _ (List.mem_of_getElem? (i := 5) rfl))) (mvT hZ (hw _ (List.mem_of_getElem? (i := 6) rfl))) (mvT hZ (hw _ (List.mem_of_getElem? (i := 7) rfl))) (mvT hZ (hw _ (List.mem_of_getElem? (i := 8) rfl))) (by decide) (backOf (W := 0) (rm2 l Z a0 hw [] b87 b214 (1 : Int32) (3 : Int32) n v85 fa212 g214 1 3 T214.heap n0 f217 Vr214 hnn (by decide) (by decide) (by decide)) hZ (hw _ (List.mem_of_getElem? (i := 8) rfl)) (hw _ (List.mem_of_getElem? (i := 7) rfl)) (by decide) (by decide)) (g := (mkF m 158 #[.val (.int p0), .val (.int p1), .val (.int p2), .val (.int p3), .val (.int p4), .val (.int v85), .val (.ref b87), .val (.ref b214), .unset, .unset] [(.int (3 : Int32)), (.int (1 : Int32)), (.ref b214), (.ref b87)])) rfl (by rw [hml]; rfl) (argsL := [(.ref b87), (.ref b214), (.int (1 : Int32)), (.int (3 : Int32))]) (rest := []) (lenOf pd_1 rfl) rfl (by show 2 * 0 + _ ≤ _; exact Nat.le_of_eq rfl) (hb hby at_158) (fun _ _ => ⟨rfl, eq227, (by decide : 3 + 0 ≤ _), (by decide : 12 + 0 ≤ _)⟩)
          dsimp only [Pt.U, Pt.locs, Pt.cells, Pt.slots] at X230 l230 y230 z230 st230 hQ230
          subst l230 y230 z230
          obtain ⟨rfl, Nq230, eq230⟩ := hQ230
          have N230 := Fr.app N227 Nq230
          have hc161_232 : ¬ ((if 3 < n then (if ((fa212 1 = fa212 3) ↔ (g214 1 = g214 3)) then (1 : Int32) else (0 : Int32)) else (1 : Int32)) = (0 : Int32)) := (by rw [if_neg (by omega : ¬ 3 < n)]; decide)
          obtain ⟨_, _, ⟨T233, L233, kc233, nc233⟩, -, X233, ⟨Lc233, hQ233, l233, y233, z233⟩, st233⟩ := Jvm.LawKit.callS X230 hx (y := (⟨"com/example/coterie/coterie/methods/CommunitiesRenumberedPinLaw", "pair", "([I[III)Z"⟩ : MethodName)) hown (mvT hZ (hw _ (List.mem_of_getElem? (i := 5) rfl))) (mvT hZ (hw _ (List.mem_of_getElem? (i := 6) rfl))) (mvT hZ (hw _ (List.mem_of_getElem? (i := 7) rfl))) (mvT hZ (hw _ (List.mem_of_getElem? (i := 8) rfl))) (by decide) (backOf (W := 0) (rm2 l Z a0 hw [] b87 b214 (2 : Int32) (3 : Int32) n v85 fa212 g214 2 3 T214.heap n0 f217 Vr214 hnn (by decide) (by decide) (by decide)) hZ (hw _ (List.mem_of_getElem? (i := 8) rfl)) (hw _ (List.mem_of_getElem? (i := 7) rfl)) (by decide) (by decide)) (g := (mkF m 170 #[.val (.int p0), .val (.int p1), .val (.int p2), .val (.int p3), .val (.int p4), .val (.int v85), .val (.ref b87), .val (.ref b214), .unset, .unset] [(.int (3 : Int32)), (.int (2 : Int32)), (.ref b214), (.ref b87)])) rfl (by rw [hml]; rfl) (argsL := [(.ref b87), (.ref b214), (.int (2 : Int32)), (.int (3 : Int32))]) (rest := []) (lenOf pd_1 rfl) rfl (by show 2 * 0 + _ ≤ _; exact Nat.le_of_eq rfl) (hb hby at_170) (fun _ _ => ⟨rfl, eq230, (by decide : 3 + 0 ≤ _), (by decide : 12 + 0 ≤ _)⟩)
          dsimp only [Pt.U, Pt.locs, Pt.cells, Pt.slots] at X233 l233 y233 z233 st233 hQ233
          subst l233 y233 z233
          obtain ⟨rfl, Nq233, eq233⟩ := hQ233
          have N233 := Fr.app N230 Nq233
          have hc173_235 : ¬ ((if 3 < n then (if ((fa212 2 = fa212 3) ↔ (g214 2 = g214 3)) then (1 : Int32) else (0 : Int32)) else (1 : Int32)) = (0 : Int32)) := (by rw [if_neg (by omega : ¬ 3 < n)]; decide)
          have hc187_238 : (g214 0) = (0 : Int32) := (by
              have ar236 := rng32 (g214 0)
              have ar237 : (0 : Int32).toInt = 0 := by decide
              exact Int32.toInt_inj.mp (by omega))
          have hc202_241 : ¬ ((g214 1) < (0 : Int32)) := (by
              have ar239 := rng32 (g214 1)
              have ar240 : (0 : Int32).toInt = 0 := by decide
              exact fun qq_ => absurd (Int32.lt_iff_toInt_lt.mp qq_) (by omega))
          have hc215_247 : ¬ (((g214 0) + (1 : Int32)) < (g214 1)) := (by
              have ar242 := rng32 (g214 0)
              have ar243 : (1 : Int32).toInt = 1 := by decide
              have ar244 := rng32 ((g214 0) + (1 : Int32))
              first | have ar245 : ((g214 0) + (1 : Int32)).toInt = (g214 0).toInt + 1 := (by have qw := c_iadd (g214 0) (1 : Int32); omega) | (have ar245 := c_iadd (g214 0) (1 : Int32); skip)
              have ar246 := rng32 (g214 1)
              exact fun qq_ => absurd (Int32.lt_iff_toInt_lt.mp qq_) (by omega))
          obtain ⟨_, _, ⟨T248, L248, kc248, nc248⟩, -, X248, ⟨Lc248, hQ248, l248, y248, z248⟩, st248⟩ := Jvm.LawKit.callS X233 hx (y := (⟨"java/lang/Math", "max", "(II)I"⟩ : MethodName)) hown (mvT hZ (hw _ (List.mem_of_getElem? (i := 10) rfl))) (mvT hZ (hw _ (List.mem_of_getElem? (i := 11) rfl))) (mvT hZ (hw _ (List.mem_of_getElem? (i := 12) rfl))) (mvT hZ (hw _ (List.mem_of_getElem? (i := 13) rfl))) (by decide) (backOf (W := 0) (rm3 l Z a0 hw [] (g214 0) (g214 1) T214.heap n0 ) hZ (hw _ (List.mem_of_getElem? (i := 13) rfl)) (hw _ (List.mem_of_getElem? (i := 12) rfl)) (by decide) (by decide)) (g := (mkF m 234 #[.val (.int p0), .val (.int p1), .val (.int p2), .val (.int p3), .val (.int p4), .val (.int v85), .val (.ref b87), .val (.ref b214), .unset, .unset] [(.int (g214 1)), (.int (g214 0))])) rfl (by rw [hml]; rfl) (argsL := [(.int (g214 0)), (.int (g214 1))]) (rest := []) (lenOf pd_2 rfl) rfl (by show 2 * 0 + _ ≤ _; exact Nat.le_of_eq rfl) (hb hby at_234) (fun _ _ => ⟨rfl, eq233, (by decide : 3 + 0 ≤ _), (by decide : 12 + 0 ≤ _)⟩)
          dsimp only [Pt.U, Pt.locs, Pt.cells, Pt.slots] at X248 l248 y248 z248 st248 hQ248
          subst l248 y248 z248
          obtain ⟨rfl, Nq248, eq248⟩ := hQ248
          have N248 := Fr.app N233 Nq248
          have k249 : ∀ tg_, Steps p.tables e below (T248.setTop (mkF m 237 #[.val (.int p0), .val (.int p1), .val (.int p2), .val (.int p3), .val (.int p4), .val (.int v85), .val (.ref b87), .val (.ref b214), .unset, .unset] [(.int (own_max (g214 0) (g214 1)))])) tg_ → Steps p.tables e below (s₁.setTop (entryFrame m #[(.int p0), (.int p1), (.int p2), (.int p3), (.int p4)] maxLocals)) tg_ := by
            intro tg_ kt
            refine k215 tg_ ?_
            refine XS.aload X214.here hx rfl (hb hby at_89) rfl rfl ?_
            show Steps p.tables e below (T214.setTop (mkF m 91 #[.val (.int p0), .val (.int p1), .val (.int p2), .val (.int p3), .val (.int p4), .val (.int v85), .val (.ref b87), .val (.ref b214), .unset, .unset] [(.ref b214)])) _
            refine XS.ifnullNo X214.here hx rfl (hb hby at_91) rfl ?_
            show Steps p.tables e below (T214.setTop (mkF m 94 #[.val (.int p0), .val (.int p1), .val (.int p2), .val (.int p3), .val (.int p4), .val (.int v85), .val (.ref b87), .val (.ref b214), .unset, .unset] [])) _
            refine XS.aload X214.here hx rfl (hb hby at_94) rfl rfl ?_
            show Steps p.tables e below (T214.setTop (mkF m 96 #[.val (.int p0), .val (.int p1), .val (.int p2), .val (.int p3), .val (.int p4), .val (.int v85), .val (.ref b87), .val (.ref b214), .unset, .unset] [(.ref b214)])) _
            refine own_len X214 hx hZ rfl Vr214 (z := v85) hnn (g := (mkF m 96 #[.val (.int p0), .val (.int p1), .val (.int p2), .val (.int p3), .val (.int p4), .val (.int v85), .val (.ref b87), .val (.ref b214), .unset, .unset] [(.ref b214)])) rfl rfl (hb hby at_96) _ ?_
            show Steps p.tables e below (T214.setTop (mkF m 97 #[.val (.int p0), .val (.int p1), .val (.int p2), .val (.int p3), .val (.int p4), .val (.int v85), .val (.ref b87), .val (.ref b214), .unset, .unset] [(.int v85)])) _
            refine XS.iload X214.here hx rfl (hb hby at_97) rfl ?_
            show Steps p.tables e below (T214.setTop (mkF m 99 #[.val (.int p0), .val (.int p1), .val (.int p2), .val (.int p3), .val (.int p4), .val (.int v85), .val (.ref b87), .val (.ref b214), .unset, .unset] [(.int v85), (.int v85)])) _
            refine XS.icmpYes X214.here hx rfl (pc0 := 99) (pc' := 104) rfl (hb hby at_99) rfl (teq hc99_216).1 (by decide) (by decide) ?_
            show Steps p.tables e below (T214.setTop (mkF m 104 #[.val (.int p0), .val (.int p1), .val (.int p2), .val (.int p3), .val (.int p4), .val (.int v85), .val (.ref b87), .val (.ref b214), .unset, .unset] [])) _
            refine XS.aload X214.here hx rfl (hb hby at_104) rfl rfl ?_
            show Steps p.tables e below (T214.setTop (mkF m 106 #[.val (.int p0), .val (.int p1), .val (.int p2), .val (.int p3), .val (.int p4), .val (.int v85), .val (.ref b87), .val (.ref b214), .unset, .unset] [(.ref b87)])) _
            refine XS.aload X214.here hx rfl (hb hby at_106) rfl rfl ?_
            show Steps p.tables e below (T214.setTop (mkF m 108 #[.val (.int p0), .val (.int p1), .val (.int p2), .val (.int p3), .val (.int p4), .val (.int v85), .val (.ref b87), .val (.ref b214), .unset, .unset] [(.ref b214), (.ref b87)])) _
            refine XS.iconst X214.here hx rfl (hb hby at_108) ?_
            show Steps p.tables e below (T214.setTop (mkF m 109 #[.val (.int p0), .val (.int p1), .val (.int p2), .val (.int p3), .val (.int p4), .val (.int v85), .val (.ref b87), .val (.ref b214), .unset, .unset] [(.int (0 : Int32)), (.ref b214), (.ref b87)])) _
            refine XS.iconst X214.here hx rfl (hb hby at_109) ?_
            show Steps p.tables e below (T214.setTop (mkF m 110 #[.val (.int p0), .val (.int p1), .val (.int p2), .val (.int p3), .val (.int p4), .val (.int v85), .val (.ref b87), .val (.ref b214), .unset, .unset] [(.int (1 : Int32)), (.int (0 : Int32)), (.ref b214), (.ref b87)])) _
            refine st218 _ ?_
            show Steps p.tables e below (T218.setTop (mkF m 113 #[.val (.int p0), .val (.int p1), .val (.int p2), .val (.int p3), .val (.int p4), .val (.int v85), .val (.ref b87), .val (.ref b214), .unset, .unset] [(.int (if 1 < n then (if ((fa212 0 = fa212 1) ↔ (g214 0 = g214 1)) then (1 : Int32) else (0 : Int32)) else (1 : Int32)))])) _
            refine XS.ifNo X218.here hx rfl (hb hby at_113) rfl ((if0 _ _).trans (feq hc113_220).1) ?_
            show Steps p.tables e below (T218.setTop (mkF m 116 #[.val (.int p0), .val (.int p1), .val (.int p2), .val (.int p3), .val (.int p4), .val (.int v85), .val (.ref b87), .val (.ref b214), .unset, .unset] [])) _
            refine XS.aload X218.here hx rfl (hb hby at_116) rfl rfl ?_
            show Steps p.tables e below (T218.setTop (mkF m 118 #[.val (.int p0), .val (.int p1), .val (.int p2), .val (.int p3), .val (.int p4), .val (.int v85), .val (.ref b87), .val (.ref b214), .unset, .unset] [(.ref b87)])) _
            refine XS.aload X218.here hx rfl (hb hby at_118) rfl rfl ?_
            show Steps p.tables e below (T218.setTop (mkF m 120 #[.val (.int p0), .val (.int p1), .val (.int p2), .val (.int p3), .val (.int p4), .val (.int v85), .val (.ref b87), .val (.ref b214), .unset, .unset] [(.ref b214), (.ref b87)])) _
            refine XS.iconst X218.here hx rfl (hb hby at_120) ?_
            show Steps p.tables e below (T218.setTop (mkF m 121 #[.val (.int p0), .val (.int p1), .val (.int p2), .val (.int p3), .val (.int p4), .val (.int v85), .val (.ref b87), .val (.ref b214), .unset, .unset] [(.int (0 : Int32)), (.ref b214), (.ref b87)])) _
            refine XS.iconst X218.here hx rfl (hb hby at_121) ?_
            show Steps p.tables e below (T218.setTop (mkF m 122 #[.val (.int p0), .val (.int p1), .val (.int p2), .val (.int p3), .val (.int p4), .val (.int v85), .val (.ref b87), .val (.ref b214), .unset, .unset] [(.int (2 : Int32)), (.int (0 : Int32)), (.ref b214), (.ref b87)])) _
            refine st221 _ ?_
            show Steps p.tables e below (T221.setTop (mkF m 125 #[.val (.int p0), .val (.int p1), .val (.int p2), .val (.int p3), .val (.int p4), .val (.int v85), .val (.ref b87), .val (.ref b214), .unset, .unset] [(.int (if 2 < n then (if ((fa212 0 = fa212 2) ↔ (g214 0 = g214 2)) then (1 : Int32) else (0 : Int32)) else (1 : Int32)))])) _
            refine XS.ifNo X221.here hx rfl (hb hby at_125) rfl ((if0 _ _).trans (feq hc125_223).1) ?_
            show Steps p.tables e below (T221.setTop (mkF m 128 #[.val (.int p0), .val (.int p1), .val (.int p2), .val (.int p3), .val (.int p4), .val (.int v85), .val (.ref b87), .val (.ref b214), .unset, .unset] [])) _
            refine XS.aload X221.here hx rfl (hb hby at_128) rfl rfl ?_
            show Steps p.tables e below (T221.setTop (mkF m 130 #[.val (.int p0), .val (.int p1), .val (.int p2), .val (.int p3), .val (.int p4), .val (.int v85), .val (.ref b87), .val (.ref b214), .unset, .unset] [(.ref b87)])) _
            refine XS.aload X221.here hx rfl (hb hby at_130) rfl rfl ?_
            show Steps p.tables e below (T221.setTop (mkF m 132 #[.val (.int p0), .val (.int p1), .val (.int p2), .val (.int p3), .val (.int p4), .val (.int v85), .val (.ref b87), .val (.ref b214), .unset, .unset] [(.ref b214), (.ref b87)])) _
            refine XS.iconst X221.here hx rfl (hb hby at_132) ?_
            show Steps p.tables e below (T221.setTop (mkF m 133 #[.val (.int p0), .val (.int p1), .val (.int p2), .val (.int p3), .val (.int p4), .val (.int v85), .val (.ref b87), .val (.ref b214), .unset, .unset] [(.int (0 : Int32)), (.ref b214), (.ref b87)])) _
            refine XS.iconst X221.here hx rfl (hb hby at_133) ?_
            show Steps p.tables e below (T221.setTop (mkF m 134 #[.val (.int p0), .val (.int p1), .val (.int p2), .val (.int p3), .val (.int p4), .val (.int v85), .val (.ref b87), .val (.ref b214), .unset, .unset] [(.int (3 : Int32)), (.int (0 : Int32)), (.ref b214), (.ref b87)])) _
            refine st224 _ ?_
            show Steps p.tables e below (T224.setTop (mkF m 137 #[.val (.int p0), .val (.int p1), .val (.int p2), .val (.int p3), .val (.int p4), .val (.int v85), .val (.ref b87), .val (.ref b214), .unset, .unset] [(.int (if 3 < n then (if ((fa212 0 = fa212 3) ↔ (g214 0 = g214 3)) then (1 : Int32) else (0 : Int32)) else (1 : Int32)))])) _
            refine XS.ifNo X224.here hx rfl (hb hby at_137) rfl ((if0 _ _).trans (feq hc137_226).1) ?_
            show Steps p.tables e below (T224.setTop (mkF m 140 #[.val (.int p0), .val (.int p1), .val (.int p2), .val (.int p3), .val (.int p4), .val (.int v85), .val (.ref b87), .val (.ref b214), .unset, .unset] [])) _
            refine XS.aload X224.here hx rfl (hb hby at_140) rfl rfl ?_
            show Steps p.tables e below (T224.setTop (mkF m 142 #[.val (.int p0), .val (.int p1), .val (.int p2), .val (.int p3), .val (.int p4), .val (.int v85), .val (.ref b87), .val (.ref b214), .unset, .unset] [(.ref b87)])) _
            refine XS.aload X224.here hx rfl (hb hby at_142) rfl rfl ?_
            show Steps p.tables e below (T224.setTop (mkF m 144 #[.val (.int p0), .val (.int p1), .val (.int p2), .val (.int p3), .val (.int p4), .val (.int v85), .val (.ref b87), .val (.ref b214), .unset, .unset] [(.ref b214), (.ref b87)])) _
            refine XS.iconst X224.here hx rfl (hb hby at_144) ?_
            show Steps p.tables e below (T224.setTop (mkF m 145 #[.val (.int p0), .val (.int p1), .val (.int p2), .val (.int p3), .val (.int p4), .val (.int v85), .val (.ref b87), .val (.ref b214), .unset, .unset] [(.int (1 : Int32)), (.ref b214), (.ref b87)])) _
            refine XS.iconst X224.here hx rfl (hb hby at_145) ?_
            show Steps p.tables e below (T224.setTop (mkF m 146 #[.val (.int p0), .val (.int p1), .val (.int p2), .val (.int p3), .val (.int p4), .val (.int v85), .val (.ref b87), .val (.ref b214), .unset, .unset] [(.int (2 : Int32)), (.int (1 : Int32)), (.ref b214), (.ref b87)])) _
            refine st227 _ ?_
            show Steps p.tables e below (T227.setTop (mkF m 149 #[.val (.int p0), .val (.int p1), .val (.int p2), .val (.int p3), .val (.int p4), .val (.int v85), .val (.ref b87), .val (.ref b214), .unset, .unset] [(.int (if 2 < n then (if ((fa212 1 = fa212 2) ↔ (g214 1 = g214 2)) then (1 : Int32) else (0 : Int32)) else (1 : Int32)))])) _
            refine XS.ifNo X227.here hx rfl (hb hby at_149) rfl ((if0 _ _).trans (feq hc149_229).1) ?_
            show Steps p.tables e below (T227.setTop (mkF m 152 #[.val (.int p0), .val (.int p1), .val (.int p2), .val (.int p3), .val (.int p4), .val (.int v85), .val (.ref b87), .val (.ref b214), .unset, .unset] [])) _
            refine XS.aload X227.here hx rfl (hb hby at_152) rfl rfl ?_
            show Steps p.tables e below (T227.setTop (mkF m 154 #[.val (.int p0), .val (.int p1), .val (.int p2), .val (.int p3), .val (.int p4), .val (.int v85), .val (.ref b87), .val (.ref b214), .unset, .unset] [(.ref b87)])) _
            refine XS.aload X227.here hx rfl (hb hby at_154) rfl rfl ?_
            show Steps p.tables e below (T227.setTop (mkF m 156 #[.val (.int p0), .val (.int p1), .val (.int p2), .val (.int p3), .val (.int p4), .val (.int v85), .val (.ref b87), .val (.ref b214), .unset, .unset] [(.ref b214), (.ref b87)])) _
            refine XS.iconst X227.here hx rfl (hb hby at_156) ?_
            show Steps p.tables e below (T227.setTop (mkF m 157 #[.val (.int p0), .val (.int p1), .val (.int p2), .val (.int p3), .val (.int p4), .val (.int v85), .val (.ref b87), .val (.ref b214), .unset, .unset] [(.int (1 : Int32)), (.ref b214), (.ref b87)])) _
            refine XS.iconst X227.here hx rfl (hb hby at_157) ?_
            show Steps p.tables e below (T227.setTop (mkF m 158 #[.val (.int p0), .val (.int p1), .val (.int p2), .val (.int p3), .val (.int p4), .val (.int v85), .val (.ref b87), .val (.ref b214), .unset, .unset] [(.int (3 : Int32)), (.int (1 : Int32)), (.ref b214), (.ref b87)])) _
            refine st230 _ ?_
            show Steps p.tables e below (T230.setTop (mkF m 161 #[.val (.int p0), .val (.int p1), .val (.int p2), .val (.int p3), .val (.int p4), .val (.int v85), .val (.ref b87), .val (.ref b214), .unset, .unset] [(.int (if 3 < n then (if ((fa212 1 = fa212 3) ↔ (g214 1 = g214 3)) then (1 : Int32) else (0 : Int32)) else (1 : Int32)))])) _
            refine XS.ifNo X230.here hx rfl (hb hby at_161) rfl ((if0 _ _).trans (feq hc161_232).1) ?_
            show Steps p.tables e below (T230.setTop (mkF m 164 #[.val (.int p0), .val (.int p1), .val (.int p2), .val (.int p3), .val (.int p4), .val (.int v85), .val (.ref b87), .val (.ref b214), .unset, .unset] [])) _
            refine XS.aload X230.here hx rfl (hb hby at_164) rfl rfl ?_
            show Steps p.tables e below (T230.setTop (mkF m 166 #[.val (.int p0), .val (.int p1), .val (.int p2), .val (.int p3), .val (.int p4), .val (.int v85), .val (.ref b87), .val (.ref b214), .unset, .unset] [(.ref b87)])) _
            refine XS.aload X230.here hx rfl (hb hby at_166) rfl rfl ?_
            show Steps p.tables e below (T230.setTop (mkF m 168 #[.val (.int p0), .val (.int p1), .val (.int p2), .val (.int p3), .val (.int p4), .val (.int v85), .val (.ref b87), .val (.ref b214), .unset, .unset] [(.ref b214), (.ref b87)])) _
            refine XS.iconst X230.here hx rfl (hb hby at_168) ?_
            show Steps p.tables e below (T230.setTop (mkF m 169 #[.val (.int p0), .val (.int p1), .val (.int p2), .val (.int p3), .val (.int p4), .val (.int v85), .val (.ref b87), .val (.ref b214), .unset, .unset] [(.int (2 : Int32)), (.ref b214), (.ref b87)])) _
            refine XS.iconst X230.here hx rfl (hb hby at_169) ?_
            show Steps p.tables e below (T230.setTop (mkF m 170 #[.val (.int p0), .val (.int p1), .val (.int p2), .val (.int p3), .val (.int p4), .val (.int v85), .val (.ref b87), .val (.ref b214), .unset, .unset] [(.int (3 : Int32)), (.int (2 : Int32)), (.ref b214), (.ref b87)])) _
            refine st233 _ ?_
            show Steps p.tables e below (T233.setTop (mkF m 173 #[.val (.int p0), .val (.int p1), .val (.int p2), .val (.int p3), .val (.int p4), .val (.int v85), .val (.ref b87), .val (.ref b214), .unset, .unset] [(.int (if 3 < n then (if ((fa212 2 = fa212 3) ↔ (g214 2 = g214 3)) then (1 : Int32) else (0 : Int32)) else (1 : Int32)))])) _
            refine XS.ifYes X233.here hx rfl (pc0 := 173) (pc' := 178) rfl (hb hby at_173) rfl ((if0 _ _).trans (feq hc173_235).2) (by decide) (by decide) ?_
            show Steps p.tables e below (T233.setTop (mkF m 178 #[.val (.int p0), .val (.int p1), .val (.int p2), .val (.int p3), .val (.int p4), .val (.int v85), .val (.ref b87), .val (.ref b214), .unset, .unset] [])) _
            refine XS.iload X233.here hx rfl (hb hby at_178) rfl ?_
            show Steps p.tables e below (T233.setTop (mkF m 180 #[.val (.int p0), .val (.int p1), .val (.int p2), .val (.int p3), .val (.int p4), .val (.int v85), .val (.ref b87), .val (.ref b214), .unset, .unset] [(.int v85)])) _
            refine XS.ifNo X233.here hx rfl (hb hby at_180) rfl ((if0 _ _).trans (tlt hc16_89).2.2.2) ?_
            show Steps p.tables e below (T233.setTop (mkF m 183 #[.val (.int p0), .val (.int p1), .val (.int p2), .val (.int p3), .val (.int p4), .val (.int v85), .val (.ref b87), .val (.ref b214), .unset, .unset] [])) _
            refine XS.aload X233.here hx rfl (hb hby at_183) rfl rfl ?_
            show Steps p.tables e below (T233.setTop (mkF m 185 #[.val (.int p0), .val (.int p1), .val (.int p2), .val (.int p3), .val (.int p4), .val (.int v85), .val (.ref b87), .val (.ref b214), .unset, .unset] [(.ref b214)])) _
            refine XS.iconst X233.here hx rfl (hb hby at_185) ?_
            show Steps p.tables e below (T233.setTop (mkF m 186 #[.val (.int p0), .val (.int p1), .val (.int p2), .val (.int p3), .val (.int p4), .val (.int v85), .val (.ref b87), .val (.ref b214), .unset, .unset] [(.int (0 : Int32)), (.ref b214)])) _
            refine own_ldI X233 hx hZ eq233 Vr214 (i := 0) (by decide : (0 : Int32).toInt = ((0 : Nat) : Int)) (by omega) rfl (g := (mkF m 186 #[.val (.int p0), .val (.int p1), .val (.int p2), .val (.int p3), .val (.int p4), .val (.int v85), .val (.ref b87), .val (.ref b214), .unset, .unset] [(.int (0 : Int32)), (.ref b214)])) rfl rfl (hb hby at_186) _ ?_
            show Steps p.tables e below (T233.setTop (mkF m 187 #[.val (.int p0), .val (.int p1), .val (.int p2), .val (.int p3), .val (.int p4), .val (.int v85), .val (.ref b87), .val (.ref b214), .unset, .unset] [(.int (g214 0))])) _
            refine XS.ifYes X233.here hx rfl (pc0 := 187) (pc' := 192) rfl (hb hby at_187) rfl ((if0 _ _).trans (teq hc187_238).1) (by decide) (by decide) ?_
            show Steps p.tables e below (T233.setTop (mkF m 192 #[.val (.int p0), .val (.int p1), .val (.int p2), .val (.int p3), .val (.int p4), .val (.int v85), .val (.ref b87), .val (.ref b214), .unset, .unset] [])) _
            refine XS.iload X233.here hx rfl (hb hby at_192) rfl ?_
            show Steps p.tables e below (T233.setTop (mkF m 194 #[.val (.int p0), .val (.int p1), .val (.int p2), .val (.int p3), .val (.int p4), .val (.int v85), .val (.ref b87), .val (.ref b214), .unset, .unset] [(.int v85)])) _
            refine XS.iconst X233.here hx rfl (hb hby at_194) ?_
            show Steps p.tables e below (T233.setTop (mkF m 195 #[.val (.int p0), .val (.int p1), .val (.int p2), .val (.int p3), .val (.int p4), .val (.int v85), .val (.ref b87), .val (.ref b214), .unset, .unset] [(.int (1 : Int32)), (.int v85)])) _
            refine XS.icmpNo X233.here hx rfl (hb hby at_195) rfl (tlt hc33_96).2.2.2 ?_
            show Steps p.tables e below (T233.setTop (mkF m 198 #[.val (.int p0), .val (.int p1), .val (.int p2), .val (.int p3), .val (.int p4), .val (.int v85), .val (.ref b87), .val (.ref b214), .unset, .unset] [])) _
            refine XS.aload X233.here hx rfl (hb hby at_198) rfl rfl ?_
            show Steps p.tables e below (T233.setTop (mkF m 200 #[.val (.int p0), .val (.int p1), .val (.int p2), .val (.int p3), .val (.int p4), .val (.int v85), .val (.ref b87), .val (.ref b214), .unset, .unset] [(.ref b214)])) _
            refine XS.iconst X233.here hx rfl (hb hby at_200) ?_
            show Steps p.tables e below (T233.setTop (mkF m 201 #[.val (.int p0), .val (.int p1), .val (.int p2), .val (.int p3), .val (.int p4), .val (.int v85), .val (.ref b87), .val (.ref b214), .unset, .unset] [(.int (1 : Int32)), (.ref b214)])) _
            refine own_ldI X233 hx hZ eq233 Vr214 (i := 1) (by decide : (1 : Int32).toInt = ((1 : Nat) : Int)) (by omega) rfl (g := (mkF m 201 #[.val (.int p0), .val (.int p1), .val (.int p2), .val (.int p3), .val (.int p4), .val (.int v85), .val (.ref b87), .val (.ref b214), .unset, .unset] [(.int (1 : Int32)), (.ref b214)])) rfl rfl (hb hby at_201) _ ?_
            show Steps p.tables e below (T233.setTop (mkF m 202 #[.val (.int p0), .val (.int p1), .val (.int p2), .val (.int p3), .val (.int p4), .val (.int v85), .val (.ref b87), .val (.ref b214), .unset, .unset] [(.int (g214 1))])) _
            refine XS.ifNo X233.here hx rfl (hb hby at_202) rfl ((if0 _ _).trans (flt hc202_241).1) ?_
            show Steps p.tables e below (T233.setTop (mkF m 205 #[.val (.int p0), .val (.int p1), .val (.int p2), .val (.int p3), .val (.int p4), .val (.int v85), .val (.ref b87), .val (.ref b214), .unset, .unset] [])) _
            refine XS.aload X233.here hx rfl (hb hby at_205) rfl rfl ?_
            show Steps p.tables e below (T233.setTop (mkF m 207 #[.val (.int p0), .val (.int p1), .val (.int p2), .val (.int p3), .val (.int p4), .val (.int v85), .val (.ref b87), .val (.ref b214), .unset, .unset] [(.ref b214)])) _
            refine XS.iconst X233.here hx rfl (hb hby at_207) ?_
            show Steps p.tables e below (T233.setTop (mkF m 208 #[.val (.int p0), .val (.int p1), .val (.int p2), .val (.int p3), .val (.int p4), .val (.int v85), .val (.ref b87), .val (.ref b214), .unset, .unset] [(.int (1 : Int32)), (.ref b214)])) _
            refine own_ldI X233 hx hZ eq233 Vr214 (i := 1) (by decide : (1 : Int32).toInt = ((1 : Nat) : Int)) (by omega) rfl (g := (mkF m 208 #[.val (.int p0), .val (.int p1), .val (.int p2), .val (.int p3), .val (.int p4), .val (.int v85), .val (.ref b87), .val (.ref b214), .unset, .unset] [(.int (1 : Int32)), (.ref b214)])) rfl rfl (hb hby at_208) _ ?_
            show Steps p.tables e below (T233.setTop (mkF m 209 #[.val (.int p0), .val (.int p1), .val (.int p2), .val (.int p3), .val (.int p4), .val (.int v85), .val (.ref b87), .val (.ref b214), .unset, .unset] [(.int (g214 1))])) _
            refine XS.aload X233.here hx rfl (hb hby at_209) rfl rfl ?_
            show Steps p.tables e below (T233.setTop (mkF m 211 #[.val (.int p0), .val (.int p1), .val (.int p2), .val (.int p3), .val (.int p4), .val (.int v85), .val (.ref b87), .val (.ref b214), .unset, .unset] [(.ref b214), (.int (g214 1))])) _
            refine XS.iconst X233.here hx rfl (hb hby at_211) ?_
            show Steps p.tables e below (T233.setTop (mkF m 212 #[.val (.int p0), .val (.int p1), .val (.int p2), .val (.int p3), .val (.int p4), .val (.int v85), .val (.ref b87), .val (.ref b214), .unset, .unset] [(.int (0 : Int32)), (.ref b214), (.int (g214 1))])) _
            refine own_ldI X233 hx hZ eq233 Vr214 (i := 0) (by decide : (0 : Int32).toInt = ((0 : Nat) : Int)) (by omega) rfl (g := (mkF m 212 #[.val (.int p0), .val (.int p1), .val (.int p2), .val (.int p3), .val (.int p4), .val (.int v85), .val (.ref b87), .val (.ref b214), .unset, .unset] [(.int (0 : Int32)), (.ref b214), (.int (g214 1))])) rfl rfl (hb hby at_212) _ ?_
            show Steps p.tables e below (T233.setTop (mkF m 213 #[.val (.int p0), .val (.int p1), .val (.int p2), .val (.int p3), .val (.int p4), .val (.int v85), .val (.ref b87), .val (.ref b214), .unset, .unset] [(.int (g214 0)), (.int (g214 1))])) _
            refine XS.iconst X233.here hx rfl (hb hby at_213) ?_
            show Steps p.tables e below (T233.setTop (mkF m 214 #[.val (.int p0), .val (.int p1), .val (.int p2), .val (.int p3), .val (.int p4), .val (.int v85), .val (.ref b87), .val (.ref b214), .unset, .unset] [(.int (1 : Int32)), (.int (g214 0)), (.int (g214 1))])) _
            refine XS.iadd X233.here hx rfl (hb hby at_214) rfl ?_
            show Steps p.tables e below (T233.setTop (mkF m 215 #[.val (.int p0), .val (.int p1), .val (.int p2), .val (.int p3), .val (.int p4), .val (.int v85), .val (.ref b87), .val (.ref b214), .unset, .unset] [(.int ((g214 0) + (1 : Int32))), (.int (g214 1))])) _
            refine XS.icmpYes X233.here hx rfl (pc0 := 215) (pc' := 220) rfl (hb hby at_215) rfl (flt hc215_247).2.2.2 (by decide) (by decide) ?_
            show Steps p.tables e below (T233.setTop (mkF m 220 #[.val (.int p0), .val (.int p1), .val (.int p2), .val (.int p3), .val (.int p4), .val (.int v85), .val (.ref b87), .val (.ref b214), .unset, .unset] [])) _
            refine XS.iload X233.here hx rfl (hb hby at_220) rfl ?_
            show Steps p.tables e below (T233.setTop (mkF m 222 #[.val (.int p0), .val (.int p1), .val (.int p2), .val (.int p3), .val (.int p4), .val (.int v85), .val (.ref b87), .val (.ref b214), .unset, .unset] [(.int v85)])) _
            refine XS.iconst X233.here hx rfl (hb hby at_222) ?_
            show Steps p.tables e below (T233.setTop (mkF m 223 #[.val (.int p0), .val (.int p1), .val (.int p2), .val (.int p3), .val (.int p4), .val (.int v85), .val (.ref b87), .val (.ref b214), .unset, .unset] [(.int (2 : Int32)), (.int v85)])) _
            refine XS.icmpNo X233.here hx rfl (hb hby at_223) rfl (tlt hc50_103).2.2.2 ?_
            show Steps p.tables e below (T233.setTop (mkF m 226 #[.val (.int p0), .val (.int p1), .val (.int p2), .val (.int p3), .val (.int p4), .val (.int v85), .val (.ref b87), .val (.ref b214), .unset, .unset] [])) _
            refine XS.aload X233.here hx rfl (hb hby at_226) rfl rfl ?_
            show Steps p.tables e below (T233.setTop (mkF m 228 #[.val (.int p0), .val (.int p1), .val (.int p2), .val (.int p3), .val (.int p4), .val (.int v85), .val (.ref b87), .val (.ref b214), .unset, .unset] [(.ref b214)])) _
            refine XS.iconst X233.here hx rfl (hb hby at_228) ?_
            show Steps p.tables e below (T233.setTop (mkF m 229 #[.val (.int p0), .val (.int p1), .val (.int p2), .val (.int p3), .val (.int p4), .val (.int v85), .val (.ref b87), .val (.ref b214), .unset, .unset] [(.int (0 : Int32)), (.ref b214)])) _
            refine own_ldI X233 hx hZ eq233 Vr214 (i := 0) (by decide : (0 : Int32).toInt = ((0 : Nat) : Int)) (by omega) rfl (g := (mkF m 229 #[.val (.int p0), .val (.int p1), .val (.int p2), .val (.int p3), .val (.int p4), .val (.int v85), .val (.ref b87), .val (.ref b214), .unset, .unset] [(.int (0 : Int32)), (.ref b214)])) rfl rfl (hb hby at_229) _ ?_
            show Steps p.tables e below (T233.setTop (mkF m 230 #[.val (.int p0), .val (.int p1), .val (.int p2), .val (.int p3), .val (.int p4), .val (.int v85), .val (.ref b87), .val (.ref b214), .unset, .unset] [(.int (g214 0))])) _
            refine XS.aload X233.here hx rfl (hb hby at_230) rfl rfl ?_
            show Steps p.tables e below (T233.setTop (mkF m 232 #[.val (.int p0), .val (.int p1), .val (.int p2), .val (.int p3), .val (.int p4), .val (.int v85), .val (.ref b87), .val (.ref b214), .unset, .unset] [(.ref b214), (.int (g214 0))])) _
            refine XS.iconst X233.here hx rfl (hb hby at_232) ?_
            show Steps p.tables e below (T233.setTop (mkF m 233 #[.val (.int p0), .val (.int p1), .val (.int p2), .val (.int p3), .val (.int p4), .val (.int v85), .val (.ref b87), .val (.ref b214), .unset, .unset] [(.int (1 : Int32)), (.ref b214), (.int (g214 0))])) _
            refine own_ldI X233 hx hZ eq233 Vr214 (i := 1) (by decide : (1 : Int32).toInt = ((1 : Nat) : Int)) (by omega) rfl (g := (mkF m 233 #[.val (.int p0), .val (.int p1), .val (.int p2), .val (.int p3), .val (.int p4), .val (.int v85), .val (.ref b87), .val (.ref b214), .unset, .unset] [(.int (1 : Int32)), (.ref b214), (.int (g214 0))])) rfl rfl (hb hby at_233) _ ?_
            show Steps p.tables e below (T233.setTop (mkF m 234 #[.val (.int p0), .val (.int p1), .val (.int p2), .val (.int p3), .val (.int p4), .val (.int v85), .val (.ref b87), .val (.ref b214), .unset, .unset] [(.int (g214 1)), (.int (g214 0))])) _
            refine st248 _ ?_
            show Steps p.tables e below (T248.setTop (mkF m 237 #[.val (.int p0), .val (.int p1), .val (.int p2), .val (.int p3), .val (.int p4), .val (.int v85), .val (.ref b87), .val (.ref b214), .unset, .unset] [(.int (own_max (g214 0) (g214 1)))])) _
            exact kt
          obtain ⟨r250, hr250⟩ : ∃ z : Int32, z = (own_max (g214 0) (g214 1)) := ⟨_, rfl⟩
          rw [← hr250] at k249
          have hc243_253 : ¬ ((g214 2) < (0 : Int32)) := (by
              have ar251 := rng32 (g214 2)
              have ar252 : (0 : Int32).toInt = 0 := by decide
              exact fun qq_ => absurd (Int32.lt_iff_toInt_lt.mp qq_) (by omega))
          have hc254_264 : ¬ ((r250 + (1 : Int32)) < (g214 2)) := (by
              have ar254 := rng32 r250
              have ar255 := rng32 (g214 0)
              have ar256 := rng32 (g214 1)
              have ar257 : ((g214 0).toInt < (g214 1).toInt ∧ (if (g214 0) < (g214 1) then (g214 1) else (g214 0)).toInt = (g214 1).toInt) ∨ (¬ ((g214 0).toInt < (g214 1).toInt) ∧ (if (g214 0) < (g214 1) then (g214 1) else (g214 0)).toInt = (g214 0).toInt) := by
                    by_cases q : (g214 0) < (g214 1)
                    · exact Or.inl ⟨Int32.lt_iff_toInt_lt.mp q, by rw [if_pos q]⟩
                    · exact Or.inr ⟨fun q' => q (Int32.lt_iff_toInt_lt.mpr q'), by rw [if_neg q]⟩
              have ar258 : (own_max (g214 0) (g214 1)).toInt = (if (g214 0) < (g214 1) then (g214 1) else (g214 0)).toInt := congrArg _ (own_eq_own_max (g214 0) (g214 1))
              have ar259 := congrArg Int32.toInt hr250
              have ar260 : (1 : Int32).toInt = 1 := by decide
              have ar261 := rng32 (r250 + (1 : Int32))
              first | have ar262 : (r250 + (1 : Int32)).toInt = r250.toInt + 1 := (by have qw := c_iadd r250 (1 : Int32); omega) | (have ar262 := c_iadd r250 (1 : Int32); skip)
              have ar263 := rng32 (g214 2)
              exact fun qq_ => absurd (Int32.lt_iff_toInt_lt.mp qq_) (by omega))
          have k265 : ∀ tg_, Steps p.tables e below (T248.setTop (mkF m 297 #[.val (.int p0), .val (.int p1), .val (.int p2), .val (.int p3), .val (.int p4), .val (.int v85), .val (.ref b87), .val (.ref b214), .val (.int r250), .unset] [(.int (1 : Int32))])) tg_ → Steps p.tables e below (s₁.setTop (entryFrame m #[(.int p0), (.int p1), (.int p2), (.int p3), (.int p4)] maxLocals)) tg_ := by
            intro tg_ kt
            refine k249 tg_ ?_
            show Steps p.tables e below (T248.setTop (mkF m 237 #[.val (.int p0), .val (.int p1), .val (.int p2), .val (.int p3), .val (.int p4), .val (.int v85), .val (.ref b87), .val (.ref b214), .unset, .unset] [(.int r250)])) _
            refine XS.istore X248.here hx rfl (hb hby at_237) rfl (l' := #[.val (.int p0), .val (.int p1), .val (.int p2), .val (.int p3), .val (.int p4), .val (.int v85), .val (.ref b87), .val (.ref b214), .val (.int r250), .unset]) rfl ?_
            show Steps p.tables e below (T248.setTop (mkF m 239 #[.val (.int p0), .val (.int p1), .val (.int p2), .val (.int p3), .val (.int p4), .val (.int v85), .val (.ref b87), .val (.ref b214), .val (.int r250), .unset] [])) _
            refine XS.aload X248.here hx rfl (hb hby at_239) rfl rfl ?_
            show Steps p.tables e below (T248.setTop (mkF m 241 #[.val (.int p0), .val (.int p1), .val (.int p2), .val (.int p3), .val (.int p4), .val (.int v85), .val (.ref b87), .val (.ref b214), .val (.int r250), .unset] [(.ref b214)])) _
            refine XS.iconst X248.here hx rfl (hb hby at_241) ?_
            show Steps p.tables e below (T248.setTop (mkF m 242 #[.val (.int p0), .val (.int p1), .val (.int p2), .val (.int p3), .val (.int p4), .val (.int v85), .val (.ref b87), .val (.ref b214), .val (.int r250), .unset] [(.int (2 : Int32)), (.ref b214)])) _
            refine own_ldI X248 hx hZ eq248 Vr214 (i := 2) (by decide : (2 : Int32).toInt = ((2 : Nat) : Int)) (by omega) rfl (g := (mkF m 242 #[.val (.int p0), .val (.int p1), .val (.int p2), .val (.int p3), .val (.int p4), .val (.int v85), .val (.ref b87), .val (.ref b214), .val (.int r250), .unset] [(.int (2 : Int32)), (.ref b214)])) rfl rfl (hb hby at_242) _ ?_
            show Steps p.tables e below (T248.setTop (mkF m 243 #[.val (.int p0), .val (.int p1), .val (.int p2), .val (.int p3), .val (.int p4), .val (.int v85), .val (.ref b87), .val (.ref b214), .val (.int r250), .unset] [(.int (g214 2))])) _
            refine XS.ifNo X248.here hx rfl (hb hby at_243) rfl ((if0 _ _).trans (flt hc243_253).1) ?_
            show Steps p.tables e below (T248.setTop (mkF m 246 #[.val (.int p0), .val (.int p1), .val (.int p2), .val (.int p3), .val (.int p4), .val (.int v85), .val (.ref b87), .val (.ref b214), .val (.int r250), .unset] [])) _
            refine XS.aload X248.here hx rfl (hb hby at_246) rfl rfl ?_
            show Steps p.tables e below (T248.setTop (mkF m 248 #[.val (.int p0), .val (.int p1), .val (.int p2), .val (.int p3), .val (.int p4), .val (.int v85), .val (.ref b87), .val (.ref b214), .val (.int r250), .unset] [(.ref b214)])) _
            refine XS.iconst X248.here hx rfl (hb hby at_248) ?_
            show Steps p.tables e below (T248.setTop (mkF m 249 #[.val (.int p0), .val (.int p1), .val (.int p2), .val (.int p3), .val (.int p4), .val (.int v85), .val (.ref b87), .val (.ref b214), .val (.int r250), .unset] [(.int (2 : Int32)), (.ref b214)])) _
            refine own_ldI X248 hx hZ eq248 Vr214 (i := 2) (by decide : (2 : Int32).toInt = ((2 : Nat) : Int)) (by omega) rfl (g := (mkF m 249 #[.val (.int p0), .val (.int p1), .val (.int p2), .val (.int p3), .val (.int p4), .val (.int v85), .val (.ref b87), .val (.ref b214), .val (.int r250), .unset] [(.int (2 : Int32)), (.ref b214)])) rfl rfl (hb hby at_249) _ ?_
            show Steps p.tables e below (T248.setTop (mkF m 250 #[.val (.int p0), .val (.int p1), .val (.int p2), .val (.int p3), .val (.int p4), .val (.int v85), .val (.ref b87), .val (.ref b214), .val (.int r250), .unset] [(.int (g214 2))])) _
            refine XS.iload X248.here hx rfl (hb hby at_250) rfl ?_
            show Steps p.tables e below (T248.setTop (mkF m 252 #[.val (.int p0), .val (.int p1), .val (.int p2), .val (.int p3), .val (.int p4), .val (.int v85), .val (.ref b87), .val (.ref b214), .val (.int r250), .unset] [(.int r250), (.int (g214 2))])) _
            refine XS.iconst X248.here hx rfl (hb hby at_252) ?_
            show Steps p.tables e below (T248.setTop (mkF m 253 #[.val (.int p0), .val (.int p1), .val (.int p2), .val (.int p3), .val (.int p4), .val (.int v85), .val (.ref b87), .val (.ref b214), .val (.int r250), .unset] [(.int (1 : Int32)), (.int r250), (.int (g214 2))])) _
            refine XS.iadd X248.here hx rfl (hb hby at_253) rfl ?_
            show Steps p.tables e below (T248.setTop (mkF m 254 #[.val (.int p0), .val (.int p1), .val (.int p2), .val (.int p3), .val (.int p4), .val (.int v85), .val (.ref b87), .val (.ref b214), .val (.int r250), .unset] [(.int (r250 + (1 : Int32))), (.int (g214 2))])) _
            refine XS.icmpYes X248.here hx rfl (pc0 := 254) (pc' := 259) rfl (hb hby at_254) rfl (flt hc254_264).2.2.2 (by decide) (by decide) ?_
            show Steps p.tables e below (T248.setTop (mkF m 259 #[.val (.int p0), .val (.int p1), .val (.int p2), .val (.int p3), .val (.int p4), .val (.int v85), .val (.ref b87), .val (.ref b214), .val (.int r250), .unset] [])) _
            refine XS.iload X248.here hx rfl (hb hby at_259) rfl ?_
            show Steps p.tables e below (T248.setTop (mkF m 261 #[.val (.int p0), .val (.int p1), .val (.int p2), .val (.int p3), .val (.int p4), .val (.int v85), .val (.ref b87), .val (.ref b214), .val (.int r250), .unset] [(.int v85)])) _
            refine XS.iconst X248.here hx rfl (hb hby at_261) ?_
            show Steps p.tables e below (T248.setTop (mkF m 262 #[.val (.int p0), .val (.int p1), .val (.int p2), .val (.int p3), .val (.int p4), .val (.int v85), .val (.ref b87), .val (.ref b214), .val (.int r250), .unset] [(.int (3 : Int32)), (.int v85)])) _
            refine XS.icmpYes X248.here hx rfl (pc0 := 262) (pc' := 296) rfl (hb hby at_262) rfl (flt hc67_110).2.2.2 (by decide) (by decide) ?_
            show Steps p.tables e below (T248.setTop (mkF m 296 #[.val (.int p0), .val (.int p1), .val (.int p2), .val (.int p3), .val (.int p4), .val (.int v85), .val (.ref b87), .val (.ref b214), .val (.int r250), .unset] [])) _
            refine XS.iconst X248.here hx rfl (hb hby at_296) ?_
            show Steps p.tables e below (T248.setTop (mkF m 297 #[.val (.int p0), .val (.int p1), .val (.int p2), .val (.int p3), .val (.int p4), .val (.int v85), .val (.ref b87), .val (.ref b214), .val (.int r250), .unset] [(.int (1 : Int32))])) _
            exact kt
          obtain ⟨fs, hr, hrun, hended, hW, hsame⟩ := X248.leave (v := some (.int (1 : Int32))) (fun h => by rw [Bd.returns] at h; cases h)
          refine ⟨_, _, k265 _ (retN X248 hx (t := .boolean) Bd.returns (by simp) (hb hby at_297) hr), hrun, hended, _, _, rfl, ?_, ⟨_, rfl⟩, hW, hsame.mono (by decide) (by decide)⟩
          show Q0 Z p0 p1 p2 p3 p4 h0 n0 _ T248.heap _
          rw [eq248]
          exact ⟨rfl, N248⟩
      · have hc67_270 : ¬ ((3 : Int32) < v85) := (by
            have ar266 : (2 : Int32).toInt = 2 := by decide
            have ar267 := rng32 v85
            have ar268 : ¬ ((2 : Int32).toInt < v85.toInt) := fun qq_ => hc50_103 (Int32.lt_iff_toInt_lt.mpr qq_)
            have ar269 : (3 : Int32).toInt = 3 := by decide
            exact fun qq_ => absurd (Int32.lt_iff_toInt_lt.mp qq_) (by omega))
        have k271 : ∀ tg_, Steps p.tables e below (T101.setTop (mkF m 82 #[.val (.int p0), .val (.int p1), .val (.int p2), .val (.int p3), .val (.int p4), .val (.int v85), .val (.ref b87), .unset, .unset, .unset] [])) tg_ → Steps p.tables e below (s₁.setTop (entryFrame m #[(.int p0), (.int p1), (.int p2), (.int p3), (.int p4)] maxLocals)) tg_ := by
          intro tg_ kt
          refine k102 tg_ ?_
          refine XS.icmpYes X101.here hx rfl (pc0 := 50) (pc' := 64) rfl (hb hby at_50) rfl (flt hc50_103).2.2.2 (by decide) (by decide) ?_
          show Steps p.tables e below (T101.setTop (mkF m 64 #[.val (.int p0), .val (.int p1), .val (.int p2), .val (.int p3), .val (.int p4), .val (.int v85), .val (.ref b87), .unset, .unset, .unset] [])) _
          refine XS.iload X101.here hx rfl (hb hby at_64) rfl ?_
          show Steps p.tables e below (T101.setTop (mkF m 66 #[.val (.int p0), .val (.int p1), .val (.int p2), .val (.int p3), .val (.int p4), .val (.int v85), .val (.ref b87), .unset, .unset, .unset] [(.int v85)])) _
          refine XS.iconst X101.here hx rfl (hb hby at_66) ?_
          show Steps p.tables e below (T101.setTop (mkF m 67 #[.val (.int p0), .val (.int p1), .val (.int p2), .val (.int p3), .val (.int p4), .val (.int v85), .val (.ref b87), .unset, .unset, .unset] [(.int (3 : Int32)), (.int v85)])) _
          refine XS.icmpYes X101.here hx rfl (pc0 := 67) (pc' := 82) rfl (hb hby at_67) rfl (flt hc67_270).2.2.2 (by decide) (by decide) ?_
          show Steps p.tables e below (T101.setTop (mkF m 82 #[.val (.int p0), .val (.int p1), .val (.int p2), .val (.int p3), .val (.int p4), .val (.int v85), .val (.ref b87), .unset, .unset, .unset] [])) _
          exact kt
        have hnc : n = 2 := by
          have ar272 : (0 : Int32).toInt = 0 := by decide
          have ar273 := rng32 v85
          have ar274 : (0 : Int32).toInt < v85.toInt := Int32.lt_iff_toInt_lt.mp hc16_89
          have ar275 : (1 : Int32).toInt = 1 := by decide
          have ar276 : (1 : Int32).toInt < v85.toInt := Int32.lt_iff_toInt_lt.mp hc33_96
          have ar277 : (2 : Int32).toInt = 2 := by decide
          have ar278 : ¬ ((2 : Int32).toInt < v85.toInt) := fun qq_ => hc50_103 (Int32.lt_iff_toInt_lt.mpr qq_)
          have ar279 : (3 : Int32).toInt = 3 := by decide
          have ar280 : ¬ ((3 : Int32).toInt < v85.toInt) := fun qq_ => hc67_270 (Int32.lt_iff_toInt_lt.mpr qq_)
          have hv := hnn
          omega
        obtain ⟨fa281, hfa281⟩ : ∃ z : Nat → Int32, z = (own_upd (own_upd (fun _ => 0) 0 ((p1 &&& (2147483647 : Int32)) % v85)) 1 ((p2 &&& (2147483647 : Int32)) % v85)) := ⟨_, rfl⟩
        rw [← hfa281] at V101
        obtain ⟨A, hAd⟩ : ∃ A : Nat → Nat, A = fun i => (fa281 i).toInt.toNat := ⟨_, rfl⟩
        have hA : ∀ i, i < n → (fa281 i).toInt = ((A i : Nat) : Int) ∧ A i < n := by
          intro i hi
          have hi4 : i = 0 ∨ i = 1 := by omega
          rcases hi4 with rfl | rfl
          · obtain ⟨k, hk, hkn⟩ := own_el (x := p1) hnn hlt0
            have e : fa281 0 = ((p1 &&& (2147483647 : Int32)) % v85) := by rw [hfa281]; rfl
            rw [hAd]; dsimp only; rw [e]; omega
          · obtain ⟨k, hk, hkn⟩ := own_el (x := p2) hnn hlt0
            have e : fa281 1 = ((p2 &&& (2147483647 : Int32)) % v85) := by rw [hfa281]; rfl
            rw [hAd]; dsimp only; rw [e]; omega
        have hfin := own_fin hn4 (fun i hi => (hA i hi).2)
        obtain ⟨hf1, hf2, hf3, hf4, hf5⟩ := hfin
        have f282 := (Nat.le_trans (Nat.le_trans (Nat.le_trans Z0 ((Keep.refl _ []).ext E87).1) (Keep.of_wr W94).1) (Keep.of_wr W101).1)
        obtain ⟨_, _, ⟨T283, L283, kc283, nc283⟩, -, X283, ⟨Lc283, hQ283, l283, y283, z283⟩, st283⟩ := Jvm.LawKit.callS X101 hx (y := (⟨"com/example/coterie/coterie/methods/Communities", "renumbered", "([I)[I"⟩ : MethodName)) hown (mvT hZ (hw _ (List.mem_of_getElem? (i := 1) rfl))) (mvT hZ (hw _ (List.mem_of_getElem? (i := 2) rfl))) (mvT hZ (hw _ (List.mem_of_getElem? (i := 3) rfl))) (mvT hZ (hw _ (List.mem_of_getElem? (i := 4) rfl))) (by decide) (backOf (W := 0) (rm1 l Z a0 hw [] b87 n v85 fa281 A h101 n0 f282 V101 hnn hn4 hA) hZ (hw _ (List.mem_of_getElem? (i := 4) rfl)) (hw _ (List.mem_of_getElem? (i := 3) rfl)) (by decide) (by decide)) (g := (mkF m 84 #[.val (.int p0), .val (.int p1), .val (.int p2), .val (.int p3), .val (.int p4), .val (.int v85), .val (.ref b87), .unset, .unset, .unset] [(.ref b87)])) rfl (by rw [hml]; rfl) (argsL := [(.ref b87)]) (rest := []) (lenOf pd_0 rfl) rfl (by show 2 * 0 + _ ≤ _; exact Nat.le_of_eq rfl) (hb hby at_84) (fun _ _ => ⟨rfl, e101, (by decide : 1 + 2 ≤ _), (by decide : 4 + 8 ≤ _)⟩)
        dsimp only [Pt.U, Pt.locs, Pt.cells, Pt.slots] at X283 l283 y283 z283 st283 hQ283
        subst l283 y283 z283
        obtain ⟨-, Nq283, oK283, m0_283⟩ := hQ283
        have N283 := Fr.app N101 Nq283
        obtain ⟨b283, g283, rfl, Vr283, hr283, gb283, sb283⟩ := m0_283
        have k284 : ∀ tg_, Steps p.tables e below (T283.setTop (mkF m 89 #[.val (.int p0), .val (.int p1), .val (.int p2), .val (.int p3), .val (.int p4), .val (.int v85), .val (.ref b87), .val (.ref b283), .unset, .unset] [])) tg_ → Steps p.tables e below (s₁.setTop (entryFrame m #[(.int p0), (.int p1), (.int p2), (.int p3), (.int p4)] maxLocals)) tg_ := by
          intro tg_ kt
          refine k271 tg_ ?_
          refine XS.aload X101.here hx rfl (hb hby at_82) rfl rfl ?_
          show Steps p.tables e below (T101.setTop (mkF m 84 #[.val (.int p0), .val (.int p1), .val (.int p2), .val (.int p3), .val (.int p4), .val (.int v85), .val (.ref b87), .unset, .unset, .unset] [(.ref b87)])) _
          refine st283 _ ?_
          show Steps p.tables e below (T283.setTop (mkF m 87 #[.val (.int p0), .val (.int p1), .val (.int p2), .val (.int p3), .val (.int p4), .val (.int v85), .val (.ref b87), .unset, .unset, .unset] [(.ref b283)])) _
          refine XS.astore X283.here hx rfl (hb hby at_87) rfl rfl (l' := #[.val (.int p0), .val (.int p1), .val (.int p2), .val (.int p3), .val (.int p4), .val (.int v85), .val (.ref b87), .val (.ref b283), .unset, .unset]) rfl ?_
          show Steps p.tables e below (T283.setTop (mkF m 89 #[.val (.int p0), .val (.int p1), .val (.int p2), .val (.int p3), .val (.int p4), .val (.int v85), .val (.ref b87), .val (.ref b283), .unset, .unset] [])) _
          exact kt
        have hg0 : (g283 0).toInt = ((own_out A 0 : Nat) : Int) := hr283 0 (by omega)
        have hg1 : (g283 1).toInt = ((own_out A 1 : Nat) : Int) := hr283 1 (by omega)
        have ho0 := hf2 (by omega)
        have ho1 := hf3 (by omega)
        have hc99_285 : v85 = v85 := rfl
        have f286 := (V101.keep oK283 nin0)
        obtain ⟨_, _, ⟨T287, L287, kc287, nc287⟩, -, X287, ⟨Lc287, hQ287, l287, y287, z287⟩, st287⟩ := Jvm.LawKit.callS X283 hx (y := (⟨"com/example/coterie/coterie/methods/CommunitiesRenumberedPinLaw", "pair", "([I[III)Z"⟩ : MethodName)) hown (mvT hZ (hw _ (List.mem_of_getElem? (i := 5) rfl))) (mvT hZ (hw _ (List.mem_of_getElem? (i := 6) rfl))) (mvT hZ (hw _ (List.mem_of_getElem? (i := 7) rfl))) (mvT hZ (hw _ (List.mem_of_getElem? (i := 8) rfl))) (by decide) (backOf (W := 0) (rm2 l Z a0 hw [] b87 b283 (0 : Int32) (1 : Int32) n v85 fa281 g283 0 1 T283.heap n0 f286 Vr283 hnn (by decide) (by decide) (by decide)) hZ (hw _ (List.mem_of_getElem? (i := 8) rfl)) (hw _ (List.mem_of_getElem? (i := 7) rfl)) (by decide) (by decide)) (g := (mkF m 110 #[.val (.int p0), .val (.int p1), .val (.int p2), .val (.int p3), .val (.int p4), .val (.int v85), .val (.ref b87), .val (.ref b283), .unset, .unset] [(.int (1 : Int32)), (.int (0 : Int32)), (.ref b283), (.ref b87)])) rfl (by rw [hml]; rfl) (argsL := [(.ref b87), (.ref b283), (.int (0 : Int32)), (.int (1 : Int32))]) (rest := []) (lenOf pd_1 rfl) rfl (by show 2 * 0 + _ ≤ _; exact Nat.le_of_eq rfl) (hb hby at_110) (fun _ _ => ⟨rfl, rfl, (by decide : 3 + 0 ≤ _), (by decide : 12 + 0 ≤ _)⟩)
        dsimp only [Pt.U, Pt.locs, Pt.cells, Pt.slots] at X287 l287 y287 z287 st287 hQ287
        subst l287 y287 z287
        obtain ⟨rfl, Nq287, eq287⟩ := hQ287
        have N287 := Fr.app N283 Nq287
        have hpi288 : ((fa281 0 = fa281 1) ↔ (g283 0 = g283 1)) := by
          have a := hf1 0 1 (by omega) (by omega)
          have b := hA 0 (by omega)
          have d := hA 1 (by omega)
          constructor
          · intro q; apply Int32.toInt_inj.mp; have q' := congrArg Int32.toInt q; rw [hg0, hg1, a.mp (by omega)]
          · intro q; apply Int32.toInt_inj.mp; have q' := congrArg Int32.toInt q; rw [hg0, hg1] at q'; rw [b.1, d.1, a.mpr (by omega)]
        have hc113_289 : ¬ ((if 1 < n then (if ((fa281 0 = fa281 1) ↔ (g283 0 = g283 1)) then (1 : Int32) else (0 : Int32)) else (1 : Int32)) = (0 : Int32)) := (by rw [if_pos (by omega : 1 < n), if_pos hpi288]; decide)
        obtain ⟨_, _, ⟨T290, L290, kc290, nc290⟩, -, X290, ⟨Lc290, hQ290, l290, y290, z290⟩, st290⟩ := Jvm.LawKit.callS X287 hx (y := (⟨"com/example/coterie/coterie/methods/CommunitiesRenumberedPinLaw", "pair", "([I[III)Z"⟩ : MethodName)) hown (mvT hZ (hw _ (List.mem_of_getElem? (i := 5) rfl))) (mvT hZ (hw _ (List.mem_of_getElem? (i := 6) rfl))) (mvT hZ (hw _ (List.mem_of_getElem? (i := 7) rfl))) (mvT hZ (hw _ (List.mem_of_getElem? (i := 8) rfl))) (by decide) (backOf (W := 0) (rm2 l Z a0 hw [] b87 b283 (0 : Int32) (2 : Int32) n v85 fa281 g283 0 2 T283.heap n0 f286 Vr283 hnn (by decide) (by decide) (by decide)) hZ (hw _ (List.mem_of_getElem? (i := 8) rfl)) (hw _ (List.mem_of_getElem? (i := 7) rfl)) (by decide) (by decide)) (g := (mkF m 122 #[.val (.int p0), .val (.int p1), .val (.int p2), .val (.int p3), .val (.int p4), .val (.int v85), .val (.ref b87), .val (.ref b283), .unset, .unset] [(.int (2 : Int32)), (.int (0 : Int32)), (.ref b283), (.ref b87)])) rfl (by rw [hml]; rfl) (argsL := [(.ref b87), (.ref b283), (.int (0 : Int32)), (.int (2 : Int32))]) (rest := []) (lenOf pd_1 rfl) rfl (by show 2 * 0 + _ ≤ _; exact Nat.le_of_eq rfl) (hb hby at_122) (fun _ _ => ⟨rfl, eq287, (by decide : 3 + 0 ≤ _), (by decide : 12 + 0 ≤ _)⟩)
        dsimp only [Pt.U, Pt.locs, Pt.cells, Pt.slots] at X290 l290 y290 z290 st290 hQ290
        subst l290 y290 z290
        obtain ⟨rfl, Nq290, eq290⟩ := hQ290
        have N290 := Fr.app N287 Nq290
        have hc125_292 : ¬ ((if 2 < n then (if ((fa281 0 = fa281 2) ↔ (g283 0 = g283 2)) then (1 : Int32) else (0 : Int32)) else (1 : Int32)) = (0 : Int32)) := (by rw [if_neg (by omega : ¬ 2 < n)]; decide)
        obtain ⟨_, _, ⟨T293, L293, kc293, nc293⟩, -, X293, ⟨Lc293, hQ293, l293, y293, z293⟩, st293⟩ := Jvm.LawKit.callS X290 hx (y := (⟨"com/example/coterie/coterie/methods/CommunitiesRenumberedPinLaw", "pair", "([I[III)Z"⟩ : MethodName)) hown (mvT hZ (hw _ (List.mem_of_getElem? (i := 5) rfl))) (mvT hZ (hw _ (List.mem_of_getElem? (i := 6) rfl))) (mvT hZ (hw _ (List.mem_of_getElem? (i := 7) rfl))) (mvT hZ (hw _ (List.mem_of_getElem? (i := 8) rfl))) (by decide) (backOf (W := 0) (rm2 l Z a0 hw [] b87 b283 (0 : Int32) (3 : Int32) n v85 fa281 g283 0 3 T283.heap n0 f286 Vr283 hnn (by decide) (by decide) (by decide)) hZ (hw _ (List.mem_of_getElem? (i := 8) rfl)) (hw _ (List.mem_of_getElem? (i := 7) rfl)) (by decide) (by decide)) (g := (mkF m 134 #[.val (.int p0), .val (.int p1), .val (.int p2), .val (.int p3), .val (.int p4), .val (.int v85), .val (.ref b87), .val (.ref b283), .unset, .unset] [(.int (3 : Int32)), (.int (0 : Int32)), (.ref b283), (.ref b87)])) rfl (by rw [hml]; rfl) (argsL := [(.ref b87), (.ref b283), (.int (0 : Int32)), (.int (3 : Int32))]) (rest := []) (lenOf pd_1 rfl) rfl (by show 2 * 0 + _ ≤ _; exact Nat.le_of_eq rfl) (hb hby at_134) (fun _ _ => ⟨rfl, eq290, (by decide : 3 + 0 ≤ _), (by decide : 12 + 0 ≤ _)⟩)
        dsimp only [Pt.U, Pt.locs, Pt.cells, Pt.slots] at X293 l293 y293 z293 st293 hQ293
        subst l293 y293 z293
        obtain ⟨rfl, Nq293, eq293⟩ := hQ293
        have N293 := Fr.app N290 Nq293
        have hc137_295 : ¬ ((if 3 < n then (if ((fa281 0 = fa281 3) ↔ (g283 0 = g283 3)) then (1 : Int32) else (0 : Int32)) else (1 : Int32)) = (0 : Int32)) := (by rw [if_neg (by omega : ¬ 3 < n)]; decide)
        obtain ⟨_, _, ⟨T296, L296, kc296, nc296⟩, -, X296, ⟨Lc296, hQ296, l296, y296, z296⟩, st296⟩ := Jvm.LawKit.callS X293 hx (y := (⟨"com/example/coterie/coterie/methods/CommunitiesRenumberedPinLaw", "pair", "([I[III)Z"⟩ : MethodName)) hown (mvT hZ (hw _ (List.mem_of_getElem? (i := 5) rfl))) (mvT hZ (hw _ (List.mem_of_getElem? (i := 6) rfl))) (mvT hZ (hw _ (List.mem_of_getElem? (i := 7) rfl))) (mvT hZ (hw _ (List.mem_of_getElem? (i := 8) rfl))) (by decide) (backOf (W := 0) (rm2 l Z a0 hw [] b87 b283 (1 : Int32) (2 : Int32) n v85 fa281 g283 1 2 T283.heap n0 f286 Vr283 hnn (by decide) (by decide) (by decide)) hZ (hw _ (List.mem_of_getElem? (i := 8) rfl)) (hw _ (List.mem_of_getElem? (i := 7) rfl)) (by decide) (by decide)) (g := (mkF m 146 #[.val (.int p0), .val (.int p1), .val (.int p2), .val (.int p3), .val (.int p4), .val (.int v85), .val (.ref b87), .val (.ref b283), .unset, .unset] [(.int (2 : Int32)), (.int (1 : Int32)), (.ref b283), (.ref b87)])) rfl (by rw [hml]; rfl) (argsL := [(.ref b87), (.ref b283), (.int (1 : Int32)), (.int (2 : Int32))]) (rest := []) (lenOf pd_1 rfl) rfl (by show 2 * 0 + _ ≤ _; exact Nat.le_of_eq rfl) (hb hby at_146) (fun _ _ => ⟨rfl, eq293, (by decide : 3 + 0 ≤ _), (by decide : 12 + 0 ≤ _)⟩)
        dsimp only [Pt.U, Pt.locs, Pt.cells, Pt.slots] at X296 l296 y296 z296 st296 hQ296
        subst l296 y296 z296
        obtain ⟨rfl, Nq296, eq296⟩ := hQ296
        have N296 := Fr.app N293 Nq296
        have hc149_298 : ¬ ((if 2 < n then (if ((fa281 1 = fa281 2) ↔ (g283 1 = g283 2)) then (1 : Int32) else (0 : Int32)) else (1 : Int32)) = (0 : Int32)) := (by rw [if_neg (by omega : ¬ 2 < n)]; decide)
        obtain ⟨_, _, ⟨T299, L299, kc299, nc299⟩, -, X299, ⟨Lc299, hQ299, l299, y299, z299⟩, st299⟩ := Jvm.LawKit.callS X296 hx (y := (⟨"com/example/coterie/coterie/methods/CommunitiesRenumberedPinLaw", "pair", "([I[III)Z"⟩ : MethodName)) hown (mvT hZ (hw _ (List.mem_of_getElem? (i := 5) rfl))) (mvT hZ (hw _ (List.mem_of_getElem? (i := 6) rfl))) (mvT hZ (hw _ (List.mem_of_getElem? (i := 7) rfl))) (mvT hZ (hw _ (List.mem_of_getElem? (i := 8) rfl))) (by decide) (backOf (W := 0) (rm2 l Z a0 hw [] b87 b283 (1 : Int32) (3 : Int32) n v85 fa281 g283 1 3 T283.heap n0 f286 Vr283 hnn (by decide) (by decide) (by decide)) hZ (hw _ (List.mem_of_getElem? (i := 8) rfl)) (hw _ (List.mem_of_getElem? (i := 7) rfl)) (by decide) (by decide)) (g := (mkF m 158 #[.val (.int p0), .val (.int p1), .val (.int p2), .val (.int p3), .val (.int p4), .val (.int v85), .val (.ref b87), .val (.ref b283), .unset, .unset] [(.int (3 : Int32)), (.int (1 : Int32)), (.ref b283), (.ref b87)])) rfl (by rw [hml]; rfl) (argsL := [(.ref b87), (.ref b283), (.int (1 : Int32)), (.int (3 : Int32))]) (rest := []) (lenOf pd_1 rfl) rfl (by show 2 * 0 + _ ≤ _; exact Nat.le_of_eq rfl) (hb hby at_158) (fun _ _ => ⟨rfl, eq296, (by decide : 3 + 0 ≤ _), (by decide : 12 + 0 ≤ _)⟩)
        dsimp only [Pt.U, Pt.locs, Pt.cells, Pt.slots] at X299 l299 y299 z299 st299 hQ299
        subst l299 y299 z299
        obtain ⟨rfl, Nq299, eq299⟩ := hQ299
        have N299 := Fr.app N296 Nq299
        have hc161_301 : ¬ ((if 3 < n then (if ((fa281 1 = fa281 3) ↔ (g283 1 = g283 3)) then (1 : Int32) else (0 : Int32)) else (1 : Int32)) = (0 : Int32)) := (by rw [if_neg (by omega : ¬ 3 < n)]; decide)
        obtain ⟨_, _, ⟨T302, L302, kc302, nc302⟩, -, X302, ⟨Lc302, hQ302, l302, y302, z302⟩, st302⟩ := Jvm.LawKit.callS X299 hx (y := (⟨"com/example/coterie/coterie/methods/CommunitiesRenumberedPinLaw", "pair", "([I[III)Z"⟩ : MethodName)) hown (mvT hZ (hw _ (List.mem_of_getElem? (i := 5) rfl))) (mvT hZ (hw _ (List.mem_of_getElem? (i := 6) rfl))) (mvT hZ (hw _ (List.mem_of_getElem? (i := 7) rfl))) (mvT hZ (hw _ (List.mem_of_getElem? (i := 8) rfl))) (by decide) (backOf (W := 0) (rm2 l Z a0 hw [] b87 b283 (2 : Int32) (3 : Int32) n v85 fa281 g283 2 3 T283.heap n0 f286 Vr283 hnn (by decide) (by decide) (by decide)) hZ (hw _ (List.mem_of_getElem? (i := 8) rfl)) (hw _ (List.mem_of_getElem? (i := 7) rfl)) (by decide) (by decide)) (g := (mkF m 170 #[.val (.int p0), .val (.int p1), .val (.int p2), .val (.int p3), .val (.int p4), .val (.int v85), .val (.ref b87), .val (.ref b283), .unset, .unset] [(.int (3 : Int32)), (.int (2 : Int32)), (.ref b283), (.ref b87)])) rfl (by rw [hml]; rfl) (argsL := [(.ref b87), (.ref b283), (.int (2 : Int32)), (.int (3 : Int32))]) (rest := []) (lenOf pd_1 rfl) rfl (by show 2 * 0 + _ ≤ _; exact Nat.le_of_eq rfl) (hb hby at_170) (fun _ _ => ⟨rfl, eq299, (by decide : 3 + 0 ≤ _), (by decide : 12 + 0 ≤ _)⟩)
        dsimp only [Pt.U, Pt.locs, Pt.cells, Pt.slots] at X302 l302 y302 z302 st302 hQ302
        subst l302 y302 z302
        obtain ⟨rfl, Nq302, eq302⟩ := hQ302
        have N302 := Fr.app N299 Nq302
        have hc173_304 : ¬ ((if 3 < n then (if ((fa281 2 = fa281 3) ↔ (g283 2 = g283 3)) then (1 : Int32) else (0 : Int32)) else (1 : Int32)) = (0 : Int32)) := (by rw [if_neg (by omega : ¬ 3 < n)]; decide)
        have hc187_307 : (g283 0) = (0 : Int32) := (by
            have ar305 := rng32 (g283 0)
            have ar306 : (0 : Int32).toInt = 0 := by decide
            exact Int32.toInt_inj.mp (by omega))
        have hc202_310 : ¬ ((g283 1) < (0 : Int32)) := (by
            have ar308 := rng32 (g283 1)
            have ar309 : (0 : Int32).toInt = 0 := by decide
            exact fun qq_ => absurd (Int32.lt_iff_toInt_lt.mp qq_) (by omega))
        have hc215_316 : ¬ (((g283 0) + (1 : Int32)) < (g283 1)) := (by
            have ar311 := rng32 (g283 0)
            have ar312 : (1 : Int32).toInt = 1 := by decide
            have ar313 := rng32 ((g283 0) + (1 : Int32))
            first | have ar314 : ((g283 0) + (1 : Int32)).toInt = (g283 0).toInt + 1 := (by have qw := c_iadd (g283 0) (1 : Int32); omega) | (have ar314 := c_iadd (g283 0) (1 : Int32); skip)
            have ar315 := rng32 (g283 1)
            exact fun qq_ => absurd (Int32.lt_iff_toInt_lt.mp qq_) (by omega))
        have k317 : ∀ tg_, Steps p.tables e below (T302.setTop (mkF m 297 #[.val (.int p0), .val (.int p1), .val (.int p2), .val (.int p3), .val (.int p4), .val (.int v85), .val (.ref b87), .val (.ref b283), .unset, .unset] [(.int (1 : Int32))])) tg_ → Steps p.tables e below (s₁.setTop (entryFrame m #[(.int p0), (.int p1), (.int p2), (.int p3), (.int p4)] maxLocals)) tg_ := by
          intro tg_ kt
          refine k284 tg_ ?_
          refine XS.aload X283.here hx rfl (hb hby at_89) rfl rfl ?_
          show Steps p.tables e below (T283.setTop (mkF m 91 #[.val (.int p0), .val (.int p1), .val (.int p2), .val (.int p3), .val (.int p4), .val (.int v85), .val (.ref b87), .val (.ref b283), .unset, .unset] [(.ref b283)])) _
          refine XS.ifnullNo X283.here hx rfl (hb hby at_91) rfl ?_
          show Steps p.tables e below (T283.setTop (mkF m 94 #[.val (.int p0), .val (.int p1), .val (.int p2), .val (.int p3), .val (.int p4), .val (.int v85), .val (.ref b87), .val (.ref b283), .unset, .unset] [])) _
          refine XS.aload X283.here hx rfl (hb hby at_94) rfl rfl ?_
          show Steps p.tables e below (T283.setTop (mkF m 96 #[.val (.int p0), .val (.int p1), .val (.int p2), .val (.int p3), .val (.int p4), .val (.int v85), .val (.ref b87), .val (.ref b283), .unset, .unset] [(.ref b283)])) _
          refine own_len X283 hx hZ rfl Vr283 (z := v85) hnn (g := (mkF m 96 #[.val (.int p0), .val (.int p1), .val (.int p2), .val (.int p3), .val (.int p4), .val (.int v85), .val (.ref b87), .val (.ref b283), .unset, .unset] [(.ref b283)])) rfl rfl (hb hby at_96) _ ?_
          show Steps p.tables e below (T283.setTop (mkF m 97 #[.val (.int p0), .val (.int p1), .val (.int p2), .val (.int p3), .val (.int p4), .val (.int v85), .val (.ref b87), .val (.ref b283), .unset, .unset] [(.int v85)])) _
          refine XS.iload X283.here hx rfl (hb hby at_97) rfl ?_
          show Steps p.tables e below (T283.setTop (mkF m 99 #[.val (.int p0), .val (.int p1), .val (.int p2), .val (.int p3), .val (.int p4), .val (.int v85), .val (.ref b87), .val (.ref b283), .unset, .unset] [(.int v85), (.int v85)])) _
          refine XS.icmpYes X283.here hx rfl (pc0 := 99) (pc' := 104) rfl (hb hby at_99) rfl (teq hc99_285).1 (by decide) (by decide) ?_
          show Steps p.tables e below (T283.setTop (mkF m 104 #[.val (.int p0), .val (.int p1), .val (.int p2), .val (.int p3), .val (.int p4), .val (.int v85), .val (.ref b87), .val (.ref b283), .unset, .unset] [])) _
          refine XS.aload X283.here hx rfl (hb hby at_104) rfl rfl ?_
          show Steps p.tables e below (T283.setTop (mkF m 106 #[.val (.int p0), .val (.int p1), .val (.int p2), .val (.int p3), .val (.int p4), .val (.int v85), .val (.ref b87), .val (.ref b283), .unset, .unset] [(.ref b87)])) _
          refine XS.aload X283.here hx rfl (hb hby at_106) rfl rfl ?_
          show Steps p.tables e below (T283.setTop (mkF m 108 #[.val (.int p0), .val (.int p1), .val (.int p2), .val (.int p3), .val (.int p4), .val (.int v85), .val (.ref b87), .val (.ref b283), .unset, .unset] [(.ref b283), (.ref b87)])) _
          refine XS.iconst X283.here hx rfl (hb hby at_108) ?_
          show Steps p.tables e below (T283.setTop (mkF m 109 #[.val (.int p0), .val (.int p1), .val (.int p2), .val (.int p3), .val (.int p4), .val (.int v85), .val (.ref b87), .val (.ref b283), .unset, .unset] [(.int (0 : Int32)), (.ref b283), (.ref b87)])) _
          refine XS.iconst X283.here hx rfl (hb hby at_109) ?_
          show Steps p.tables e below (T283.setTop (mkF m 110 #[.val (.int p0), .val (.int p1), .val (.int p2), .val (.int p3), .val (.int p4), .val (.int v85), .val (.ref b87), .val (.ref b283), .unset, .unset] [(.int (1 : Int32)), (.int (0 : Int32)), (.ref b283), (.ref b87)])) _
          refine st287 _ ?_
          show Steps p.tables e below (T287.setTop (mkF m 113 #[.val (.int p0), .val (.int p1), .val (.int p2), .val (.int p3), .val (.int p4), .val (.int v85), .val (.ref b87), .val (.ref b283), .unset, .unset] [(.int (if 1 < n then (if ((fa281 0 = fa281 1) ↔ (g283 0 = g283 1)) then (1 : Int32) else (0 : Int32)) else (1 : Int32)))])) _
          refine XS.ifNo X287.here hx rfl (hb hby at_113) rfl ((if0 _ _).trans (feq hc113_289).1) ?_
          show Steps p.tables e below (T287.setTop (mkF m 116 #[.val (.int p0), .val (.int p1), .val (.int p2), .val (.int p3), .val (.int p4), .val (.int v85), .val (.ref b87), .val (.ref b283), .unset, .unset] [])) _
          refine XS.aload X287.here hx rfl (hb hby at_116) rfl rfl ?_
          show Steps p.tables e below (T287.setTop (mkF m 118 #[.val (.int p0), .val (.int p1), .val (.int p2), .val (.int p3), .val (.int p4), .val (.int v85), .val (.ref b87), .val (.ref b283), .unset, .unset] [(.ref b87)])) _
          refine XS.aload X287.here hx rfl (hb hby at_118) rfl rfl ?_
          show Steps p.tables e below (T287.setTop (mkF m 120 #[.val (.int p0), .val (.int p1), .val (.int p2), .val (.int p3), .val (.int p4), .val (.int v85), .val (.ref b87), .val (.ref b283), .unset, .unset] [(.ref b283), (.ref b87)])) _
          refine XS.iconst X287.here hx rfl (hb hby at_120) ?_
          show Steps p.tables e below (T287.setTop (mkF m 121 #[.val (.int p0), .val (.int p1), .val (.int p2), .val (.int p3), .val (.int p4), .val (.int v85), .val (.ref b87), .val (.ref b283), .unset, .unset] [(.int (0 : Int32)), (.ref b283), (.ref b87)])) _
          refine XS.iconst X287.here hx rfl (hb hby at_121) ?_
          show Steps p.tables e below (T287.setTop (mkF m 122 #[.val (.int p0), .val (.int p1), .val (.int p2), .val (.int p3), .val (.int p4), .val (.int v85), .val (.ref b87), .val (.ref b283), .unset, .unset] [(.int (2 : Int32)), (.int (0 : Int32)), (.ref b283), (.ref b87)])) _
          refine st290 _ ?_
          show Steps p.tables e below (T290.setTop (mkF m 125 #[.val (.int p0), .val (.int p1), .val (.int p2), .val (.int p3), .val (.int p4), .val (.int v85), .val (.ref b87), .val (.ref b283), .unset, .unset] [(.int (if 2 < n then (if ((fa281 0 = fa281 2) ↔ (g283 0 = g283 2)) then (1 : Int32) else (0 : Int32)) else (1 : Int32)))])) _
          refine XS.ifNo X290.here hx rfl (hb hby at_125) rfl ((if0 _ _).trans (feq hc125_292).1) ?_
          show Steps p.tables e below (T290.setTop (mkF m 128 #[.val (.int p0), .val (.int p1), .val (.int p2), .val (.int p3), .val (.int p4), .val (.int v85), .val (.ref b87), .val (.ref b283), .unset, .unset] [])) _
          refine XS.aload X290.here hx rfl (hb hby at_128) rfl rfl ?_
          show Steps p.tables e below (T290.setTop (mkF m 130 #[.val (.int p0), .val (.int p1), .val (.int p2), .val (.int p3), .val (.int p4), .val (.int v85), .val (.ref b87), .val (.ref b283), .unset, .unset] [(.ref b87)])) _
          refine XS.aload X290.here hx rfl (hb hby at_130) rfl rfl ?_
          show Steps p.tables e below (T290.setTop (mkF m 132 #[.val (.int p0), .val (.int p1), .val (.int p2), .val (.int p3), .val (.int p4), .val (.int v85), .val (.ref b87), .val (.ref b283), .unset, .unset] [(.ref b283), (.ref b87)])) _
          refine XS.iconst X290.here hx rfl (hb hby at_132) ?_
          show Steps p.tables e below (T290.setTop (mkF m 133 #[.val (.int p0), .val (.int p1), .val (.int p2), .val (.int p3), .val (.int p4), .val (.int v85), .val (.ref b87), .val (.ref b283), .unset, .unset] [(.int (0 : Int32)), (.ref b283), (.ref b87)])) _
          refine XS.iconst X290.here hx rfl (hb hby at_133) ?_
          show Steps p.tables e below (T290.setTop (mkF m 134 #[.val (.int p0), .val (.int p1), .val (.int p2), .val (.int p3), .val (.int p4), .val (.int v85), .val (.ref b87), .val (.ref b283), .unset, .unset] [(.int (3 : Int32)), (.int (0 : Int32)), (.ref b283), (.ref b87)])) _
          refine st293 _ ?_
          show Steps p.tables e below (T293.setTop (mkF m 137 #[.val (.int p0), .val (.int p1), .val (.int p2), .val (.int p3), .val (.int p4), .val (.int v85), .val (.ref b87), .val (.ref b283), .unset, .unset] [(.int (if 3 < n then (if ((fa281 0 = fa281 3) ↔ (g283 0 = g283 3)) then (1 : Int32) else (0 : Int32)) else (1 : Int32)))])) _
          refine XS.ifNo X293.here hx rfl (hb hby at_137) rfl ((if0 _ _).trans (feq hc137_295).1) ?_
          show Steps p.tables e below (T293.setTop (mkF m 140 #[.val (.int p0), .val (.int p1), .val (.int p2), .val (.int p3), .val (.int p4), .val (.int v85), .val (.ref b87), .val (.ref b283), .unset, .unset] [])) _
          refine XS.aload X293.here hx rfl (hb hby at_140) rfl rfl ?_
          show Steps p.tables e below (T293.setTop (mkF m 142 #[.val (.int p0), .val (.int p1), .val (.int p2), .val (.int p3), .val (.int p4), .val (.int v85), .val (.ref b87), .val (.ref b283), .unset, .unset] [(.ref b87)])) _
          refine XS.aload X293.here hx rfl (hb hby at_142) rfl rfl ?_
          show Steps p.tables e below (T293.setTop (mkF m 144 #[.val (.int p0), .val (.int p1), .val (.int p2), .val (.int p3), .val (.int p4), .val (.int v85), .val (.ref b87), .val (.ref b283), .unset, .unset] [(.ref b283), (.ref b87)])) _
          refine XS.iconst X293.here hx rfl (hb hby at_144) ?_
          show Steps p.tables e below (T293.setTop (mkF m 145 #[.val (.int p0), .val (.int p1), .val (.int p2), .val (.int p3), .val (.int p4), .val (.int v85), .val (.ref b87), .val (.ref b283), .unset, .unset] [(.int (1 : Int32)), (.ref b283), (.ref b87)])) _
          refine XS.iconst X293.here hx rfl (hb hby at_145) ?_
          show Steps p.tables e below (T293.setTop (mkF m 146 #[.val (.int p0), .val (.int p1), .val (.int p2), .val (.int p3), .val (.int p4), .val (.int v85), .val (.ref b87), .val (.ref b283), .unset, .unset] [(.int (2 : Int32)), (.int (1 : Int32)), (.ref b283), (.ref b87)])) _
          refine st296 _ ?_
          show Steps p.tables e below (T296.setTop (mkF m 149 #[.val (.int p0), .val (.int p1), .val (.int p2), .val (.int p3), .val (.int p4), .val (.int v85), .val (.ref b87), .val (.ref b283), .unset, .unset] [(.int (if 2 < n then (if ((fa281 1 = fa281 2) ↔ (g283 1 = g283 2)) then (1 : Int32) else (0 : Int32)) else (1 : Int32)))])) _
          refine XS.ifNo X296.here hx rfl (hb hby at_149) rfl ((if0 _ _).trans (feq hc149_298).1) ?_
          show Steps p.tables e below (T296.setTop (mkF m 152 #[.val (.int p0), .val (.int p1), .val (.int p2), .val (.int p3), .val (.int p4), .val (.int v85), .val (.ref b87), .val (.ref b283), .unset, .unset] [])) _
          refine XS.aload X296.here hx rfl (hb hby at_152) rfl rfl ?_
          show Steps p.tables e below (T296.setTop (mkF m 154 #[.val (.int p0), .val (.int p1), .val (.int p2), .val (.int p3), .val (.int p4), .val (.int v85), .val (.ref b87), .val (.ref b283), .unset, .unset] [(.ref b87)])) _
          refine XS.aload X296.here hx rfl (hb hby at_154) rfl rfl ?_
          show Steps p.tables e below (T296.setTop (mkF m 156 #[.val (.int p0), .val (.int p1), .val (.int p2), .val (.int p3), .val (.int p4), .val (.int v85), .val (.ref b87), .val (.ref b283), .unset, .unset] [(.ref b283), (.ref b87)])) _
          refine XS.iconst X296.here hx rfl (hb hby at_156) ?_
          show Steps p.tables e below (T296.setTop (mkF m 157 #[.val (.int p0), .val (.int p1), .val (.int p2), .val (.int p3), .val (.int p4), .val (.int v85), .val (.ref b87), .val (.ref b283), .unset, .unset] [(.int (1 : Int32)), (.ref b283), (.ref b87)])) _
          refine XS.iconst X296.here hx rfl (hb hby at_157) ?_
          show Steps p.tables e below (T296.setTop (mkF m 158 #[.val (.int p0), .val (.int p1), .val (.int p2), .val (.int p3), .val (.int p4), .val (.int v85), .val (.ref b87), .val (.ref b283), .unset, .unset] [(.int (3 : Int32)), (.int (1 : Int32)), (.ref b283), (.ref b87)])) _
          refine st299 _ ?_
          show Steps p.tables e below (T299.setTop (mkF m 161 #[.val (.int p0), .val (.int p1), .val (.int p2), .val (.int p3), .val (.int p4), .val (.int v85), .val (.ref b87), .val (.ref b283), .unset, .unset] [(.int (if 3 < n then (if ((fa281 1 = fa281 3) ↔ (g283 1 = g283 3)) then (1 : Int32) else (0 : Int32)) else (1 : Int32)))])) _
          refine XS.ifNo X299.here hx rfl (hb hby at_161) rfl ((if0 _ _).trans (feq hc161_301).1) ?_
          show Steps p.tables e below (T299.setTop (mkF m 164 #[.val (.int p0), .val (.int p1), .val (.int p2), .val (.int p3), .val (.int p4), .val (.int v85), .val (.ref b87), .val (.ref b283), .unset, .unset] [])) _
          refine XS.aload X299.here hx rfl (hb hby at_164) rfl rfl ?_
          show Steps p.tables e below (T299.setTop (mkF m 166 #[.val (.int p0), .val (.int p1), .val (.int p2), .val (.int p3), .val (.int p4), .val (.int v85), .val (.ref b87), .val (.ref b283), .unset, .unset] [(.ref b87)])) _
          refine XS.aload X299.here hx rfl (hb hby at_166) rfl rfl ?_
          show Steps p.tables e below (T299.setTop (mkF m 168 #[.val (.int p0), .val (.int p1), .val (.int p2), .val (.int p3), .val (.int p4), .val (.int v85), .val (.ref b87), .val (.ref b283), .unset, .unset] [(.ref b283), (.ref b87)])) _
          refine XS.iconst X299.here hx rfl (hb hby at_168) ?_
          show Steps p.tables e below (T299.setTop (mkF m 169 #[.val (.int p0), .val (.int p1), .val (.int p2), .val (.int p3), .val (.int p4), .val (.int v85), .val (.ref b87), .val (.ref b283), .unset, .unset] [(.int (2 : Int32)), (.ref b283), (.ref b87)])) _
          refine XS.iconst X299.here hx rfl (hb hby at_169) ?_
          show Steps p.tables e below (T299.setTop (mkF m 170 #[.val (.int p0), .val (.int p1), .val (.int p2), .val (.int p3), .val (.int p4), .val (.int v85), .val (.ref b87), .val (.ref b283), .unset, .unset] [(.int (3 : Int32)), (.int (2 : Int32)), (.ref b283), (.ref b87)])) _
          refine st302 _ ?_
          show Steps p.tables e below (T302.setTop (mkF m 173 #[.val (.int p0), .val (.int p1), .val (.int p2), .val (.int p3), .val (.int p4), .val (.int v85), .val (.ref b87), .val (.ref b283), .unset, .unset] [(.int (if 3 < n then (if ((fa281 2 = fa281 3) ↔ (g283 2 = g283 3)) then (1 : Int32) else (0 : Int32)) else (1 : Int32)))])) _
          refine XS.ifYes X302.here hx rfl (pc0 := 173) (pc' := 178) rfl (hb hby at_173) rfl ((if0 _ _).trans (feq hc173_304).2) (by decide) (by decide) ?_
          show Steps p.tables e below (T302.setTop (mkF m 178 #[.val (.int p0), .val (.int p1), .val (.int p2), .val (.int p3), .val (.int p4), .val (.int v85), .val (.ref b87), .val (.ref b283), .unset, .unset] [])) _
          refine XS.iload X302.here hx rfl (hb hby at_178) rfl ?_
          show Steps p.tables e below (T302.setTop (mkF m 180 #[.val (.int p0), .val (.int p1), .val (.int p2), .val (.int p3), .val (.int p4), .val (.int v85), .val (.ref b87), .val (.ref b283), .unset, .unset] [(.int v85)])) _
          refine XS.ifNo X302.here hx rfl (hb hby at_180) rfl ((if0 _ _).trans (tlt hc16_89).2.2.2) ?_
          show Steps p.tables e below (T302.setTop (mkF m 183 #[.val (.int p0), .val (.int p1), .val (.int p2), .val (.int p3), .val (.int p4), .val (.int v85), .val (.ref b87), .val (.ref b283), .unset, .unset] [])) _
          refine XS.aload X302.here hx rfl (hb hby at_183) rfl rfl ?_
          show Steps p.tables e below (T302.setTop (mkF m 185 #[.val (.int p0), .val (.int p1), .val (.int p2), .val (.int p3), .val (.int p4), .val (.int v85), .val (.ref b87), .val (.ref b283), .unset, .unset] [(.ref b283)])) _
          refine XS.iconst X302.here hx rfl (hb hby at_185) ?_
          show Steps p.tables e below (T302.setTop (mkF m 186 #[.val (.int p0), .val (.int p1), .val (.int p2), .val (.int p3), .val (.int p4), .val (.int v85), .val (.ref b87), .val (.ref b283), .unset, .unset] [(.int (0 : Int32)), (.ref b283)])) _
          refine own_ldI X302 hx hZ eq302 Vr283 (i := 0) (by decide : (0 : Int32).toInt = ((0 : Nat) : Int)) (by omega) rfl (g := (mkF m 186 #[.val (.int p0), .val (.int p1), .val (.int p2), .val (.int p3), .val (.int p4), .val (.int v85), .val (.ref b87), .val (.ref b283), .unset, .unset] [(.int (0 : Int32)), (.ref b283)])) rfl rfl (hb hby at_186) _ ?_
          show Steps p.tables e below (T302.setTop (mkF m 187 #[.val (.int p0), .val (.int p1), .val (.int p2), .val (.int p3), .val (.int p4), .val (.int v85), .val (.ref b87), .val (.ref b283), .unset, .unset] [(.int (g283 0))])) _
          refine XS.ifYes X302.here hx rfl (pc0 := 187) (pc' := 192) rfl (hb hby at_187) rfl ((if0 _ _).trans (teq hc187_307).1) (by decide) (by decide) ?_
          show Steps p.tables e below (T302.setTop (mkF m 192 #[.val (.int p0), .val (.int p1), .val (.int p2), .val (.int p3), .val (.int p4), .val (.int v85), .val (.ref b87), .val (.ref b283), .unset, .unset] [])) _
          refine XS.iload X302.here hx rfl (hb hby at_192) rfl ?_
          show Steps p.tables e below (T302.setTop (mkF m 194 #[.val (.int p0), .val (.int p1), .val (.int p2), .val (.int p3), .val (.int p4), .val (.int v85), .val (.ref b87), .val (.ref b283), .unset, .unset] [(.int v85)])) _
          refine XS.iconst X302.here hx rfl (hb hby at_194) ?_
          show Steps p.tables e below (T302.setTop (mkF m 195 #[.val (.int p0), .val (.int p1), .val (.int p2), .val (.int p3), .val (.int p4), .val (.int v85), .val (.ref b87), .val (.ref b283), .unset, .unset] [(.int (1 : Int32)), (.int v85)])) _
          refine XS.icmpNo X302.here hx rfl (hb hby at_195) rfl (tlt hc33_96).2.2.2 ?_
          show Steps p.tables e below (T302.setTop (mkF m 198 #[.val (.int p0), .val (.int p1), .val (.int p2), .val (.int p3), .val (.int p4), .val (.int v85), .val (.ref b87), .val (.ref b283), .unset, .unset] [])) _
          refine XS.aload X302.here hx rfl (hb hby at_198) rfl rfl ?_
          show Steps p.tables e below (T302.setTop (mkF m 200 #[.val (.int p0), .val (.int p1), .val (.int p2), .val (.int p3), .val (.int p4), .val (.int v85), .val (.ref b87), .val (.ref b283), .unset, .unset] [(.ref b283)])) _
          refine XS.iconst X302.here hx rfl (hb hby at_200) ?_
          show Steps p.tables e below (T302.setTop (mkF m 201 #[.val (.int p0), .val (.int p1), .val (.int p2), .val (.int p3), .val (.int p4), .val (.int v85), .val (.ref b87), .val (.ref b283), .unset, .unset] [(.int (1 : Int32)), (.ref b283)])) _
          refine own_ldI X302 hx hZ eq302 Vr283 (i := 1) (by decide : (1 : Int32).toInt = ((1 : Nat) : Int)) (by omega) rfl (g := (mkF m 201 #[.val (.int p0), .val (.int p1), .val (.int p2), .val (.int p3), .val (.int p4), .val (.int v85), .val (.ref b87), .val (.ref b283), .unset, .unset] [(.int (1 : Int32)), (.ref b283)])) rfl rfl (hb hby at_201) _ ?_
          show Steps p.tables e below (T302.setTop (mkF m 202 #[.val (.int p0), .val (.int p1), .val (.int p2), .val (.int p3), .val (.int p4), .val (.int v85), .val (.ref b87), .val (.ref b283), .unset, .unset] [(.int (g283 1))])) _
          refine XS.ifNo X302.here hx rfl (hb hby at_202) rfl ((if0 _ _).trans (flt hc202_310).1) ?_
          show Steps p.tables e below (T302.setTop (mkF m 205 #[.val (.int p0), .val (.int p1), .val (.int p2), .val (.int p3), .val (.int p4), .val (.int v85), .val (.ref b87), .val (.ref b283), .unset, .unset] [])) _
          refine XS.aload X302.here hx rfl (hb hby at_205) rfl rfl ?_
          show Steps p.tables e below (T302.setTop (mkF m 207 #[.val (.int p0), .val (.int p1), .val (.int p2), .val (.int p3), .val (.int p4), .val (.int v85), .val (.ref b87), .val (.ref b283), .unset, .unset] [(.ref b283)])) _
          refine XS.iconst X302.here hx rfl (hb hby at_207) ?_
          show Steps p.tables e below (T302.setTop (mkF m 208 #[.val (.int p0), .val (.int p1), .val (.int p2), .val (.int p3), .val (.int p4), .val (.int v85), .val (.ref b87), .val (.ref b283), .unset, .unset] [(.int (1 : Int32)), (.ref b283)])) _
          refine own_ldI X302 hx hZ eq302 Vr283 (i := 1) (by decide : (1 : Int32).toInt = ((1 : Nat) : Int)) (by omega) rfl (g := (mkF m 208 #[.val (.int p0), .val (.int p1), .val (.int p2), .val (.int p3), .val (.int p4), .val (.int v85), .val (.ref b87), .val (.ref b283), .unset, .unset] [(.int (1 : Int32)), (.ref b283)])) rfl rfl (hb hby at_208) _ ?_
          show Steps p.tables e below (T302.setTop (mkF m 209 #[.val (.int p0), .val (.int p1), .val (.int p2), .val (.int p3), .val (.int p4), .val (.int v85), .val (.ref b87), .val (.ref b283), .unset, .unset] [(.int (g283 1))])) _
          refine XS.aload X302.here hx rfl (hb hby at_209) rfl rfl ?_
          show Steps p.tables e below (T302.setTop (mkF m 211 #[.val (.int p0), .val (.int p1), .val (.int p2), .val (.int p3), .val (.int p4), .val (.int v85), .val (.ref b87), .val (.ref b283), .unset, .unset] [(.ref b283), (.int (g283 1))])) _
          refine XS.iconst X302.here hx rfl (hb hby at_211) ?_
          show Steps p.tables e below (T302.setTop (mkF m 212 #[.val (.int p0), .val (.int p1), .val (.int p2), .val (.int p3), .val (.int p4), .val (.int v85), .val (.ref b87), .val (.ref b283), .unset, .unset] [(.int (0 : Int32)), (.ref b283), (.int (g283 1))])) _
          refine own_ldI X302 hx hZ eq302 Vr283 (i := 0) (by decide : (0 : Int32).toInt = ((0 : Nat) : Int)) (by omega) rfl (g := (mkF m 212 #[.val (.int p0), .val (.int p1), .val (.int p2), .val (.int p3), .val (.int p4), .val (.int v85), .val (.ref b87), .val (.ref b283), .unset, .unset] [(.int (0 : Int32)), (.ref b283), (.int (g283 1))])) rfl rfl (hb hby at_212) _ ?_
          show Steps p.tables e below (T302.setTop (mkF m 213 #[.val (.int p0), .val (.int p1), .val (.int p2), .val (.int p3), .val (.int p4), .val (.int v85), .val (.ref b87), .val (.ref b283), .unset, .unset] [(.int (g283 0)), (.int (g283 1))])) _
          refine XS.iconst X302.here hx rfl (hb hby at_213) ?_
          show Steps p.tables e below (T302.setTop (mkF m 214 #[.val (.int p0), .val (.int p1), .val (.int p2), .val (.int p3), .val (.int p4), .val (.int v85), .val (.ref b87), .val (.ref b283), .unset, .unset] [(.int (1 : Int32)), (.int (g283 0)), (.int (g283 1))])) _
          refine XS.iadd X302.here hx rfl (hb hby at_214) rfl ?_
          show Steps p.tables e below (T302.setTop (mkF m 215 #[.val (.int p0), .val (.int p1), .val (.int p2), .val (.int p3), .val (.int p4), .val (.int v85), .val (.ref b87), .val (.ref b283), .unset, .unset] [(.int ((g283 0) + (1 : Int32))), (.int (g283 1))])) _
          refine XS.icmpYes X302.here hx rfl (pc0 := 215) (pc' := 220) rfl (hb hby at_215) rfl (flt hc215_316).2.2.2 (by decide) (by decide) ?_
          show Steps p.tables e below (T302.setTop (mkF m 220 #[.val (.int p0), .val (.int p1), .val (.int p2), .val (.int p3), .val (.int p4), .val (.int v85), .val (.ref b87), .val (.ref b283), .unset, .unset] [])) _
          refine XS.iload X302.here hx rfl (hb hby at_220) rfl ?_
          show Steps p.tables e below (T302.setTop (mkF m 222 #[.val (.int p0), .val (.int p1), .val (.int p2), .val (.int p3), .val (.int p4), .val (.int v85), .val (.ref b87), .val (.ref b283), .unset, .unset] [(.int v85)])) _
          refine XS.iconst X302.here hx rfl (hb hby at_222) ?_
          show Steps p.tables e below (T302.setTop (mkF m 223 #[.val (.int p0), .val (.int p1), .val (.int p2), .val (.int p3), .val (.int p4), .val (.int v85), .val (.ref b87), .val (.ref b283), .unset, .unset] [(.int (2 : Int32)), (.int v85)])) _
          refine XS.icmpYes X302.here hx rfl (pc0 := 223) (pc' := 296) rfl (hb hby at_223) rfl (flt hc50_103).2.2.2 (by decide) (by decide) ?_
          show Steps p.tables e below (T302.setTop (mkF m 296 #[.val (.int p0), .val (.int p1), .val (.int p2), .val (.int p3), .val (.int p4), .val (.int v85), .val (.ref b87), .val (.ref b283), .unset, .unset] [])) _
          refine XS.iconst X302.here hx rfl (hb hby at_296) ?_
          show Steps p.tables e below (T302.setTop (mkF m 297 #[.val (.int p0), .val (.int p1), .val (.int p2), .val (.int p3), .val (.int p4), .val (.int v85), .val (.ref b87), .val (.ref b283), .unset, .unset] [(.int (1 : Int32))])) _
          exact kt
        obtain ⟨fs, hr, hrun, hended, hW, hsame⟩ := X302.leave (v := some (.int (1 : Int32))) (fun h => by rw [Bd.returns] at h; cases h)
        refine ⟨_, _, k317 _ (retN X302 hx (t := .boolean) Bd.returns (by simp) (hb hby at_297) hr), hrun, hended, _, _, rfl, ?_, ⟨_, rfl⟩, hW, hsame.mono (by decide) (by decide)⟩
        show Q0 Z p0 p1 p2 p3 p4 h0 n0 _ T302.heap _
        rw [eq302]
        exact ⟨rfl, N302⟩
    · have hc50_322 : ¬ ((2 : Int32) < v85) := (by
          have ar318 : (1 : Int32).toInt = 1 := by decide
          have ar319 := rng32 v85
          have ar320 : ¬ ((1 : Int32).toInt < v85.toInt) := fun qq_ => hc33_96 (Int32.lt_iff_toInt_lt.mpr qq_)
          have ar321 : (2 : Int32).toInt = 2 := by decide
          exact fun qq_ => absurd (Int32.lt_iff_toInt_lt.mp qq_) (by omega))
      have hc67_327 : ¬ ((3 : Int32) < v85) := (by
          have ar323 : (1 : Int32).toInt = 1 := by decide
          have ar324 := rng32 v85
          have ar325 : ¬ ((1 : Int32).toInt < v85.toInt) := fun qq_ => hc33_96 (Int32.lt_iff_toInt_lt.mpr qq_)
          have ar326 : (3 : Int32).toInt = 3 := by decide
          exact fun qq_ => absurd (Int32.lt_iff_toInt_lt.mp qq_) (by omega))
      have k328 : ∀ tg_, Steps p.tables e below (T94.setTop (mkF m 82 #[.val (.int p0), .val (.int p1), .val (.int p2), .val (.int p3), .val (.int p4), .val (.int v85), .val (.ref b87), .unset, .unset, .unset] [])) tg_ → Steps p.tables e below (s₁.setTop (entryFrame m #[(.int p0), (.int p1), (.int p2), (.int p3), (.int p4)] maxLocals)) tg_ := by
        intro tg_ kt
        refine k95 tg_ ?_
        refine XS.icmpYes X94.here hx rfl (pc0 := 33) (pc' := 47) rfl (hb hby at_33) rfl (flt hc33_96).2.2.2 (by decide) (by decide) ?_
        show Steps p.tables e below (T94.setTop (mkF m 47 #[.val (.int p0), .val (.int p1), .val (.int p2), .val (.int p3), .val (.int p4), .val (.int v85), .val (.ref b87), .unset, .unset, .unset] [])) _
        refine XS.iload X94.here hx rfl (hb hby at_47) rfl ?_
        show Steps p.tables e below (T94.setTop (mkF m 49 #[.val (.int p0), .val (.int p1), .val (.int p2), .val (.int p3), .val (.int p4), .val (.int v85), .val (.ref b87), .unset, .unset, .unset] [(.int v85)])) _
        refine XS.iconst X94.here hx rfl (hb hby at_49) ?_
        show Steps p.tables e below (T94.setTop (mkF m 50 #[.val (.int p0), .val (.int p1), .val (.int p2), .val (.int p3), .val (.int p4), .val (.int v85), .val (.ref b87), .unset, .unset, .unset] [(.int (2 : Int32)), (.int v85)])) _
        refine XS.icmpYes X94.here hx rfl (pc0 := 50) (pc' := 64) rfl (hb hby at_50) rfl (flt hc50_322).2.2.2 (by decide) (by decide) ?_
        show Steps p.tables e below (T94.setTop (mkF m 64 #[.val (.int p0), .val (.int p1), .val (.int p2), .val (.int p3), .val (.int p4), .val (.int v85), .val (.ref b87), .unset, .unset, .unset] [])) _
        refine XS.iload X94.here hx rfl (hb hby at_64) rfl ?_
        show Steps p.tables e below (T94.setTop (mkF m 66 #[.val (.int p0), .val (.int p1), .val (.int p2), .val (.int p3), .val (.int p4), .val (.int v85), .val (.ref b87), .unset, .unset, .unset] [(.int v85)])) _
        refine XS.iconst X94.here hx rfl (hb hby at_66) ?_
        show Steps p.tables e below (T94.setTop (mkF m 67 #[.val (.int p0), .val (.int p1), .val (.int p2), .val (.int p3), .val (.int p4), .val (.int v85), .val (.ref b87), .unset, .unset, .unset] [(.int (3 : Int32)), (.int v85)])) _
        refine XS.icmpYes X94.here hx rfl (pc0 := 67) (pc' := 82) rfl (hb hby at_67) rfl (flt hc67_327).2.2.2 (by decide) (by decide) ?_
        show Steps p.tables e below (T94.setTop (mkF m 82 #[.val (.int p0), .val (.int p1), .val (.int p2), .val (.int p3), .val (.int p4), .val (.int v85), .val (.ref b87), .unset, .unset, .unset] [])) _
        exact kt
      have hnc : n = 1 := by
        have ar329 : (0 : Int32).toInt = 0 := by decide
        have ar330 := rng32 v85
        have ar331 : (0 : Int32).toInt < v85.toInt := Int32.lt_iff_toInt_lt.mp hc16_89
        have ar332 : (1 : Int32).toInt = 1 := by decide
        have ar333 : ¬ ((1 : Int32).toInt < v85.toInt) := fun qq_ => hc33_96 (Int32.lt_iff_toInt_lt.mpr qq_)
        have ar334 : (2 : Int32).toInt = 2 := by decide
        have ar335 : ¬ ((2 : Int32).toInt < v85.toInt) := fun qq_ => hc50_322 (Int32.lt_iff_toInt_lt.mpr qq_)
        have ar336 : (3 : Int32).toInt = 3 := by decide
        have ar337 : ¬ ((3 : Int32).toInt < v85.toInt) := fun qq_ => hc67_327 (Int32.lt_iff_toInt_lt.mpr qq_)
        have hv := hnn
        omega
      obtain ⟨fa338, hfa338⟩ : ∃ z : Nat → Int32, z = (own_upd (fun _ => 0) 0 ((p1 &&& (2147483647 : Int32)) % v85)) := ⟨_, rfl⟩
      rw [← hfa338] at V94
      obtain ⟨A, hAd⟩ : ∃ A : Nat → Nat, A = fun i => (fa338 i).toInt.toNat := ⟨_, rfl⟩
      have hA : ∀ i, i < n → (fa338 i).toInt = ((A i : Nat) : Int) ∧ A i < n := by
        intro i hi
        have hi4 : i = 0 := by omega
        subst hi4
        obtain ⟨k, hk, hkn⟩ := own_el (x := p1) hnn hlt0
        have e : fa338 0 = ((p1 &&& (2147483647 : Int32)) % v85) := by rw [hfa338]; rfl
        rw [hAd]; dsimp only; rw [e]; omega
      have hfin := own_fin hn4 (fun i hi => (hA i hi).2)
      obtain ⟨hf1, hf2, hf3, hf4, hf5⟩ := hfin
      have f339 := (Nat.le_trans (Nat.le_trans Z0 ((Keep.refl _ []).ext E87).1) (Keep.of_wr W94).1)
      obtain ⟨_, _, ⟨T340, L340, kc340, nc340⟩, -, X340, ⟨Lc340, hQ340, l340, y340, z340⟩, st340⟩ := Jvm.LawKit.callS X94 hx (y := (⟨"com/example/coterie/coterie/methods/Communities", "renumbered", "([I)[I"⟩ : MethodName)) hown (mvT hZ (hw _ (List.mem_of_getElem? (i := 1) rfl))) (mvT hZ (hw _ (List.mem_of_getElem? (i := 2) rfl))) (mvT hZ (hw _ (List.mem_of_getElem? (i := 3) rfl))) (mvT hZ (hw _ (List.mem_of_getElem? (i := 4) rfl))) (by decide) (backOf (W := 0) (rm1 l Z a0 hw [] b87 n v85 fa338 A h94 n0 f339 V94 hnn hn4 hA) hZ (hw _ (List.mem_of_getElem? (i := 4) rfl)) (hw _ (List.mem_of_getElem? (i := 3) rfl)) (by decide) (by decide)) (g := (mkF m 84 #[.val (.int p0), .val (.int p1), .val (.int p2), .val (.int p3), .val (.int p4), .val (.int v85), .val (.ref b87), .unset, .unset, .unset] [(.ref b87)])) rfl (by rw [hml]; rfl) (argsL := [(.ref b87)]) (rest := []) (lenOf pd_0 rfl) rfl (by show 2 * 0 + _ ≤ _; exact Nat.le_of_eq rfl) (hb hby at_84) (fun _ _ => ⟨rfl, e94, (by decide : 1 + 2 ≤ _), (by decide : 4 + 8 ≤ _)⟩)
      dsimp only [Pt.U, Pt.locs, Pt.cells, Pt.slots] at X340 l340 y340 z340 st340 hQ340
      subst l340 y340 z340
      obtain ⟨-, Nq340, oK340, m0_340⟩ := hQ340
      have N340 := Fr.app N94 Nq340
      obtain ⟨b340, g340, rfl, Vr340, hr340, gb340, sb340⟩ := m0_340
      have k341 : ∀ tg_, Steps p.tables e below (T340.setTop (mkF m 89 #[.val (.int p0), .val (.int p1), .val (.int p2), .val (.int p3), .val (.int p4), .val (.int v85), .val (.ref b87), .val (.ref b340), .unset, .unset] [])) tg_ → Steps p.tables e below (s₁.setTop (entryFrame m #[(.int p0), (.int p1), (.int p2), (.int p3), (.int p4)] maxLocals)) tg_ := by
        intro tg_ kt
        refine k328 tg_ ?_
        refine XS.aload X94.here hx rfl (hb hby at_82) rfl rfl ?_
        show Steps p.tables e below (T94.setTop (mkF m 84 #[.val (.int p0), .val (.int p1), .val (.int p2), .val (.int p3), .val (.int p4), .val (.int v85), .val (.ref b87), .unset, .unset, .unset] [(.ref b87)])) _
        refine st340 _ ?_
        show Steps p.tables e below (T340.setTop (mkF m 87 #[.val (.int p0), .val (.int p1), .val (.int p2), .val (.int p3), .val (.int p4), .val (.int v85), .val (.ref b87), .unset, .unset, .unset] [(.ref b340)])) _
        refine XS.astore X340.here hx rfl (hb hby at_87) rfl rfl (l' := #[.val (.int p0), .val (.int p1), .val (.int p2), .val (.int p3), .val (.int p4), .val (.int v85), .val (.ref b87), .val (.ref b340), .unset, .unset]) rfl ?_
        show Steps p.tables e below (T340.setTop (mkF m 89 #[.val (.int p0), .val (.int p1), .val (.int p2), .val (.int p3), .val (.int p4), .val (.int v85), .val (.ref b87), .val (.ref b340), .unset, .unset] [])) _
        exact kt
      have hg0 : (g340 0).toInt = ((own_out A 0 : Nat) : Int) := hr340 0 (by omega)
      have ho0 := hf2 (by omega)
      have hc99_342 : v85 = v85 := rfl
      have f343 := (V94.keep oK340 nin0)
      obtain ⟨_, _, ⟨T344, L344, kc344, nc344⟩, -, X344, ⟨Lc344, hQ344, l344, y344, z344⟩, st344⟩ := Jvm.LawKit.callS X340 hx (y := (⟨"com/example/coterie/coterie/methods/CommunitiesRenumberedPinLaw", "pair", "([I[III)Z"⟩ : MethodName)) hown (mvT hZ (hw _ (List.mem_of_getElem? (i := 5) rfl))) (mvT hZ (hw _ (List.mem_of_getElem? (i := 6) rfl))) (mvT hZ (hw _ (List.mem_of_getElem? (i := 7) rfl))) (mvT hZ (hw _ (List.mem_of_getElem? (i := 8) rfl))) (by decide) (backOf (W := 0) (rm2 l Z a0 hw [] b87 b340 (0 : Int32) (1 : Int32) n v85 fa338 g340 0 1 T340.heap n0 f343 Vr340 hnn (by decide) (by decide) (by decide)) hZ (hw _ (List.mem_of_getElem? (i := 8) rfl)) (hw _ (List.mem_of_getElem? (i := 7) rfl)) (by decide) (by decide)) (g := (mkF m 110 #[.val (.int p0), .val (.int p1), .val (.int p2), .val (.int p3), .val (.int p4), .val (.int v85), .val (.ref b87), .val (.ref b340), .unset, .unset] [(.int (1 : Int32)), (.int (0 : Int32)), (.ref b340), (.ref b87)])) rfl (by rw [hml]; rfl) (argsL := [(.ref b87), (.ref b340), (.int (0 : Int32)), (.int (1 : Int32))]) (rest := []) (lenOf pd_1 rfl) rfl (by show 2 * 0 + _ ≤ _; exact Nat.le_of_eq rfl) (hb hby at_110) (fun _ _ => ⟨rfl, rfl, (by decide : 3 + 0 ≤ _), (by decide : 12 + 0 ≤ _)⟩)
      dsimp only [Pt.U, Pt.locs, Pt.cells, Pt.slots] at X344 l344 y344 z344 st344 hQ344
      subst l344 y344 z344
      obtain ⟨rfl, Nq344, eq344⟩ := hQ344
      have N344 := Fr.app N340 Nq344
      have hc113_346 : ¬ ((if 1 < n then (if ((fa338 0 = fa338 1) ↔ (g340 0 = g340 1)) then (1 : Int32) else (0 : Int32)) else (1 : Int32)) = (0 : Int32)) := (by rw [if_neg (by omega : ¬ 1 < n)]; decide)
      obtain ⟨_, _, ⟨T347, L347, kc347, nc347⟩, -, X347, ⟨Lc347, hQ347, l347, y347, z347⟩, st347⟩ := Jvm.LawKit.callS X344 hx (y := (⟨"com/example/coterie/coterie/methods/CommunitiesRenumberedPinLaw", "pair", "([I[III)Z"⟩ : MethodName)) hown (mvT hZ (hw _ (List.mem_of_getElem? (i := 5) rfl))) (mvT hZ (hw _ (List.mem_of_getElem? (i := 6) rfl))) (mvT hZ (hw _ (List.mem_of_getElem? (i := 7) rfl))) (mvT hZ (hw _ (List.mem_of_getElem? (i := 8) rfl))) (by decide) (backOf (W := 0) (rm2 l Z a0 hw [] b87 b340 (0 : Int32) (2 : Int32) n v85 fa338 g340 0 2 T340.heap n0 f343 Vr340 hnn (by decide) (by decide) (by decide)) hZ (hw _ (List.mem_of_getElem? (i := 8) rfl)) (hw _ (List.mem_of_getElem? (i := 7) rfl)) (by decide) (by decide)) (g := (mkF m 122 #[.val (.int p0), .val (.int p1), .val (.int p2), .val (.int p3), .val (.int p4), .val (.int v85), .val (.ref b87), .val (.ref b340), .unset, .unset] [(.int (2 : Int32)), (.int (0 : Int32)), (.ref b340), (.ref b87)])) rfl (by rw [hml]; rfl) (argsL := [(.ref b87), (.ref b340), (.int (0 : Int32)), (.int (2 : Int32))]) (rest := []) (lenOf pd_1 rfl) rfl (by show 2 * 0 + _ ≤ _; exact Nat.le_of_eq rfl) (hb hby at_122) (fun _ _ => ⟨rfl, eq344, (by decide : 3 + 0 ≤ _), (by decide : 12 + 0 ≤ _)⟩)
      dsimp only [Pt.U, Pt.locs, Pt.cells, Pt.slots] at X347 l347 y347 z347 st347 hQ347
      subst l347 y347 z347
      obtain ⟨rfl, Nq347, eq347⟩ := hQ347
      have N347 := Fr.app N344 Nq347
      have hc125_349 : ¬ ((if 2 < n then (if ((fa338 0 = fa338 2) ↔ (g340 0 = g340 2)) then (1 : Int32) else (0 : Int32)) else (1 : Int32)) = (0 : Int32)) := (by rw [if_neg (by omega : ¬ 2 < n)]; decide)
      obtain ⟨_, _, ⟨T350, L350, kc350, nc350⟩, -, X350, ⟨Lc350, hQ350, l350, y350, z350⟩, st350⟩ := Jvm.LawKit.callS X347 hx (y := (⟨"com/example/coterie/coterie/methods/CommunitiesRenumberedPinLaw", "pair", "([I[III)Z"⟩ : MethodName)) hown (mvT hZ (hw _ (List.mem_of_getElem? (i := 5) rfl))) (mvT hZ (hw _ (List.mem_of_getElem? (i := 6) rfl))) (mvT hZ (hw _ (List.mem_of_getElem? (i := 7) rfl))) (mvT hZ (hw _ (List.mem_of_getElem? (i := 8) rfl))) (by decide) (backOf (W := 0) (rm2 l Z a0 hw [] b87 b340 (0 : Int32) (3 : Int32) n v85 fa338 g340 0 3 T340.heap n0 f343 Vr340 hnn (by decide) (by decide) (by decide)) hZ (hw _ (List.mem_of_getElem? (i := 8) rfl)) (hw _ (List.mem_of_getElem? (i := 7) rfl)) (by decide) (by decide)) (g := (mkF m 134 #[.val (.int p0), .val (.int p1), .val (.int p2), .val (.int p3), .val (.int p4), .val (.int v85), .val (.ref b87), .val (.ref b340), .unset, .unset] [(.int (3 : Int32)), (.int (0 : Int32)), (.ref b340), (.ref b87)])) rfl (by rw [hml]; rfl) (argsL := [(.ref b87), (.ref b340), (.int (0 : Int32)), (.int (3 : Int32))]) (rest := []) (lenOf pd_1 rfl) rfl (by show 2 * 0 + _ ≤ _; exact Nat.le_of_eq rfl) (hb hby at_134) (fun _ _ => ⟨rfl, eq347, (by decide : 3 + 0 ≤ _), (by decide : 12 + 0 ≤ _)⟩)
      dsimp only [Pt.U, Pt.locs, Pt.cells, Pt.slots] at X350 l350 y350 z350 st350 hQ350
      subst l350 y350 z350
      obtain ⟨rfl, Nq350, eq350⟩ := hQ350
      have N350 := Fr.app N347 Nq350
      have hc137_352 : ¬ ((if 3 < n then (if ((fa338 0 = fa338 3) ↔ (g340 0 = g340 3)) then (1 : Int32) else (0 : Int32)) else (1 : Int32)) = (0 : Int32)) := (by rw [if_neg (by omega : ¬ 3 < n)]; decide)
      obtain ⟨_, _, ⟨T353, L353, kc353, nc353⟩, -, X353, ⟨Lc353, hQ353, l353, y353, z353⟩, st353⟩ := Jvm.LawKit.callS X350 hx (y := (⟨"com/example/coterie/coterie/methods/CommunitiesRenumberedPinLaw", "pair", "([I[III)Z"⟩ : MethodName)) hown (mvT hZ (hw _ (List.mem_of_getElem? (i := 5) rfl))) (mvT hZ (hw _ (List.mem_of_getElem? (i := 6) rfl))) (mvT hZ (hw _ (List.mem_of_getElem? (i := 7) rfl))) (mvT hZ (hw _ (List.mem_of_getElem? (i := 8) rfl))) (by decide) (backOf (W := 0) (rm2 l Z a0 hw [] b87 b340 (1 : Int32) (2 : Int32) n v85 fa338 g340 1 2 T340.heap n0 f343 Vr340 hnn (by decide) (by decide) (by decide)) hZ (hw _ (List.mem_of_getElem? (i := 8) rfl)) (hw _ (List.mem_of_getElem? (i := 7) rfl)) (by decide) (by decide)) (g := (mkF m 146 #[.val (.int p0), .val (.int p1), .val (.int p2), .val (.int p3), .val (.int p4), .val (.int v85), .val (.ref b87), .val (.ref b340), .unset, .unset] [(.int (2 : Int32)), (.int (1 : Int32)), (.ref b340), (.ref b87)])) rfl (by rw [hml]; rfl) (argsL := [(.ref b87), (.ref b340), (.int (1 : Int32)), (.int (2 : Int32))]) (rest := []) (lenOf pd_1 rfl) rfl (by show 2 * 0 + _ ≤ _; exact Nat.le_of_eq rfl) (hb hby at_146) (fun _ _ => ⟨rfl, eq350, (by decide : 3 + 0 ≤ _), (by decide : 12 + 0 ≤ _)⟩)
      dsimp only [Pt.U, Pt.locs, Pt.cells, Pt.slots] at X353 l353 y353 z353 st353 hQ353
      subst l353 y353 z353
      obtain ⟨rfl, Nq353, eq353⟩ := hQ353
      have N353 := Fr.app N350 Nq353
      have hc149_355 : ¬ ((if 2 < n then (if ((fa338 1 = fa338 2) ↔ (g340 1 = g340 2)) then (1 : Int32) else (0 : Int32)) else (1 : Int32)) = (0 : Int32)) := (by rw [if_neg (by omega : ¬ 2 < n)]; decide)
      obtain ⟨_, _, ⟨T356, L356, kc356, nc356⟩, -, X356, ⟨Lc356, hQ356, l356, y356, z356⟩, st356⟩ := Jvm.LawKit.callS X353 hx (y := (⟨"com/example/coterie/coterie/methods/CommunitiesRenumberedPinLaw", "pair", "([I[III)Z"⟩ : MethodName)) hown (mvT hZ (hw _ (List.mem_of_getElem? (i := 5) rfl))) (mvT hZ (hw _ (List.mem_of_getElem? (i := 6) rfl))) (mvT hZ (hw _ (List.mem_of_getElem? (i := 7) rfl))) (mvT hZ (hw _ (List.mem_of_getElem? (i := 8) rfl))) (by decide) (backOf (W := 0) (rm2 l Z a0 hw [] b87 b340 (1 : Int32) (3 : Int32) n v85 fa338 g340 1 3 T340.heap n0 f343 Vr340 hnn (by decide) (by decide) (by decide)) hZ (hw _ (List.mem_of_getElem? (i := 8) rfl)) (hw _ (List.mem_of_getElem? (i := 7) rfl)) (by decide) (by decide)) (g := (mkF m 158 #[.val (.int p0), .val (.int p1), .val (.int p2), .val (.int p3), .val (.int p4), .val (.int v85), .val (.ref b87), .val (.ref b340), .unset, .unset] [(.int (3 : Int32)), (.int (1 : Int32)), (.ref b340), (.ref b87)])) rfl (by rw [hml]; rfl) (argsL := [(.ref b87), (.ref b340), (.int (1 : Int32)), (.int (3 : Int32))]) (rest := []) (lenOf pd_1 rfl) rfl (by show 2 * 0 + _ ≤ _; exact Nat.le_of_eq rfl) (hb hby at_158) (fun _ _ => ⟨rfl, eq353, (by decide : 3 + 0 ≤ _), (by decide : 12 + 0 ≤ _)⟩)
      dsimp only [Pt.U, Pt.locs, Pt.cells, Pt.slots] at X356 l356 y356 z356 st356 hQ356
      subst l356 y356 z356
      obtain ⟨rfl, Nq356, eq356⟩ := hQ356
      have N356 := Fr.app N353 Nq356
      have hc161_358 : ¬ ((if 3 < n then (if ((fa338 1 = fa338 3) ↔ (g340 1 = g340 3)) then (1 : Int32) else (0 : Int32)) else (1 : Int32)) = (0 : Int32)) := (by rw [if_neg (by omega : ¬ 3 < n)]; decide)
      obtain ⟨_, _, ⟨T359, L359, kc359, nc359⟩, -, X359, ⟨Lc359, hQ359, l359, y359, z359⟩, st359⟩ := Jvm.LawKit.callS X356 hx (y := (⟨"com/example/coterie/coterie/methods/CommunitiesRenumberedPinLaw", "pair", "([I[III)Z"⟩ : MethodName)) hown (mvT hZ (hw _ (List.mem_of_getElem? (i := 5) rfl))) (mvT hZ (hw _ (List.mem_of_getElem? (i := 6) rfl))) (mvT hZ (hw _ (List.mem_of_getElem? (i := 7) rfl))) (mvT hZ (hw _ (List.mem_of_getElem? (i := 8) rfl))) (by decide) (backOf (W := 0) (rm2 l Z a0 hw [] b87 b340 (2 : Int32) (3 : Int32) n v85 fa338 g340 2 3 T340.heap n0 f343 Vr340 hnn (by decide) (by decide) (by decide)) hZ (hw _ (List.mem_of_getElem? (i := 8) rfl)) (hw _ (List.mem_of_getElem? (i := 7) rfl)) (by decide) (by decide)) (g := (mkF m 170 #[.val (.int p0), .val (.int p1), .val (.int p2), .val (.int p3), .val (.int p4), .val (.int v85), .val (.ref b87), .val (.ref b340), .unset, .unset] [(.int (3 : Int32)), (.int (2 : Int32)), (.ref b340), (.ref b87)])) rfl (by rw [hml]; rfl) (argsL := [(.ref b87), (.ref b340), (.int (2 : Int32)), (.int (3 : Int32))]) (rest := []) (lenOf pd_1 rfl) rfl (by show 2 * 0 + _ ≤ _; exact Nat.le_of_eq rfl) (hb hby at_170) (fun _ _ => ⟨rfl, eq356, (by decide : 3 + 0 ≤ _), (by decide : 12 + 0 ≤ _)⟩)
      dsimp only [Pt.U, Pt.locs, Pt.cells, Pt.slots] at X359 l359 y359 z359 st359 hQ359
      subst l359 y359 z359
      obtain ⟨rfl, Nq359, eq359⟩ := hQ359
      have N359 := Fr.app N356 Nq359
      have hc173_361 : ¬ ((if 3 < n then (if ((fa338 2 = fa338 3) ↔ (g340 2 = g340 3)) then (1 : Int32) else (0 : Int32)) else (1 : Int32)) = (0 : Int32)) := (by rw [if_neg (by omega : ¬ 3 < n)]; decide)
      have hc187_364 : (g340 0) = (0 : Int32) := (by
          have ar362 := rng32 (g340 0)
          have ar363 : (0 : Int32).toInt = 0 := by decide
          exact Int32.toInt_inj.mp (by omega))
      have k365 : ∀ tg_, Steps p.tables e below (T359.setTop (mkF m 297 #[.val (.int p0), .val (.int p1), .val (.int p2), .val (.int p3), .val (.int p4), .val (.int v85), .val (.ref b87), .val (.ref b340), .unset, .unset] [(.int (1 : Int32))])) tg_ → Steps p.tables e below (s₁.setTop (entryFrame m #[(.int p0), (.int p1), (.int p2), (.int p3), (.int p4)] maxLocals)) tg_ := by
        intro tg_ kt
        refine k341 tg_ ?_
        refine XS.aload X340.here hx rfl (hb hby at_89) rfl rfl ?_
        show Steps p.tables e below (T340.setTop (mkF m 91 #[.val (.int p0), .val (.int p1), .val (.int p2), .val (.int p3), .val (.int p4), .val (.int v85), .val (.ref b87), .val (.ref b340), .unset, .unset] [(.ref b340)])) _
        refine XS.ifnullNo X340.here hx rfl (hb hby at_91) rfl ?_
        show Steps p.tables e below (T340.setTop (mkF m 94 #[.val (.int p0), .val (.int p1), .val (.int p2), .val (.int p3), .val (.int p4), .val (.int v85), .val (.ref b87), .val (.ref b340), .unset, .unset] [])) _
        refine XS.aload X340.here hx rfl (hb hby at_94) rfl rfl ?_
        show Steps p.tables e below (T340.setTop (mkF m 96 #[.val (.int p0), .val (.int p1), .val (.int p2), .val (.int p3), .val (.int p4), .val (.int v85), .val (.ref b87), .val (.ref b340), .unset, .unset] [(.ref b340)])) _
        refine own_len X340 hx hZ rfl Vr340 (z := v85) hnn (g := (mkF m 96 #[.val (.int p0), .val (.int p1), .val (.int p2), .val (.int p3), .val (.int p4), .val (.int v85), .val (.ref b87), .val (.ref b340), .unset, .unset] [(.ref b340)])) rfl rfl (hb hby at_96) _ ?_
        show Steps p.tables e below (T340.setTop (mkF m 97 #[.val (.int p0), .val (.int p1), .val (.int p2), .val (.int p3), .val (.int p4), .val (.int v85), .val (.ref b87), .val (.ref b340), .unset, .unset] [(.int v85)])) _
        refine XS.iload X340.here hx rfl (hb hby at_97) rfl ?_
        show Steps p.tables e below (T340.setTop (mkF m 99 #[.val (.int p0), .val (.int p1), .val (.int p2), .val (.int p3), .val (.int p4), .val (.int v85), .val (.ref b87), .val (.ref b340), .unset, .unset] [(.int v85), (.int v85)])) _
        refine XS.icmpYes X340.here hx rfl (pc0 := 99) (pc' := 104) rfl (hb hby at_99) rfl (teq hc99_342).1 (by decide) (by decide) ?_
        show Steps p.tables e below (T340.setTop (mkF m 104 #[.val (.int p0), .val (.int p1), .val (.int p2), .val (.int p3), .val (.int p4), .val (.int v85), .val (.ref b87), .val (.ref b340), .unset, .unset] [])) _
        refine XS.aload X340.here hx rfl (hb hby at_104) rfl rfl ?_
        show Steps p.tables e below (T340.setTop (mkF m 106 #[.val (.int p0), .val (.int p1), .val (.int p2), .val (.int p3), .val (.int p4), .val (.int v85), .val (.ref b87), .val (.ref b340), .unset, .unset] [(.ref b87)])) _
        refine XS.aload X340.here hx rfl (hb hby at_106) rfl rfl ?_
        show Steps p.tables e below (T340.setTop (mkF m 108 #[.val (.int p0), .val (.int p1), .val (.int p2), .val (.int p3), .val (.int p4), .val (.int v85), .val (.ref b87), .val (.ref b340), .unset, .unset] [(.ref b340), (.ref b87)])) _
        refine XS.iconst X340.here hx rfl (hb hby at_108) ?_
        show Steps p.tables e below (T340.setTop (mkF m 109 #[.val (.int p0), .val (.int p1), .val (.int p2), .val (.int p3), .val (.int p4), .val (.int v85), .val (.ref b87), .val (.ref b340), .unset, .unset] [(.int (0 : Int32)), (.ref b340), (.ref b87)])) _
        refine XS.iconst X340.here hx rfl (hb hby at_109) ?_
        show Steps p.tables e below (T340.setTop (mkF m 110 #[.val (.int p0), .val (.int p1), .val (.int p2), .val (.int p3), .val (.int p4), .val (.int v85), .val (.ref b87), .val (.ref b340), .unset, .unset] [(.int (1 : Int32)), (.int (0 : Int32)), (.ref b340), (.ref b87)])) _
        refine st344 _ ?_
        show Steps p.tables e below (T344.setTop (mkF m 113 #[.val (.int p0), .val (.int p1), .val (.int p2), .val (.int p3), .val (.int p4), .val (.int v85), .val (.ref b87), .val (.ref b340), .unset, .unset] [(.int (if 1 < n then (if ((fa338 0 = fa338 1) ↔ (g340 0 = g340 1)) then (1 : Int32) else (0 : Int32)) else (1 : Int32)))])) _
        refine XS.ifNo X344.here hx rfl (hb hby at_113) rfl ((if0 _ _).trans (feq hc113_346).1) ?_
        show Steps p.tables e below (T344.setTop (mkF m 116 #[.val (.int p0), .val (.int p1), .val (.int p2), .val (.int p3), .val (.int p4), .val (.int v85), .val (.ref b87), .val (.ref b340), .unset, .unset] [])) _
        refine XS.aload X344.here hx rfl (hb hby at_116) rfl rfl ?_
        show Steps p.tables e below (T344.setTop (mkF m 118 #[.val (.int p0), .val (.int p1), .val (.int p2), .val (.int p3), .val (.int p4), .val (.int v85), .val (.ref b87), .val (.ref b340), .unset, .unset] [(.ref b87)])) _
        refine XS.aload X344.here hx rfl (hb hby at_118) rfl rfl ?_
        show Steps p.tables e below (T344.setTop (mkF m 120 #[.val (.int p0), .val (.int p1), .val (.int p2), .val (.int p3), .val (.int p4), .val (.int v85), .val (.ref b87), .val (.ref b340), .unset, .unset] [(.ref b340), (.ref b87)])) _
        refine XS.iconst X344.here hx rfl (hb hby at_120) ?_
        show Steps p.tables e below (T344.setTop (mkF m 121 #[.val (.int p0), .val (.int p1), .val (.int p2), .val (.int p3), .val (.int p4), .val (.int v85), .val (.ref b87), .val (.ref b340), .unset, .unset] [(.int (0 : Int32)), (.ref b340), (.ref b87)])) _
        refine XS.iconst X344.here hx rfl (hb hby at_121) ?_
        show Steps p.tables e below (T344.setTop (mkF m 122 #[.val (.int p0), .val (.int p1), .val (.int p2), .val (.int p3), .val (.int p4), .val (.int v85), .val (.ref b87), .val (.ref b340), .unset, .unset] [(.int (2 : Int32)), (.int (0 : Int32)), (.ref b340), (.ref b87)])) _
        refine st347 _ ?_
        show Steps p.tables e below (T347.setTop (mkF m 125 #[.val (.int p0), .val (.int p1), .val (.int p2), .val (.int p3), .val (.int p4), .val (.int v85), .val (.ref b87), .val (.ref b340), .unset, .unset] [(.int (if 2 < n then (if ((fa338 0 = fa338 2) ↔ (g340 0 = g340 2)) then (1 : Int32) else (0 : Int32)) else (1 : Int32)))])) _
        refine XS.ifNo X347.here hx rfl (hb hby at_125) rfl ((if0 _ _).trans (feq hc125_349).1) ?_
        show Steps p.tables e below (T347.setTop (mkF m 128 #[.val (.int p0), .val (.int p1), .val (.int p2), .val (.int p3), .val (.int p4), .val (.int v85), .val (.ref b87), .val (.ref b340), .unset, .unset] [])) _
        refine XS.aload X347.here hx rfl (hb hby at_128) rfl rfl ?_
        show Steps p.tables e below (T347.setTop (mkF m 130 #[.val (.int p0), .val (.int p1), .val (.int p2), .val (.int p3), .val (.int p4), .val (.int v85), .val (.ref b87), .val (.ref b340), .unset, .unset] [(.ref b87)])) _
        refine XS.aload X347.here hx rfl (hb hby at_130) rfl rfl ?_
        show Steps p.tables e below (T347.setTop (mkF m 132 #[.val (.int p0), .val (.int p1), .val (.int p2), .val (.int p3), .val (.int p4), .val (.int v85), .val (.ref b87), .val (.ref b340), .unset, .unset] [(.ref b340), (.ref b87)])) _
        refine XS.iconst X347.here hx rfl (hb hby at_132) ?_
        show Steps p.tables e below (T347.setTop (mkF m 133 #[.val (.int p0), .val (.int p1), .val (.int p2), .val (.int p3), .val (.int p4), .val (.int v85), .val (.ref b87), .val (.ref b340), .unset, .unset] [(.int (0 : Int32)), (.ref b340), (.ref b87)])) _
        refine XS.iconst X347.here hx rfl (hb hby at_133) ?_
        show Steps p.tables e below (T347.setTop (mkF m 134 #[.val (.int p0), .val (.int p1), .val (.int p2), .val (.int p3), .val (.int p4), .val (.int v85), .val (.ref b87), .val (.ref b340), .unset, .unset] [(.int (3 : Int32)), (.int (0 : Int32)), (.ref b340), (.ref b87)])) _
        refine st350 _ ?_
        show Steps p.tables e below (T350.setTop (mkF m 137 #[.val (.int p0), .val (.int p1), .val (.int p2), .val (.int p3), .val (.int p4), .val (.int v85), .val (.ref b87), .val (.ref b340), .unset, .unset] [(.int (if 3 < n then (if ((fa338 0 = fa338 3) ↔ (g340 0 = g340 3)) then (1 : Int32) else (0 : Int32)) else (1 : Int32)))])) _
        refine XS.ifNo X350.here hx rfl (hb hby at_137) rfl ((if0 _ _).trans (feq hc137_352).1) ?_
        show Steps p.tables e below (T350.setTop (mkF m 140 #[.val (.int p0), .val (.int p1), .val (.int p2), .val (.int p3), .val (.int p4), .val (.int v85), .val (.ref b87), .val (.ref b340), .unset, .unset] [])) _
        refine XS.aload X350.here hx rfl (hb hby at_140) rfl rfl ?_
        show Steps p.tables e below (T350.setTop (mkF m 142 #[.val (.int p0), .val (.int p1), .val (.int p2), .val (.int p3), .val (.int p4), .val (.int v85), .val (.ref b87), .val (.ref b340), .unset, .unset] [(.ref b87)])) _
        refine XS.aload X350.here hx rfl (hb hby at_142) rfl rfl ?_
        show Steps p.tables e below (T350.setTop (mkF m 144 #[.val (.int p0), .val (.int p1), .val (.int p2), .val (.int p3), .val (.int p4), .val (.int v85), .val (.ref b87), .val (.ref b340), .unset, .unset] [(.ref b340), (.ref b87)])) _
        refine XS.iconst X350.here hx rfl (hb hby at_144) ?_
        show Steps p.tables e below (T350.setTop (mkF m 145 #[.val (.int p0), .val (.int p1), .val (.int p2), .val (.int p3), .val (.int p4), .val (.int v85), .val (.ref b87), .val (.ref b340), .unset, .unset] [(.int (1 : Int32)), (.ref b340), (.ref b87)])) _
        refine XS.iconst X350.here hx rfl (hb hby at_145) ?_
        show Steps p.tables e below (T350.setTop (mkF m 146 #[.val (.int p0), .val (.int p1), .val (.int p2), .val (.int p3), .val (.int p4), .val (.int v85), .val (.ref b87), .val (.ref b340), .unset, .unset] [(.int (2 : Int32)), (.int (1 : Int32)), (.ref b340), (.ref b87)])) _
        refine st353 _ ?_
        show Steps p.tables e below (T353.setTop (mkF m 149 #[.val (.int p0), .val (.int p1), .val (.int p2), .val (.int p3), .val (.int p4), .val (.int v85), .val (.ref b87), .val (.ref b340), .unset, .unset] [(.int (if 2 < n then (if ((fa338 1 = fa338 2) ↔ (g340 1 = g340 2)) then (1 : Int32) else (0 : Int32)) else (1 : Int32)))])) _
        refine XS.ifNo X353.here hx rfl (hb hby at_149) rfl ((if0 _ _).trans (feq hc149_355).1) ?_
        show Steps p.tables e below (T353.setTop (mkF m 152 #[.val (.int p0), .val (.int p1), .val (.int p2), .val (.int p3), .val (.int p4), .val (.int v85), .val (.ref b87), .val (.ref b340), .unset, .unset] [])) _
        refine XS.aload X353.here hx rfl (hb hby at_152) rfl rfl ?_
        show Steps p.tables e below (T353.setTop (mkF m 154 #[.val (.int p0), .val (.int p1), .val (.int p2), .val (.int p3), .val (.int p4), .val (.int v85), .val (.ref b87), .val (.ref b340), .unset, .unset] [(.ref b87)])) _
        refine XS.aload X353.here hx rfl (hb hby at_154) rfl rfl ?_
        show Steps p.tables e below (T353.setTop (mkF m 156 #[.val (.int p0), .val (.int p1), .val (.int p2), .val (.int p3), .val (.int p4), .val (.int v85), .val (.ref b87), .val (.ref b340), .unset, .unset] [(.ref b340), (.ref b87)])) _
        refine XS.iconst X353.here hx rfl (hb hby at_156) ?_
        show Steps p.tables e below (T353.setTop (mkF m 157 #[.val (.int p0), .val (.int p1), .val (.int p2), .val (.int p3), .val (.int p4), .val (.int v85), .val (.ref b87), .val (.ref b340), .unset, .unset] [(.int (1 : Int32)), (.ref b340), (.ref b87)])) _
        refine XS.iconst X353.here hx rfl (hb hby at_157) ?_
        show Steps p.tables e below (T353.setTop (mkF m 158 #[.val (.int p0), .val (.int p1), .val (.int p2), .val (.int p3), .val (.int p4), .val (.int v85), .val (.ref b87), .val (.ref b340), .unset, .unset] [(.int (3 : Int32)), (.int (1 : Int32)), (.ref b340), (.ref b87)])) _
        refine st356 _ ?_
        show Steps p.tables e below (T356.setTop (mkF m 161 #[.val (.int p0), .val (.int p1), .val (.int p2), .val (.int p3), .val (.int p4), .val (.int v85), .val (.ref b87), .val (.ref b340), .unset, .unset] [(.int (if 3 < n then (if ((fa338 1 = fa338 3) ↔ (g340 1 = g340 3)) then (1 : Int32) else (0 : Int32)) else (1 : Int32)))])) _
        refine XS.ifNo X356.here hx rfl (hb hby at_161) rfl ((if0 _ _).trans (feq hc161_358).1) ?_
        show Steps p.tables e below (T356.setTop (mkF m 164 #[.val (.int p0), .val (.int p1), .val (.int p2), .val (.int p3), .val (.int p4), .val (.int v85), .val (.ref b87), .val (.ref b340), .unset, .unset] [])) _
        refine XS.aload X356.here hx rfl (hb hby at_164) rfl rfl ?_
        show Steps p.tables e below (T356.setTop (mkF m 166 #[.val (.int p0), .val (.int p1), .val (.int p2), .val (.int p3), .val (.int p4), .val (.int v85), .val (.ref b87), .val (.ref b340), .unset, .unset] [(.ref b87)])) _
        refine XS.aload X356.here hx rfl (hb hby at_166) rfl rfl ?_
        show Steps p.tables e below (T356.setTop (mkF m 168 #[.val (.int p0), .val (.int p1), .val (.int p2), .val (.int p3), .val (.int p4), .val (.int v85), .val (.ref b87), .val (.ref b340), .unset, .unset] [(.ref b340), (.ref b87)])) _
        refine XS.iconst X356.here hx rfl (hb hby at_168) ?_
        show Steps p.tables e below (T356.setTop (mkF m 169 #[.val (.int p0), .val (.int p1), .val (.int p2), .val (.int p3), .val (.int p4), .val (.int v85), .val (.ref b87), .val (.ref b340), .unset, .unset] [(.int (2 : Int32)), (.ref b340), (.ref b87)])) _
        refine XS.iconst X356.here hx rfl (hb hby at_169) ?_
        show Steps p.tables e below (T356.setTop (mkF m 170 #[.val (.int p0), .val (.int p1), .val (.int p2), .val (.int p3), .val (.int p4), .val (.int v85), .val (.ref b87), .val (.ref b340), .unset, .unset] [(.int (3 : Int32)), (.int (2 : Int32)), (.ref b340), (.ref b87)])) _
        refine st359 _ ?_
        show Steps p.tables e below (T359.setTop (mkF m 173 #[.val (.int p0), .val (.int p1), .val (.int p2), .val (.int p3), .val (.int p4), .val (.int v85), .val (.ref b87), .val (.ref b340), .unset, .unset] [(.int (if 3 < n then (if ((fa338 2 = fa338 3) ↔ (g340 2 = g340 3)) then (1 : Int32) else (0 : Int32)) else (1 : Int32)))])) _
        refine XS.ifYes X359.here hx rfl (pc0 := 173) (pc' := 178) rfl (hb hby at_173) rfl ((if0 _ _).trans (feq hc173_361).2) (by decide) (by decide) ?_
        show Steps p.tables e below (T359.setTop (mkF m 178 #[.val (.int p0), .val (.int p1), .val (.int p2), .val (.int p3), .val (.int p4), .val (.int v85), .val (.ref b87), .val (.ref b340), .unset, .unset] [])) _
        refine XS.iload X359.here hx rfl (hb hby at_178) rfl ?_
        show Steps p.tables e below (T359.setTop (mkF m 180 #[.val (.int p0), .val (.int p1), .val (.int p2), .val (.int p3), .val (.int p4), .val (.int v85), .val (.ref b87), .val (.ref b340), .unset, .unset] [(.int v85)])) _
        refine XS.ifNo X359.here hx rfl (hb hby at_180) rfl ((if0 _ _).trans (tlt hc16_89).2.2.2) ?_
        show Steps p.tables e below (T359.setTop (mkF m 183 #[.val (.int p0), .val (.int p1), .val (.int p2), .val (.int p3), .val (.int p4), .val (.int v85), .val (.ref b87), .val (.ref b340), .unset, .unset] [])) _
        refine XS.aload X359.here hx rfl (hb hby at_183) rfl rfl ?_
        show Steps p.tables e below (T359.setTop (mkF m 185 #[.val (.int p0), .val (.int p1), .val (.int p2), .val (.int p3), .val (.int p4), .val (.int v85), .val (.ref b87), .val (.ref b340), .unset, .unset] [(.ref b340)])) _
        refine XS.iconst X359.here hx rfl (hb hby at_185) ?_
        show Steps p.tables e below (T359.setTop (mkF m 186 #[.val (.int p0), .val (.int p1), .val (.int p2), .val (.int p3), .val (.int p4), .val (.int v85), .val (.ref b87), .val (.ref b340), .unset, .unset] [(.int (0 : Int32)), (.ref b340)])) _
        refine own_ldI X359 hx hZ eq359 Vr340 (i := 0) (by decide : (0 : Int32).toInt = ((0 : Nat) : Int)) (by omega) rfl (g := (mkF m 186 #[.val (.int p0), .val (.int p1), .val (.int p2), .val (.int p3), .val (.int p4), .val (.int v85), .val (.ref b87), .val (.ref b340), .unset, .unset] [(.int (0 : Int32)), (.ref b340)])) rfl rfl (hb hby at_186) _ ?_
        show Steps p.tables e below (T359.setTop (mkF m 187 #[.val (.int p0), .val (.int p1), .val (.int p2), .val (.int p3), .val (.int p4), .val (.int v85), .val (.ref b87), .val (.ref b340), .unset, .unset] [(.int (g340 0))])) _
        refine XS.ifYes X359.here hx rfl (pc0 := 187) (pc' := 192) rfl (hb hby at_187) rfl ((if0 _ _).trans (teq hc187_364).1) (by decide) (by decide) ?_
        show Steps p.tables e below (T359.setTop (mkF m 192 #[.val (.int p0), .val (.int p1), .val (.int p2), .val (.int p3), .val (.int p4), .val (.int v85), .val (.ref b87), .val (.ref b340), .unset, .unset] [])) _
        refine XS.iload X359.here hx rfl (hb hby at_192) rfl ?_
        show Steps p.tables e below (T359.setTop (mkF m 194 #[.val (.int p0), .val (.int p1), .val (.int p2), .val (.int p3), .val (.int p4), .val (.int v85), .val (.ref b87), .val (.ref b340), .unset, .unset] [(.int v85)])) _
        refine XS.iconst X359.here hx rfl (hb hby at_194) ?_
        show Steps p.tables e below (T359.setTop (mkF m 195 #[.val (.int p0), .val (.int p1), .val (.int p2), .val (.int p3), .val (.int p4), .val (.int v85), .val (.ref b87), .val (.ref b340), .unset, .unset] [(.int (1 : Int32)), (.int v85)])) _
        refine XS.icmpYes X359.here hx rfl (pc0 := 195) (pc' := 220) rfl (hb hby at_195) rfl (flt hc33_96).2.2.2 (by decide) (by decide) ?_
        show Steps p.tables e below (T359.setTop (mkF m 220 #[.val (.int p0), .val (.int p1), .val (.int p2), .val (.int p3), .val (.int p4), .val (.int v85), .val (.ref b87), .val (.ref b340), .unset, .unset] [])) _
        refine XS.iload X359.here hx rfl (hb hby at_220) rfl ?_
        show Steps p.tables e below (T359.setTop (mkF m 222 #[.val (.int p0), .val (.int p1), .val (.int p2), .val (.int p3), .val (.int p4), .val (.int v85), .val (.ref b87), .val (.ref b340), .unset, .unset] [(.int v85)])) _
        refine XS.iconst X359.here hx rfl (hb hby at_222) ?_
        show Steps p.tables e below (T359.setTop (mkF m 223 #[.val (.int p0), .val (.int p1), .val (.int p2), .val (.int p3), .val (.int p4), .val (.int v85), .val (.ref b87), .val (.ref b340), .unset, .unset] [(.int (2 : Int32)), (.int v85)])) _
        refine XS.icmpYes X359.here hx rfl (pc0 := 223) (pc' := 296) rfl (hb hby at_223) rfl (flt hc50_322).2.2.2 (by decide) (by decide) ?_
        show Steps p.tables e below (T359.setTop (mkF m 296 #[.val (.int p0), .val (.int p1), .val (.int p2), .val (.int p3), .val (.int p4), .val (.int v85), .val (.ref b87), .val (.ref b340), .unset, .unset] [])) _
        refine XS.iconst X359.here hx rfl (hb hby at_296) ?_
        show Steps p.tables e below (T359.setTop (mkF m 297 #[.val (.int p0), .val (.int p1), .val (.int p2), .val (.int p3), .val (.int p4), .val (.int v85), .val (.ref b87), .val (.ref b340), .unset, .unset] [(.int (1 : Int32))])) _
        exact kt
      obtain ⟨fs, hr, hrun, hended, hW, hsame⟩ := X359.leave (v := some (.int (1 : Int32))) (fun h => by rw [Bd.returns] at h; cases h)
      refine ⟨_, _, k365 _ (retN X359 hx (t := .boolean) Bd.returns (by simp) (hb hby at_297) hr), hrun, hended, _, _, rfl, ?_, ⟨_, rfl⟩, hW, hsame.mono (by decide) (by decide)⟩
      show Q0 Z p0 p1 p2 p3 p4 h0 n0 _ T359.heap _
      rw [eq359]
      exact ⟨rfl, N359⟩
  · have hc33_370 : ¬ ((1 : Int32) < v85) := (by
        have ar366 : (0 : Int32).toInt = 0 := by decide
        have ar367 := rng32 v85
        have ar368 : ¬ ((0 : Int32).toInt < v85.toInt) := fun qq_ => hc16_89 (Int32.lt_iff_toInt_lt.mpr qq_)
        have ar369 : (1 : Int32).toInt = 1 := by decide
        exact fun qq_ => absurd (Int32.lt_iff_toInt_lt.mp qq_) (by omega))
    have hc50_375 : ¬ ((2 : Int32) < v85) := (by
        have ar371 : (0 : Int32).toInt = 0 := by decide
        have ar372 := rng32 v85
        have ar373 : ¬ ((0 : Int32).toInt < v85.toInt) := fun qq_ => hc16_89 (Int32.lt_iff_toInt_lt.mpr qq_)
        have ar374 : (2 : Int32).toInt = 2 := by decide
        exact fun qq_ => absurd (Int32.lt_iff_toInt_lt.mp qq_) (by omega))
    have hc67_380 : ¬ ((3 : Int32) < v85) := (by
        have ar376 : (0 : Int32).toInt = 0 := by decide
        have ar377 := rng32 v85
        have ar378 : ¬ ((0 : Int32).toInt < v85.toInt) := fun qq_ => hc16_89 (Int32.lt_iff_toInt_lt.mpr qq_)
        have ar379 : (3 : Int32).toInt = 3 := by decide
        exact fun qq_ => absurd (Int32.lt_iff_toInt_lt.mp qq_) (by omega))
    have k381 : ∀ tg_, Steps p.tables e below (T87.setTop (mkF m 82 #[.val (.int p0), .val (.int p1), .val (.int p2), .val (.int p3), .val (.int p4), .val (.int v85), .val (.ref b87), .unset, .unset, .unset] [])) tg_ → Steps p.tables e below (s₁.setTop (entryFrame m #[(.int p0), (.int p1), (.int p2), (.int p3), (.int p4)] maxLocals)) tg_ := by
      intro tg_ kt
      refine k88 tg_ ?_
      refine XS.ifYes X87.here hx rfl (pc0 := 16) (pc' := 30) rfl (hb hby at_16) rfl ((if0 _ _).trans (flt hc16_89).2.2.2) (by decide) (by decide) ?_
      show Steps p.tables e below (T87.setTop (mkF m 30 #[.val (.int p0), .val (.int p1), .val (.int p2), .val (.int p3), .val (.int p4), .val (.int v85), .val (.ref b87), .unset, .unset, .unset] [])) _
      refine XS.iload X87.here hx rfl (hb hby at_30) rfl ?_
      show Steps p.tables e below (T87.setTop (mkF m 32 #[.val (.int p0), .val (.int p1), .val (.int p2), .val (.int p3), .val (.int p4), .val (.int v85), .val (.ref b87), .unset, .unset, .unset] [(.int v85)])) _
      refine XS.iconst X87.here hx rfl (hb hby at_32) ?_
      show Steps p.tables e below (T87.setTop (mkF m 33 #[.val (.int p0), .val (.int p1), .val (.int p2), .val (.int p3), .val (.int p4), .val (.int v85), .val (.ref b87), .unset, .unset, .unset] [(.int (1 : Int32)), (.int v85)])) _
      refine XS.icmpYes X87.here hx rfl (pc0 := 33) (pc' := 47) rfl (hb hby at_33) rfl (flt hc33_370).2.2.2 (by decide) (by decide) ?_
      show Steps p.tables e below (T87.setTop (mkF m 47 #[.val (.int p0), .val (.int p1), .val (.int p2), .val (.int p3), .val (.int p4), .val (.int v85), .val (.ref b87), .unset, .unset, .unset] [])) _
      refine XS.iload X87.here hx rfl (hb hby at_47) rfl ?_
      show Steps p.tables e below (T87.setTop (mkF m 49 #[.val (.int p0), .val (.int p1), .val (.int p2), .val (.int p3), .val (.int p4), .val (.int v85), .val (.ref b87), .unset, .unset, .unset] [(.int v85)])) _
      refine XS.iconst X87.here hx rfl (hb hby at_49) ?_
      show Steps p.tables e below (T87.setTop (mkF m 50 #[.val (.int p0), .val (.int p1), .val (.int p2), .val (.int p3), .val (.int p4), .val (.int v85), .val (.ref b87), .unset, .unset, .unset] [(.int (2 : Int32)), (.int v85)])) _
      refine XS.icmpYes X87.here hx rfl (pc0 := 50) (pc' := 64) rfl (hb hby at_50) rfl (flt hc50_375).2.2.2 (by decide) (by decide) ?_
      show Steps p.tables e below (T87.setTop (mkF m 64 #[.val (.int p0), .val (.int p1), .val (.int p2), .val (.int p3), .val (.int p4), .val (.int v85), .val (.ref b87), .unset, .unset, .unset] [])) _
      refine XS.iload X87.here hx rfl (hb hby at_64) rfl ?_
      show Steps p.tables e below (T87.setTop (mkF m 66 #[.val (.int p0), .val (.int p1), .val (.int p2), .val (.int p3), .val (.int p4), .val (.int v85), .val (.ref b87), .unset, .unset, .unset] [(.int v85)])) _
      refine XS.iconst X87.here hx rfl (hb hby at_66) ?_
      show Steps p.tables e below (T87.setTop (mkF m 67 #[.val (.int p0), .val (.int p1), .val (.int p2), .val (.int p3), .val (.int p4), .val (.int v85), .val (.ref b87), .unset, .unset, .unset] [(.int (3 : Int32)), (.int v85)])) _
      refine XS.icmpYes X87.here hx rfl (pc0 := 67) (pc' := 82) rfl (hb hby at_67) rfl (flt hc67_380).2.2.2 (by decide) (by decide) ?_
      show Steps p.tables e below (T87.setTop (mkF m 82 #[.val (.int p0), .val (.int p1), .val (.int p2), .val (.int p3), .val (.int p4), .val (.int v85), .val (.ref b87), .unset, .unset, .unset] [])) _
      exact kt
    have hnc : n = 0 := by
      have ar382 : (0 : Int32).toInt = 0 := by decide
      have ar383 := rng32 v85
      have ar384 : ¬ ((0 : Int32).toInt < v85.toInt) := fun qq_ => hc16_89 (Int32.lt_iff_toInt_lt.mpr qq_)
      have ar385 : (1 : Int32).toInt = 1 := by decide
      have ar386 : ¬ ((1 : Int32).toInt < v85.toInt) := fun qq_ => hc33_370 (Int32.lt_iff_toInt_lt.mpr qq_)
      have ar387 : (2 : Int32).toInt = 2 := by decide
      have ar388 : ¬ ((2 : Int32).toInt < v85.toInt) := fun qq_ => hc50_375 (Int32.lt_iff_toInt_lt.mpr qq_)
      have ar389 : (3 : Int32).toInt = 3 := by decide
      have ar390 : ¬ ((3 : Int32).toInt < v85.toInt) := fun qq_ => hc67_380 (Int32.lt_iff_toInt_lt.mpr qq_)
      have hv := hnn
      omega
    obtain ⟨fa391, hfa391⟩ : ∃ z : Nat → Int32, z = (fun _ => 0) := ⟨_, rfl⟩
    rw [← hfa391] at V87
    obtain ⟨A, hAd⟩ : ∃ A : Nat → Nat, A = fun i => (fa391 i).toInt.toNat := ⟨_, rfl⟩
    have hA : ∀ i, i < n → (fa391 i).toInt = ((A i : Nat) : Int) ∧ A i < n := by
      intro i hi
      have hi4 : False := by omega
      exact hi4.elim
    have hfin := own_fin hn4 (fun i hi => (hA i hi).2)
    obtain ⟨hf1, hf2, hf3, hf4, hf5⟩ := hfin
    have f392 := (Nat.le_trans Z0 ((Keep.refl _ []).ext E87).1)
    obtain ⟨_, _, ⟨T393, L393, kc393, nc393⟩, -, X393, ⟨Lc393, hQ393, l393, y393, z393⟩, st393⟩ := Jvm.LawKit.callS X87 hx (y := (⟨"com/example/coterie/coterie/methods/Communities", "renumbered", "([I)[I"⟩ : MethodName)) hown (mvT hZ (hw _ (List.mem_of_getElem? (i := 1) rfl))) (mvT hZ (hw _ (List.mem_of_getElem? (i := 2) rfl))) (mvT hZ (hw _ (List.mem_of_getElem? (i := 3) rfl))) (mvT hZ (hw _ (List.mem_of_getElem? (i := 4) rfl))) (by decide) (backOf (W := 0) (rm1 l Z a0 hw [] b87 n v85 fa391 A h87 n0 f392 V87 hnn hn4 hA) hZ (hw _ (List.mem_of_getElem? (i := 4) rfl)) (hw _ (List.mem_of_getElem? (i := 3) rfl)) (by decide) (by decide)) (g := (mkF m 84 #[.val (.int p0), .val (.int p1), .val (.int p2), .val (.int p3), .val (.int p4), .val (.int v85), .val (.ref b87), .unset, .unset, .unset] [(.ref b87)])) rfl (by rw [hml]; rfl) (argsL := [(.ref b87)]) (rest := []) (lenOf pd_0 rfl) rfl (by show 2 * 0 + _ ≤ _; exact Nat.le_of_eq rfl) (hb hby at_84) (fun _ _ => ⟨rfl, e87, (by decide : 1 + 2 ≤ _), (by decide : 4 + 8 ≤ _)⟩)
    dsimp only [Pt.U, Pt.locs, Pt.cells, Pt.slots] at X393 l393 y393 z393 st393 hQ393
    subst l393 y393 z393
    obtain ⟨-, Nq393, oK393, m0_393⟩ := hQ393
    have N393 := Fr.app N0 Nq393
    obtain ⟨b393, g393, rfl, Vr393, hr393, gb393, sb393⟩ := m0_393
    have k394 : ∀ tg_, Steps p.tables e below (T393.setTop (mkF m 89 #[.val (.int p0), .val (.int p1), .val (.int p2), .val (.int p3), .val (.int p4), .val (.int v85), .val (.ref b87), .val (.ref b393), .unset, .unset] [])) tg_ → Steps p.tables e below (s₁.setTop (entryFrame m #[(.int p0), (.int p1), (.int p2), (.int p3), (.int p4)] maxLocals)) tg_ := by
      intro tg_ kt
      refine k381 tg_ ?_
      refine XS.aload X87.here hx rfl (hb hby at_82) rfl rfl ?_
      show Steps p.tables e below (T87.setTop (mkF m 84 #[.val (.int p0), .val (.int p1), .val (.int p2), .val (.int p3), .val (.int p4), .val (.int v85), .val (.ref b87), .unset, .unset, .unset] [(.ref b87)])) _
      refine st393 _ ?_
      show Steps p.tables e below (T393.setTop (mkF m 87 #[.val (.int p0), .val (.int p1), .val (.int p2), .val (.int p3), .val (.int p4), .val (.int v85), .val (.ref b87), .unset, .unset, .unset] [(.ref b393)])) _
      refine XS.astore X393.here hx rfl (hb hby at_87) rfl rfl (l' := #[.val (.int p0), .val (.int p1), .val (.int p2), .val (.int p3), .val (.int p4), .val (.int v85), .val (.ref b87), .val (.ref b393), .unset, .unset]) rfl ?_
      show Steps p.tables e below (T393.setTop (mkF m 89 #[.val (.int p0), .val (.int p1), .val (.int p2), .val (.int p3), .val (.int p4), .val (.int v85), .val (.ref b87), .val (.ref b393), .unset, .unset] [])) _
      exact kt
    have hc99_395 : v85 = v85 := rfl
    have f396 := (V87.keep oK393 nin0)
    obtain ⟨_, _, ⟨T397, L397, kc397, nc397⟩, -, X397, ⟨Lc397, hQ397, l397, y397, z397⟩, st397⟩ := Jvm.LawKit.callS X393 hx (y := (⟨"com/example/coterie/coterie/methods/CommunitiesRenumberedPinLaw", "pair", "([I[III)Z"⟩ : MethodName)) hown (mvT hZ (hw _ (List.mem_of_getElem? (i := 5) rfl))) (mvT hZ (hw _ (List.mem_of_getElem? (i := 6) rfl))) (mvT hZ (hw _ (List.mem_of_getElem? (i := 7) rfl))) (mvT hZ (hw _ (List.mem_of_getElem? (i := 8) rfl))) (by decide) (backOf (W := 0) (rm2 l Z a0 hw [] b87 b393 (0 : Int32) (1 : Int32) n v85 fa391 g393 0 1 T393.heap n0 f396 Vr393 hnn (by decide) (by decide) (by decide)) hZ (hw _ (List.mem_of_getElem? (i := 8) rfl)) (hw _ (List.mem_of_getElem? (i := 7) rfl)) (by decide) (by decide)) (g := (mkF m 110 #[.val (.int p0), .val (.int p1), .val (.int p2), .val (.int p3), .val (.int p4), .val (.int v85), .val (.ref b87), .val (.ref b393), .unset, .unset] [(.int (1 : Int32)), (.int (0 : Int32)), (.ref b393), (.ref b87)])) rfl (by rw [hml]; rfl) (argsL := [(.ref b87), (.ref b393), (.int (0 : Int32)), (.int (1 : Int32))]) (rest := []) (lenOf pd_1 rfl) rfl (by show 2 * 0 + _ ≤ _; exact Nat.le_of_eq rfl) (hb hby at_110) (fun _ _ => ⟨rfl, rfl, (by decide : 3 + 0 ≤ _), (by decide : 12 + 0 ≤ _)⟩)
    dsimp only [Pt.U, Pt.locs, Pt.cells, Pt.slots] at X397 l397 y397 z397 st397 hQ397
    subst l397 y397 z397
    obtain ⟨rfl, Nq397, eq397⟩ := hQ397
    have N397 := Fr.app N393 Nq397
    have hc113_399 : ¬ ((if 1 < n then (if ((fa391 0 = fa391 1) ↔ (g393 0 = g393 1)) then (1 : Int32) else (0 : Int32)) else (1 : Int32)) = (0 : Int32)) := (by rw [if_neg (by omega : ¬ 1 < n)]; decide)
    obtain ⟨_, _, ⟨T400, L400, kc400, nc400⟩, -, X400, ⟨Lc400, hQ400, l400, y400, z400⟩, st400⟩ := Jvm.LawKit.callS X397 hx (y := (⟨"com/example/coterie/coterie/methods/CommunitiesRenumberedPinLaw", "pair", "([I[III)Z"⟩ : MethodName)) hown (mvT hZ (hw _ (List.mem_of_getElem? (i := 5) rfl))) (mvT hZ (hw _ (List.mem_of_getElem? (i := 6) rfl))) (mvT hZ (hw _ (List.mem_of_getElem? (i := 7) rfl))) (mvT hZ (hw _ (List.mem_of_getElem? (i := 8) rfl))) (by decide) (backOf (W := 0) (rm2 l Z a0 hw [] b87 b393 (0 : Int32) (2 : Int32) n v85 fa391 g393 0 2 T393.heap n0 f396 Vr393 hnn (by decide) (by decide) (by decide)) hZ (hw _ (List.mem_of_getElem? (i := 8) rfl)) (hw _ (List.mem_of_getElem? (i := 7) rfl)) (by decide) (by decide)) (g := (mkF m 122 #[.val (.int p0), .val (.int p1), .val (.int p2), .val (.int p3), .val (.int p4), .val (.int v85), .val (.ref b87), .val (.ref b393), .unset, .unset] [(.int (2 : Int32)), (.int (0 : Int32)), (.ref b393), (.ref b87)])) rfl (by rw [hml]; rfl) (argsL := [(.ref b87), (.ref b393), (.int (0 : Int32)), (.int (2 : Int32))]) (rest := []) (lenOf pd_1 rfl) rfl (by show 2 * 0 + _ ≤ _; exact Nat.le_of_eq rfl) (hb hby at_122) (fun _ _ => ⟨rfl, eq397, (by decide : 3 + 0 ≤ _), (by decide : 12 + 0 ≤ _)⟩)
    dsimp only [Pt.U, Pt.locs, Pt.cells, Pt.slots] at X400 l400 y400 z400 st400 hQ400
    subst l400 y400 z400
    obtain ⟨rfl, Nq400, eq400⟩ := hQ400
    have N400 := Fr.app N397 Nq400
    have hc125_402 : ¬ ((if 2 < n then (if ((fa391 0 = fa391 2) ↔ (g393 0 = g393 2)) then (1 : Int32) else (0 : Int32)) else (1 : Int32)) = (0 : Int32)) := (by rw [if_neg (by omega : ¬ 2 < n)]; decide)
    obtain ⟨_, _, ⟨T403, L403, kc403, nc403⟩, -, X403, ⟨Lc403, hQ403, l403, y403, z403⟩, st403⟩ := Jvm.LawKit.callS X400 hx (y := (⟨"com/example/coterie/coterie/methods/CommunitiesRenumberedPinLaw", "pair", "([I[III)Z"⟩ : MethodName)) hown (mvT hZ (hw _ (List.mem_of_getElem? (i := 5) rfl))) (mvT hZ (hw _ (List.mem_of_getElem? (i := 6) rfl))) (mvT hZ (hw _ (List.mem_of_getElem? (i := 7) rfl))) (mvT hZ (hw _ (List.mem_of_getElem? (i := 8) rfl))) (by decide) (backOf (W := 0) (rm2 l Z a0 hw [] b87 b393 (0 : Int32) (3 : Int32) n v85 fa391 g393 0 3 T393.heap n0 f396 Vr393 hnn (by decide) (by decide) (by decide)) hZ (hw _ (List.mem_of_getElem? (i := 8) rfl)) (hw _ (List.mem_of_getElem? (i := 7) rfl)) (by decide) (by decide)) (g := (mkF m 134 #[.val (.int p0), .val (.int p1), .val (.int p2), .val (.int p3), .val (.int p4), .val (.int v85), .val (.ref b87), .val (.ref b393), .unset, .unset] [(.int (3 : Int32)), (.int (0 : Int32)), (.ref b393), (.ref b87)])) rfl (by rw [hml]; rfl) (argsL := [(.ref b87), (.ref b393), (.int (0 : Int32)), (.int (3 : Int32))]) (rest := []) (lenOf pd_1 rfl) rfl (by show 2 * 0 + _ ≤ _; exact Nat.le_of_eq rfl) (hb hby at_134) (fun _ _ => ⟨rfl, eq400, (by decide : 3 + 0 ≤ _), (by decide : 12 + 0 ≤ _)⟩)
    dsimp only [Pt.U, Pt.locs, Pt.cells, Pt.slots] at X403 l403 y403 z403 st403 hQ403
    subst l403 y403 z403
    obtain ⟨rfl, Nq403, eq403⟩ := hQ403
    have N403 := Fr.app N400 Nq403
    have hc137_405 : ¬ ((if 3 < n then (if ((fa391 0 = fa391 3) ↔ (g393 0 = g393 3)) then (1 : Int32) else (0 : Int32)) else (1 : Int32)) = (0 : Int32)) := (by rw [if_neg (by omega : ¬ 3 < n)]; decide)
    obtain ⟨_, _, ⟨T406, L406, kc406, nc406⟩, -, X406, ⟨Lc406, hQ406, l406, y406, z406⟩, st406⟩ := Jvm.LawKit.callS X403 hx (y := (⟨"com/example/coterie/coterie/methods/CommunitiesRenumberedPinLaw", "pair", "([I[III)Z"⟩ : MethodName)) hown (mvT hZ (hw _ (List.mem_of_getElem? (i := 5) rfl))) (mvT hZ (hw _ (List.mem_of_getElem? (i := 6) rfl))) (mvT hZ (hw _ (List.mem_of_getElem? (i := 7) rfl))) (mvT hZ (hw _ (List.mem_of_getElem? (i := 8) rfl))) (by decide) (backOf (W := 0) (rm2 l Z a0 hw [] b87 b393 (1 : Int32) (2 : Int32) n v85 fa391 g393 1 2 T393.heap n0 f396 Vr393 hnn (by decide) (by decide) (by decide)) hZ (hw _ (List.mem_of_getElem? (i := 8) rfl)) (hw _ (List.mem_of_getElem? (i := 7) rfl)) (by decide) (by decide)) (g := (mkF m 146 #[.val (.int p0), .val (.int p1), .val (.int p2), .val (.int p3), .val (.int p4), .val (.int v85), .val (.ref b87), .val (.ref b393), .unset, .unset] [(.int (2 : Int32)), (.int (1 : Int32)), (.ref b393), (.ref b87)])) rfl (by rw [hml]; rfl) (argsL := [(.ref b87), (.ref b393), (.int (1 : Int32)), (.int (2 : Int32))]) (rest := []) (lenOf pd_1 rfl) rfl (by show 2 * 0 + _ ≤ _; exact Nat.le_of_eq rfl) (hb hby at_146) (fun _ _ => ⟨rfl, eq403, (by decide : 3 + 0 ≤ _), (by decide : 12 + 0 ≤ _)⟩)
    dsimp only [Pt.U, Pt.locs, Pt.cells, Pt.slots] at X406 l406 y406 z406 st406 hQ406
    subst l406 y406 z406
    obtain ⟨rfl, Nq406, eq406⟩ := hQ406
    have N406 := Fr.app N403 Nq406
    have hc149_408 : ¬ ((if 2 < n then (if ((fa391 1 = fa391 2) ↔ (g393 1 = g393 2)) then (1 : Int32) else (0 : Int32)) else (1 : Int32)) = (0 : Int32)) := (by rw [if_neg (by omega : ¬ 2 < n)]; decide)
    obtain ⟨_, _, ⟨T409, L409, kc409, nc409⟩, -, X409, ⟨Lc409, hQ409, l409, y409, z409⟩, st409⟩ := Jvm.LawKit.callS X406 hx (y := (⟨"com/example/coterie/coterie/methods/CommunitiesRenumberedPinLaw", "pair", "([I[III)Z"⟩ : MethodName)) hown (mvT hZ (hw _ (List.mem_of_getElem? (i := 5) rfl))) (mvT hZ (hw _ (List.mem_of_getElem? (i := 6) rfl))) (mvT hZ (hw _ (List.mem_of_getElem? (i := 7) rfl))) (mvT hZ (hw _ (List.mem_of_getElem? (i := 8) rfl))) (by decide) (backOf (W := 0) (rm2 l Z a0 hw [] b87 b393 (1 : Int32) (3 : Int32) n v85 fa391 g393 1 3 T393.heap n0 f396 Vr393 hnn (by decide) (by decide) (by decide)) hZ (hw _ (List.mem_of_getElem? (i := 8) rfl)) (hw _ (List.mem_of_getElem? (i := 7) rfl)) (by decide) (by decide)) (g := (mkF m 158 #[.val (.int p0), .val (.int p1), .val (.int p2), .val (.int p3), .val (.int p4), .val (.int v85), .val (.ref b87), .val (.ref b393), .unset, .unset] [(.int (3 : Int32)), (.int (1 : Int32)), (.ref b393), (.ref b87)])) rfl (by rw [hml]; rfl) (argsL := [(.ref b87), (.ref b393), (.int (1 : Int32)), (.int (3 : Int32))]) (rest := []) (lenOf pd_1 rfl) rfl (by show 2 * 0 + _ ≤ _; exact Nat.le_of_eq rfl) (hb hby at_158) (fun _ _ => ⟨rfl, eq406, (by decide : 3 + 0 ≤ _), (by decide : 12 + 0 ≤ _)⟩)
    dsimp only [Pt.U, Pt.locs, Pt.cells, Pt.slots] at X409 l409 y409 z409 st409 hQ409
    subst l409 y409 z409
    obtain ⟨rfl, Nq409, eq409⟩ := hQ409
    have N409 := Fr.app N406 Nq409
    have hc161_411 : ¬ ((if 3 < n then (if ((fa391 1 = fa391 3) ↔ (g393 1 = g393 3)) then (1 : Int32) else (0 : Int32)) else (1 : Int32)) = (0 : Int32)) := (by rw [if_neg (by omega : ¬ 3 < n)]; decide)
    obtain ⟨_, _, ⟨T412, L412, kc412, nc412⟩, -, X412, ⟨Lc412, hQ412, l412, y412, z412⟩, st412⟩ := Jvm.LawKit.callS X409 hx (y := (⟨"com/example/coterie/coterie/methods/CommunitiesRenumberedPinLaw", "pair", "([I[III)Z"⟩ : MethodName)) hown (mvT hZ (hw _ (List.mem_of_getElem? (i := 5) rfl))) (mvT hZ (hw _ (List.mem_of_getElem? (i := 6) rfl))) (mvT hZ (hw _ (List.mem_of_getElem? (i := 7) rfl))) (mvT hZ (hw _ (List.mem_of_getElem? (i := 8) rfl))) (by decide) (backOf (W := 0) (rm2 l Z a0 hw [] b87 b393 (2 : Int32) (3 : Int32) n v85 fa391 g393 2 3 T393.heap n0 f396 Vr393 hnn (by decide) (by decide) (by decide)) hZ (hw _ (List.mem_of_getElem? (i := 8) rfl)) (hw _ (List.mem_of_getElem? (i := 7) rfl)) (by decide) (by decide)) (g := (mkF m 170 #[.val (.int p0), .val (.int p1), .val (.int p2), .val (.int p3), .val (.int p4), .val (.int v85), .val (.ref b87), .val (.ref b393), .unset, .unset] [(.int (3 : Int32)), (.int (2 : Int32)), (.ref b393), (.ref b87)])) rfl (by rw [hml]; rfl) (argsL := [(.ref b87), (.ref b393), (.int (2 : Int32)), (.int (3 : Int32))]) (rest := []) (lenOf pd_1 rfl) rfl (by show 2 * 0 + _ ≤ _; exact Nat.le_of_eq rfl) (hb hby at_170) (fun _ _ => ⟨rfl, eq409, (by decide : 3 + 0 ≤ _), (by decide : 12 + 0 ≤ _)⟩)
    dsimp only [Pt.U, Pt.locs, Pt.cells, Pt.slots] at X412 l412 y412 z412 st412 hQ412
    subst l412 y412 z412
    obtain ⟨rfl, Nq412, eq412⟩ := hQ412
    have N412 := Fr.app N409 Nq412
    have hc173_414 : ¬ ((if 3 < n then (if ((fa391 2 = fa391 3) ↔ (g393 2 = g393 3)) then (1 : Int32) else (0 : Int32)) else (1 : Int32)) = (0 : Int32)) := (by rw [if_neg (by omega : ¬ 3 < n)]; decide)
    have k415 : ∀ tg_, Steps p.tables e below (T412.setTop (mkF m 297 #[.val (.int p0), .val (.int p1), .val (.int p2), .val (.int p3), .val (.int p4), .val (.int v85), .val (.ref b87), .val (.ref b393), .unset, .unset] [(.int (1 : Int32))])) tg_ → Steps p.tables e below (s₁.setTop (entryFrame m #[(.int p0), (.int p1), (.int p2), (.int p3), (.int p4)] maxLocals)) tg_ := by
      intro tg_ kt
      refine k394 tg_ ?_
      refine XS.aload X393.here hx rfl (hb hby at_89) rfl rfl ?_
      show Steps p.tables e below (T393.setTop (mkF m 91 #[.val (.int p0), .val (.int p1), .val (.int p2), .val (.int p3), .val (.int p4), .val (.int v85), .val (.ref b87), .val (.ref b393), .unset, .unset] [(.ref b393)])) _
      refine XS.ifnullNo X393.here hx rfl (hb hby at_91) rfl ?_
      show Steps p.tables e below (T393.setTop (mkF m 94 #[.val (.int p0), .val (.int p1), .val (.int p2), .val (.int p3), .val (.int p4), .val (.int v85), .val (.ref b87), .val (.ref b393), .unset, .unset] [])) _
      refine XS.aload X393.here hx rfl (hb hby at_94) rfl rfl ?_
      show Steps p.tables e below (T393.setTop (mkF m 96 #[.val (.int p0), .val (.int p1), .val (.int p2), .val (.int p3), .val (.int p4), .val (.int v85), .val (.ref b87), .val (.ref b393), .unset, .unset] [(.ref b393)])) _
      refine own_len X393 hx hZ rfl Vr393 (z := v85) hnn (g := (mkF m 96 #[.val (.int p0), .val (.int p1), .val (.int p2), .val (.int p3), .val (.int p4), .val (.int v85), .val (.ref b87), .val (.ref b393), .unset, .unset] [(.ref b393)])) rfl rfl (hb hby at_96) _ ?_
      show Steps p.tables e below (T393.setTop (mkF m 97 #[.val (.int p0), .val (.int p1), .val (.int p2), .val (.int p3), .val (.int p4), .val (.int v85), .val (.ref b87), .val (.ref b393), .unset, .unset] [(.int v85)])) _
      refine XS.iload X393.here hx rfl (hb hby at_97) rfl ?_
      show Steps p.tables e below (T393.setTop (mkF m 99 #[.val (.int p0), .val (.int p1), .val (.int p2), .val (.int p3), .val (.int p4), .val (.int v85), .val (.ref b87), .val (.ref b393), .unset, .unset] [(.int v85), (.int v85)])) _
      refine XS.icmpYes X393.here hx rfl (pc0 := 99) (pc' := 104) rfl (hb hby at_99) rfl (teq hc99_395).1 (by decide) (by decide) ?_
      show Steps p.tables e below (T393.setTop (mkF m 104 #[.val (.int p0), .val (.int p1), .val (.int p2), .val (.int p3), .val (.int p4), .val (.int v85), .val (.ref b87), .val (.ref b393), .unset, .unset] [])) _
      refine XS.aload X393.here hx rfl (hb hby at_104) rfl rfl ?_
      show Steps p.tables e below (T393.setTop (mkF m 106 #[.val (.int p0), .val (.int p1), .val (.int p2), .val (.int p3), .val (.int p4), .val (.int v85), .val (.ref b87), .val (.ref b393), .unset, .unset] [(.ref b87)])) _
      refine XS.aload X393.here hx rfl (hb hby at_106) rfl rfl ?_
      show Steps p.tables e below (T393.setTop (mkF m 108 #[.val (.int p0), .val (.int p1), .val (.int p2), .val (.int p3), .val (.int p4), .val (.int v85), .val (.ref b87), .val (.ref b393), .unset, .unset] [(.ref b393), (.ref b87)])) _
      refine XS.iconst X393.here hx rfl (hb hby at_108) ?_
      show Steps p.tables e below (T393.setTop (mkF m 109 #[.val (.int p0), .val (.int p1), .val (.int p2), .val (.int p3), .val (.int p4), .val (.int v85), .val (.ref b87), .val (.ref b393), .unset, .unset] [(.int (0 : Int32)), (.ref b393), (.ref b87)])) _
      refine XS.iconst X393.here hx rfl (hb hby at_109) ?_
      show Steps p.tables e below (T393.setTop (mkF m 110 #[.val (.int p0), .val (.int p1), .val (.int p2), .val (.int p3), .val (.int p4), .val (.int v85), .val (.ref b87), .val (.ref b393), .unset, .unset] [(.int (1 : Int32)), (.int (0 : Int32)), (.ref b393), (.ref b87)])) _
      refine st397 _ ?_
      show Steps p.tables e below (T397.setTop (mkF m 113 #[.val (.int p0), .val (.int p1), .val (.int p2), .val (.int p3), .val (.int p4), .val (.int v85), .val (.ref b87), .val (.ref b393), .unset, .unset] [(.int (if 1 < n then (if ((fa391 0 = fa391 1) ↔ (g393 0 = g393 1)) then (1 : Int32) else (0 : Int32)) else (1 : Int32)))])) _
      refine XS.ifNo X397.here hx rfl (hb hby at_113) rfl ((if0 _ _).trans (feq hc113_399).1) ?_
      show Steps p.tables e below (T397.setTop (mkF m 116 #[.val (.int p0), .val (.int p1), .val (.int p2), .val (.int p3), .val (.int p4), .val (.int v85), .val (.ref b87), .val (.ref b393), .unset, .unset] [])) _
      refine XS.aload X397.here hx rfl (hb hby at_116) rfl rfl ?_
      show Steps p.tables e below (T397.setTop (mkF m 118 #[.val (.int p0), .val (.int p1), .val (.int p2), .val (.int p3), .val (.int p4), .val (.int v85), .val (.ref b87), .val (.ref b393), .unset, .unset] [(.ref b87)])) _
      refine XS.aload X397.here hx rfl (hb hby at_118) rfl rfl ?_
      show Steps p.tables e below (T397.setTop (mkF m 120 #[.val (.int p0), .val (.int p1), .val (.int p2), .val (.int p3), .val (.int p4), .val (.int v85), .val (.ref b87), .val (.ref b393), .unset, .unset] [(.ref b393), (.ref b87)])) _
      refine XS.iconst X397.here hx rfl (hb hby at_120) ?_
      show Steps p.tables e below (T397.setTop (mkF m 121 #[.val (.int p0), .val (.int p1), .val (.int p2), .val (.int p3), .val (.int p4), .val (.int v85), .val (.ref b87), .val (.ref b393), .unset, .unset] [(.int (0 : Int32)), (.ref b393), (.ref b87)])) _
      refine XS.iconst X397.here hx rfl (hb hby at_121) ?_
      show Steps p.tables e below (T397.setTop (mkF m 122 #[.val (.int p0), .val (.int p1), .val (.int p2), .val (.int p3), .val (.int p4), .val (.int v85), .val (.ref b87), .val (.ref b393), .unset, .unset] [(.int (2 : Int32)), (.int (0 : Int32)), (.ref b393), (.ref b87)])) _
      refine st400 _ ?_
      show Steps p.tables e below (T400.setTop (mkF m 125 #[.val (.int p0), .val (.int p1), .val (.int p2), .val (.int p3), .val (.int p4), .val (.int v85), .val (.ref b87), .val (.ref b393), .unset, .unset] [(.int (if 2 < n then (if ((fa391 0 = fa391 2) ↔ (g393 0 = g393 2)) then (1 : Int32) else (0 : Int32)) else (1 : Int32)))])) _
      refine XS.ifNo X400.here hx rfl (hb hby at_125) rfl ((if0 _ _).trans (feq hc125_402).1) ?_
      show Steps p.tables e below (T400.setTop (mkF m 128 #[.val (.int p0), .val (.int p1), .val (.int p2), .val (.int p3), .val (.int p4), .val (.int v85), .val (.ref b87), .val (.ref b393), .unset, .unset] [])) _
      refine XS.aload X400.here hx rfl (hb hby at_128) rfl rfl ?_
      show Steps p.tables e below (T400.setTop (mkF m 130 #[.val (.int p0), .val (.int p1), .val (.int p2), .val (.int p3), .val (.int p4), .val (.int v85), .val (.ref b87), .val (.ref b393), .unset, .unset] [(.ref b87)])) _
      refine XS.aload X400.here hx rfl (hb hby at_130) rfl rfl ?_
      show Steps p.tables e below (T400.setTop (mkF m 132 #[.val (.int p0), .val (.int p1), .val (.int p2), .val (.int p3), .val (.int p4), .val (.int v85), .val (.ref b87), .val (.ref b393), .unset, .unset] [(.ref b393), (.ref b87)])) _
      refine XS.iconst X400.here hx rfl (hb hby at_132) ?_
      show Steps p.tables e below (T400.setTop (mkF m 133 #[.val (.int p0), .val (.int p1), .val (.int p2), .val (.int p3), .val (.int p4), .val (.int v85), .val (.ref b87), .val (.ref b393), .unset, .unset] [(.int (0 : Int32)), (.ref b393), (.ref b87)])) _
      refine XS.iconst X400.here hx rfl (hb hby at_133) ?_
      show Steps p.tables e below (T400.setTop (mkF m 134 #[.val (.int p0), .val (.int p1), .val (.int p2), .val (.int p3), .val (.int p4), .val (.int v85), .val (.ref b87), .val (.ref b393), .unset, .unset] [(.int (3 : Int32)), (.int (0 : Int32)), (.ref b393), (.ref b87)])) _
      refine st403 _ ?_
      show Steps p.tables e below (T403.setTop (mkF m 137 #[.val (.int p0), .val (.int p1), .val (.int p2), .val (.int p3), .val (.int p4), .val (.int v85), .val (.ref b87), .val (.ref b393), .unset, .unset] [(.int (if 3 < n then (if ((fa391 0 = fa391 3) ↔ (g393 0 = g393 3)) then (1 : Int32) else (0 : Int32)) else (1 : Int32)))])) _
      refine XS.ifNo X403.here hx rfl (hb hby at_137) rfl ((if0 _ _).trans (feq hc137_405).1) ?_
      show Steps p.tables e below (T403.setTop (mkF m 140 #[.val (.int p0), .val (.int p1), .val (.int p2), .val (.int p3), .val (.int p4), .val (.int v85), .val (.ref b87), .val (.ref b393), .unset, .unset] [])) _
      refine XS.aload X403.here hx rfl (hb hby at_140) rfl rfl ?_
      show Steps p.tables e below (T403.setTop (mkF m 142 #[.val (.int p0), .val (.int p1), .val (.int p2), .val (.int p3), .val (.int p4), .val (.int v85), .val (.ref b87), .val (.ref b393), .unset, .unset] [(.ref b87)])) _
      refine XS.aload X403.here hx rfl (hb hby at_142) rfl rfl ?_
      show Steps p.tables e below (T403.setTop (mkF m 144 #[.val (.int p0), .val (.int p1), .val (.int p2), .val (.int p3), .val (.int p4), .val (.int v85), .val (.ref b87), .val (.ref b393), .unset, .unset] [(.ref b393), (.ref b87)])) _
      refine XS.iconst X403.here hx rfl (hb hby at_144) ?_
      show Steps p.tables e below (T403.setTop (mkF m 145 #[.val (.int p0), .val (.int p1), .val (.int p2), .val (.int p3), .val (.int p4), .val (.int v85), .val (.ref b87), .val (.ref b393), .unset, .unset] [(.int (1 : Int32)), (.ref b393), (.ref b87)])) _
      refine XS.iconst X403.here hx rfl (hb hby at_145) ?_
      show Steps p.tables e below (T403.setTop (mkF m 146 #[.val (.int p0), .val (.int p1), .val (.int p2), .val (.int p3), .val (.int p4), .val (.int v85), .val (.ref b87), .val (.ref b393), .unset, .unset] [(.int (2 : Int32)), (.int (1 : Int32)), (.ref b393), (.ref b87)])) _
      refine st406 _ ?_
      show Steps p.tables e below (T406.setTop (mkF m 149 #[.val (.int p0), .val (.int p1), .val (.int p2), .val (.int p3), .val (.int p4), .val (.int v85), .val (.ref b87), .val (.ref b393), .unset, .unset] [(.int (if 2 < n then (if ((fa391 1 = fa391 2) ↔ (g393 1 = g393 2)) then (1 : Int32) else (0 : Int32)) else (1 : Int32)))])) _
      refine XS.ifNo X406.here hx rfl (hb hby at_149) rfl ((if0 _ _).trans (feq hc149_408).1) ?_
      show Steps p.tables e below (T406.setTop (mkF m 152 #[.val (.int p0), .val (.int p1), .val (.int p2), .val (.int p3), .val (.int p4), .val (.int v85), .val (.ref b87), .val (.ref b393), .unset, .unset] [])) _
      refine XS.aload X406.here hx rfl (hb hby at_152) rfl rfl ?_
      show Steps p.tables e below (T406.setTop (mkF m 154 #[.val (.int p0), .val (.int p1), .val (.int p2), .val (.int p3), .val (.int p4), .val (.int v85), .val (.ref b87), .val (.ref b393), .unset, .unset] [(.ref b87)])) _
      refine XS.aload X406.here hx rfl (hb hby at_154) rfl rfl ?_
      show Steps p.tables e below (T406.setTop (mkF m 156 #[.val (.int p0), .val (.int p1), .val (.int p2), .val (.int p3), .val (.int p4), .val (.int v85), .val (.ref b87), .val (.ref b393), .unset, .unset] [(.ref b393), (.ref b87)])) _
      refine XS.iconst X406.here hx rfl (hb hby at_156) ?_
      show Steps p.tables e below (T406.setTop (mkF m 157 #[.val (.int p0), .val (.int p1), .val (.int p2), .val (.int p3), .val (.int p4), .val (.int v85), .val (.ref b87), .val (.ref b393), .unset, .unset] [(.int (1 : Int32)), (.ref b393), (.ref b87)])) _
      refine XS.iconst X406.here hx rfl (hb hby at_157) ?_
      show Steps p.tables e below (T406.setTop (mkF m 158 #[.val (.int p0), .val (.int p1), .val (.int p2), .val (.int p3), .val (.int p4), .val (.int v85), .val (.ref b87), .val (.ref b393), .unset, .unset] [(.int (3 : Int32)), (.int (1 : Int32)), (.ref b393), (.ref b87)])) _
      refine st409 _ ?_
      show Steps p.tables e below (T409.setTop (mkF m 161 #[.val (.int p0), .val (.int p1), .val (.int p2), .val (.int p3), .val (.int p4), .val (.int v85), .val (.ref b87), .val (.ref b393), .unset, .unset] [(.int (if 3 < n then (if ((fa391 1 = fa391 3) ↔ (g393 1 = g393 3)) then (1 : Int32) else (0 : Int32)) else (1 : Int32)))])) _
      refine XS.ifNo X409.here hx rfl (hb hby at_161) rfl ((if0 _ _).trans (feq hc161_411).1) ?_
      show Steps p.tables e below (T409.setTop (mkF m 164 #[.val (.int p0), .val (.int p1), .val (.int p2), .val (.int p3), .val (.int p4), .val (.int v85), .val (.ref b87), .val (.ref b393), .unset, .unset] [])) _
      refine XS.aload X409.here hx rfl (hb hby at_164) rfl rfl ?_
      show Steps p.tables e below (T409.setTop (mkF m 166 #[.val (.int p0), .val (.int p1), .val (.int p2), .val (.int p3), .val (.int p4), .val (.int v85), .val (.ref b87), .val (.ref b393), .unset, .unset] [(.ref b87)])) _
      refine XS.aload X409.here hx rfl (hb hby at_166) rfl rfl ?_
      show Steps p.tables e below (T409.setTop (mkF m 168 #[.val (.int p0), .val (.int p1), .val (.int p2), .val (.int p3), .val (.int p4), .val (.int v85), .val (.ref b87), .val (.ref b393), .unset, .unset] [(.ref b393), (.ref b87)])) _
      refine XS.iconst X409.here hx rfl (hb hby at_168) ?_
      show Steps p.tables e below (T409.setTop (mkF m 169 #[.val (.int p0), .val (.int p1), .val (.int p2), .val (.int p3), .val (.int p4), .val (.int v85), .val (.ref b87), .val (.ref b393), .unset, .unset] [(.int (2 : Int32)), (.ref b393), (.ref b87)])) _
      refine XS.iconst X409.here hx rfl (hb hby at_169) ?_
      show Steps p.tables e below (T409.setTop (mkF m 170 #[.val (.int p0), .val (.int p1), .val (.int p2), .val (.int p3), .val (.int p4), .val (.int v85), .val (.ref b87), .val (.ref b393), .unset, .unset] [(.int (3 : Int32)), (.int (2 : Int32)), (.ref b393), (.ref b87)])) _
      refine st412 _ ?_
      show Steps p.tables e below (T412.setTop (mkF m 173 #[.val (.int p0), .val (.int p1), .val (.int p2), .val (.int p3), .val (.int p4), .val (.int v85), .val (.ref b87), .val (.ref b393), .unset, .unset] [(.int (if 3 < n then (if ((fa391 2 = fa391 3) ↔ (g393 2 = g393 3)) then (1 : Int32) else (0 : Int32)) else (1 : Int32)))])) _
      refine XS.ifYes X412.here hx rfl (pc0 := 173) (pc' := 178) rfl (hb hby at_173) rfl ((if0 _ _).trans (feq hc173_414).2) (by decide) (by decide) ?_
      show Steps p.tables e below (T412.setTop (mkF m 178 #[.val (.int p0), .val (.int p1), .val (.int p2), .val (.int p3), .val (.int p4), .val (.int v85), .val (.ref b87), .val (.ref b393), .unset, .unset] [])) _
      refine XS.iload X412.here hx rfl (hb hby at_178) rfl ?_
      show Steps p.tables e below (T412.setTop (mkF m 180 #[.val (.int p0), .val (.int p1), .val (.int p2), .val (.int p3), .val (.int p4), .val (.int v85), .val (.ref b87), .val (.ref b393), .unset, .unset] [(.int v85)])) _
      refine XS.ifYes X412.here hx rfl (pc0 := 180) (pc' := 192) rfl (hb hby at_180) rfl ((if0 _ _).trans (flt hc16_89).2.2.2) (by decide) (by decide) ?_
      show Steps p.tables e below (T412.setTop (mkF m 192 #[.val (.int p0), .val (.int p1), .val (.int p2), .val (.int p3), .val (.int p4), .val (.int v85), .val (.ref b87), .val (.ref b393), .unset, .unset] [])) _
      refine XS.iload X412.here hx rfl (hb hby at_192) rfl ?_
      show Steps p.tables e below (T412.setTop (mkF m 194 #[.val (.int p0), .val (.int p1), .val (.int p2), .val (.int p3), .val (.int p4), .val (.int v85), .val (.ref b87), .val (.ref b393), .unset, .unset] [(.int v85)])) _
      refine XS.iconst X412.here hx rfl (hb hby at_194) ?_
      show Steps p.tables e below (T412.setTop (mkF m 195 #[.val (.int p0), .val (.int p1), .val (.int p2), .val (.int p3), .val (.int p4), .val (.int v85), .val (.ref b87), .val (.ref b393), .unset, .unset] [(.int (1 : Int32)), (.int v85)])) _
      refine XS.icmpYes X412.here hx rfl (pc0 := 195) (pc' := 220) rfl (hb hby at_195) rfl (flt hc33_370).2.2.2 (by decide) (by decide) ?_
      show Steps p.tables e below (T412.setTop (mkF m 220 #[.val (.int p0), .val (.int p1), .val (.int p2), .val (.int p3), .val (.int p4), .val (.int v85), .val (.ref b87), .val (.ref b393), .unset, .unset] [])) _
      refine XS.iload X412.here hx rfl (hb hby at_220) rfl ?_
      show Steps p.tables e below (T412.setTop (mkF m 222 #[.val (.int p0), .val (.int p1), .val (.int p2), .val (.int p3), .val (.int p4), .val (.int v85), .val (.ref b87), .val (.ref b393), .unset, .unset] [(.int v85)])) _
      refine XS.iconst X412.here hx rfl (hb hby at_222) ?_
      show Steps p.tables e below (T412.setTop (mkF m 223 #[.val (.int p0), .val (.int p1), .val (.int p2), .val (.int p3), .val (.int p4), .val (.int v85), .val (.ref b87), .val (.ref b393), .unset, .unset] [(.int (2 : Int32)), (.int v85)])) _
      refine XS.icmpYes X412.here hx rfl (pc0 := 223) (pc' := 296) rfl (hb hby at_223) rfl (flt hc50_375).2.2.2 (by decide) (by decide) ?_
      show Steps p.tables e below (T412.setTop (mkF m 296 #[.val (.int p0), .val (.int p1), .val (.int p2), .val (.int p3), .val (.int p4), .val (.int v85), .val (.ref b87), .val (.ref b393), .unset, .unset] [])) _
      refine XS.iconst X412.here hx rfl (hb hby at_296) ?_
      show Steps p.tables e below (T412.setTop (mkF m 297 #[.val (.int p0), .val (.int p1), .val (.int p2), .val (.int p3), .val (.int p4), .val (.int v85), .val (.ref b87), .val (.ref b393), .unset, .unset] [(.int (1 : Int32))])) _
      exact kt
    obtain ⟨fs, hr, hrun, hended, hW, hsame⟩ := X412.leave (v := some (.int (1 : Int32))) (fun h => by rw [Bd.returns] at h; cases h)
    refine ⟨_, _, k415 _ (retN X412 hx (t := .boolean) Bd.returns (by simp) (hb hby at_297) hr), hrun, hended, _, _, rfl, ?_, ⟨_, rfl⟩, hW, hsame.mono (by decide) (by decide)⟩
    show Q0 Z p0 p1 p2 p3 p4 h0 n0 _ T412.heap _
    rw [eq412]
    exact ⟨rfl, N412⟩
set_option maxRecDepth 65536 in
set_option maxHeartbeats 40000000 in
theorem comes_1 {Post : Tables → Env → Array Value → State → Outcome → State → Prop} (hpost : ∀ tb e args s v u, (limb_1_1.after args s (.returned v) u = true ∧ limb_1_2.after args s (.returned v) u = true ∧ True) → FrameEnd s (.returned v) u (Jvm.fieldLocs frame_1_writes args s ++ Jvm.arrayLocs frame_1_arrays args s ++ Jvm.staticLocs frame_1_statics s) 16 128 → Post tb e args s (.returned v) u) :
    ArmFor flags0 classFile x code maxLocals ret World_1 tables_1 room_1 Calls_1 rest_1 Pre_1 Post := by
  intro l hfl _ _ p e ha hc hk s m args below hf hA hF happ hP
  obtain ⟨hcalls, hrest, hpre⟩ := hP
  obtain ⟨-, -, -, hnamed, -, -, -, hat⟩ := (Spec.applies_iff hf).mp happ
  obtain ⟨hg, hn⟩ := and_e (Cond.before_iff.mp (show (Jvm.Cond.and given_1 narrow_1).before args s = true from hpre))
  have hcount := (and_e hg).1
  have hgs0 := (and_e hg).2
  have hi0 := (and_e hgs0).1
  have hgs1 := (and_e hgs0).2
  have hi1 := (and_e hgs1).1
  have hgs2 := (and_e hgs1).2
  have hi2 := (and_e hgs2).1
  have hgs3 := (and_e hgs2).2
  have hi3 := (and_e hgs3).1
  have hgs4 := (and_e hgs3).2
  have hi4 := hgs4
  obtain ⟨w0, w1, w2, w3, w4, rfl⟩ : ∃ w0 w1 w2 w3 w4 : Value, args = #[w0, w1, w2, w3, w4] := by
    have hs : args.size = 5 := by simpa [Cond.value, given_1] using hcount
    obtain ⟨L⟩ := args
    match L, hs with
    | [w0, w1, w2, w3, w4], _ => exact ⟨w0, w1, w2, w3, w4, rfl⟩
  have hw := fun d (hd : d ∈ tables_1) => atoms_spec (ws := Jvm.Cond.code x code maxLocals ret :: tables_1) hat d (List.mem_cons_of_mem _ hd)
  have hfit : Fit s := fun {y c} hc i hi => by
    obtain ⟨ha, rfl⟩ := Array.getElem?_eq_some_iff.mp hc
    have q := List.all_eq_true.mp ((Array.all_eq_true_iff_forall_mem.mp hF) _ (Array.getElem_mem ha)) i (List.mem_range.mpr hi)
    simpa [Array.getElem?_eq_getElem hi] using q
  obtain ⟨i0, ei0⟩ := is_v hi0
  obtain rfl : w0 = (.int i0) := Option.some.inj ei0
  obtain ⟨i1, ei1⟩ := is_v hi1
  obtain rfl : w1 = (.int i1) := Option.some.inj ei1
  obtain ⟨i2, ei2⟩ := is_v hi2
  obtain rfl : w2 = (.int i2) := Option.some.inj ei2
  obtain ⟨i3, ei3⟩ := is_v hi3
  obtain rfl : w3 = (.int i3) := Option.some.inj ei3
  obtain ⟨i4, ei4⟩ := is_v hi4
  obtain rfl : w4 = (.int i4) := Option.some.inj ei4
  obtain ⟨n, o, h1, h2, h3, _, L, rfl, ⟨rfl, N⟩, hq⟩ := rm0 l s _ hw tables_1 i0 i1 i2 i3 i4 s.heap s.heap.size (Nat.le_refl _)  p e ha hc hk s m _ below hf ((Spec.applies_iff_loose hf).mp happ).1 ⟨rfl, State.Warmed39.refl s, rfl⟩ trivial
  refine ⟨n, _, h1, h2, h3, hpost _ _ _ _ _ _ ⟨Cond.after_iff.mpr rfl, Cond.after_iff.mpr (eq_i res_at (Term.int_eval (1)) rfl), trivial⟩ ⟨hq.1, hq.2.1, (hq.2.2.sift fun y hy => Or.inr (N y hy)).mono (by decide) (by decide)⟩⟩
theorem main_1_1 : Claimed_1_1 := comes_1 fun _ _ _ _ _ _ h hF => ⟨h.1, hF⟩
theorem main_1_2 : Claimed_1_2 := comes_1 fun _ _ _ _ _ _ h hF => ⟨h.2.1, hF⟩
end Jvm.Pilot.@@N@@
namespace Jvm.Pilot.@@N@@
open Jvm Jvm.ClassFile Sem Op Lib Jvm.Free Jvm.Stand Jvm.Pilot.@@N@@.Jvm.D
/-! MADE BY PROGRAM (witnessworld.py) out of the Statement's table words and the real class files: 10 classes; the members and pool entries that the words name. The judged class is class 1, her method 2. -/
namespace start1
open Jvm.ClassFile
def u (s : String) : CpInfo := .utf8 (stringToUtf16 s)
/-- a pool by its gaps: so many unusable entries, then the entry; so many at the end -/
def gap : Nat → List CpInfo → List CpInfo
  | 0, r => r
  | n + 1, r => .unusable :: gap n r
def poolList (es : List (Nat × CpInfo)) (last : Nat) : List CpInfo := es.foldr (fun e r => gap e.1 (e.2 :: r)) (gap last [])
def pool (es : List (Nat × CpInfo)) (last : Nat) : Array CpInfo := ⟨poolList es last⟩
def fileOf (pool : Array CpInfo) (this : Nat) (attrs : Array Attribute := #[]) (ms : Array MethodInfo := #[]) (fl : Nat := 33) (sup : Nat := 0) (ifs : Array Nat := #[]) (fds : Array FieldInfo := #[]) : ClassFile where
  minorVersion := 0
  majorVersion := 65
  constantPool := pool
  accessFlags := fl
  thisClass := this
  superClass := sup
  interfaces := ifs
  fields := fds
  methods := ms
  attributes := attrs
def plain (name : String) (sup : Option ClassId) : Class where
  name := name
  kind := .ordinary
  loader := none
  accessFlags := 33
  super := sup
  interfaces := #[]
  cf := none
  fields := #[]
  methods := #[]
  instanceTypes := #[]
  staticTypes := #[]
  resolved := #[]
  callSites := []
  init := .initialized
  statics := none
  mirror := none

def pool0 : Array CpInfo := pool [(5, u "<init>"), (0, u "()V"), (1, .class_ 10), (1, u "java/lang/Object")] 113

def k0m0 : Method := { name := "<init>", desc := "()V", sig := { parameters := [], returnType := none }, accessFlags := 1, code := none }
/-- java/lang/Object -/
def k0 : Class := { plain "java/lang/Object" none with
  accessFlags := 33
  interfaces := #[]
  cf := some (fileOf pool0 8 #[] #[{ accessFlags := 1, nameIndex := 5, descriptorIndex := 6, attributes := #[] }] 33 0 #[] #[])
  fields := #[]
  methods := #[k0m0]
  instanceTypes := #[]
  staticTypes := #[]
  resolved := Array.replicate 124 none
  statics := none }

def pool1 : Array CpInfo := pool [(2, .class_ 4), (1, u "java/lang/Object"), (0, u "<init>"), (0, u "()V"), (0, .integer 2147483647), (0, .methodref 9 10), (0, .class_ 11), (0, .nameAndType 12 13), (0, u "com/example/coterie/coterie/methods/Communities"), (0, u "renumbered"), (0, u "([I)[I"), (0, .methodref 15 16), (0, .class_ 17), (0, .nameAndType 18 19), (0, u "com/example/coterie/coterie/methods/CommunitiesRenumberedPinLaw"), (0, u "pair"), (0, u "([I[III)Z"), (0, .methodref 21 22), (0, .class_ 23), (0, .nameAndType 24 25), (0, u "java/lang/Math"), (0, u "max"), (0, u "(II)I"), (5, u "law"), (0, u "(IIIII)Z")] 2

def k1m0 : Method := { name := "<init>", desc := "()V", sig := { parameters := [], returnType := none }, accessFlags := 1, code := none }
def k1c1 : Code := { maxStack := 4, maxLocals := 4, code := method_2_code, exceptionTable := #[], attributes := #[] }
def k1m1 : Method := { name := "pair", desc := "([I[III)Z", sig := { parameters := [(.array .int), (.array .int), .int, .int], returnType := some .boolean }, accessFlags := 10, code := some k1c1 }
def k1c2 : Code := { maxStack := 4, maxLocals := 10, code := code, exceptionTable := #[], attributes := #[] }
def k1m2 : Method := { name := "law", desc := "(IIIII)Z", sig := { parameters := [.int, .int, .int, .int, .int], returnType := some .boolean }, accessFlags := 9, code := some k1c2 }
/-- com/example/coterie/coterie/methods/CommunitiesRenumberedPinLaw -/
def k1 : Class := { plain "com/example/coterie/coterie/methods/CommunitiesRenumberedPinLaw" (some 0) with
  accessFlags := 49
  interfaces := #[]
  cf := some (fileOf pool1 15 #[] #[{ accessFlags := 1, nameIndex := 5, descriptorIndex := 6, attributes := #[] }, { accessFlags := 10, nameIndex := 18, descriptorIndex := 19, attributes := #[] }, { accessFlags := 9, nameIndex := 31, descriptorIndex := 32, attributes := #[] }] 49 2 #[] #[])
  fields := #[]
  methods := #[k1m0, k1m1, k1m2]
  instanceTypes := #[]
  staticTypes := #[]
  resolved := Array.replicate 35 none
  statics := none }

def pool2 : Array CpInfo := pool [(2, .class_ 4), (1, u "java/lang/Object"), (3, .class_ 10), (1, u "com/example/coterie/coterie/methods/Communities"), (0, u "members"), (0, u "[[I"), (26, u "renumbered"), (0, u "([I)[I")] 8

def k2c0 : Code := { maxStack := 4, maxLocals := 6, code := prog_20_method_3_code, exceptionTable := #[], attributes := #[] }
def k2m0 : Method := { name := "renumbered", desc := "([I)[I", sig := { parameters := [(.array .int)], returnType := some (.array .int) }, accessFlags := 8, code := some k2c0 }
/-- com/example/coterie/coterie/methods/Communities -/
def k2 : Class := { plain "com/example/coterie/coterie/methods/Communities" (some 0) with
  accessFlags := 49
  interfaces := #[]
  cf := some (fileOf pool2 8 #[] #[{ accessFlags := 8, nameIndex := 39, descriptorIndex := 40, attributes := #[] }] 49 2 #[] #[{ accessFlags := 18, nameIndex := 11, descriptorIndex := 12, attributes := #[] }])
  fields := #[{ name := "members", type := (.array (.array .int)), accessFlags := 18, slot := 0, constantValue := 0 }]
  methods := #[k2m0]
  instanceTypes := #[(.array (.array .int))]
  staticTypes := #[]
  resolved := Array.replicate 49 none
  statics := none }

def pool3 : Array CpInfo := pool [(1, .class_ 2), (0, u "java/lang/Math"), (1, .class_ 6), (1, u "java/lang/Object"), (0, u "<init>"), (0, u "()V"), (89, .class_ 100), (1, u "java/lang/Math$RandomNumberGeneratorHolder"), (71, u "negativeZeroFloatBits"), (0, u "J"), (2, u "negativeZeroDoubleBits"), (21, u "max"), (46, u "$assertionsDisabled"), (0, u "Z"), (88, u "(II)I"), (2, u "twoToTheDoubleScaleDown"), (0, u "D"), (4, u "twoToTheDoubleScaleUp"), (9, u "E"), (3, u "PI"), (2, u "TAU"), (2, u "DEGREES_TO_RADIANS"), (0, u "RADIANS_TO_DEGREES")] 94

def k3m0 : Method := { name := "<init>", desc := "()V", sig := { parameters := [], returnType := none }, accessFlags := 2, code := none }
def k3c1 : Code := { maxStack := 2, maxLocals := 2, code := jdk_29_method_65_code, exceptionTable := #[], attributes := #[] }
def k3m1 : Method := { name := "max", desc := "(II)I", sig := { parameters := [.int, .int], returnType := some .int }, accessFlags := 9, code := some k3c1 }
/-- java/lang/Math -/
def k3 : Class := { plain "java/lang/Math" (some 0) with
  accessFlags := 49
  interfaces := #[]
  cf := some (fileOf pool3 1 #[.nestMembers #[98]] #[{ accessFlags := 2, nameIndex := 7, descriptorIndex := 8, attributes := #[] }, { accessFlags := 9, nameIndex := 198, descriptorIndex := 335, attributes := #[] }] 49 4 #[] #[{ accessFlags := 25, nameIndex := 354, descriptorIndex := 339, attributes := #[] }, { accessFlags := 25, nameIndex := 358, descriptorIndex := 339, attributes := #[] }, { accessFlags := 25, nameIndex := 361, descriptorIndex := 339, attributes := #[] }, { accessFlags := 26, nameIndex := 364, descriptorIndex := 339, attributes := #[] }, { accessFlags := 26, nameIndex := 365, descriptorIndex := 339, attributes := #[] }, { accessFlags := 26, nameIndex := 172, descriptorIndex := 173, attributes := #[] }, { accessFlags := 26, nameIndex := 176, descriptorIndex := 173, attributes := #[] }, { accessFlags := 8, nameIndex := 344, descriptorIndex := 339, attributes := #[] }, { accessFlags := 8, nameIndex := 338, descriptorIndex := 339, attributes := #[] }, { accessFlags := 4120, nameIndex := 245, descriptorIndex := 246, attributes := #[] }])
  fields := #[{ name := "E", type := .double, accessFlags := 25, slot := 0, constantValue := 0 }, { name := "PI", type := .double, accessFlags := 25, slot := 1, constantValue := 0 }, { name := "TAU", type := .double, accessFlags := 25, slot := 2, constantValue := 0 }, { name := "DEGREES_TO_RADIANS", type := .double, accessFlags := 26, slot := 3, constantValue := 0 }, { name := "RADIANS_TO_DEGREES", type := .double, accessFlags := 26, slot := 4, constantValue := 0 }, { name := "negativeZeroFloatBits", type := .long, accessFlags := 26, slot := 5, constantValue := 0 }, { name := "negativeZeroDoubleBits", type := .long, accessFlags := 26, slot := 6, constantValue := 0 }, { name := "twoToTheDoubleScaleUp", type := .double, accessFlags := 8, slot := 7, constantValue := 0 }, { name := "twoToTheDoubleScaleDown", type := .double, accessFlags := 8, slot := 8, constantValue := 0 }, { name := "$assertionsDisabled", type := .boolean, accessFlags := 4120, slot := 9, constantValue := 0 }]
  methods := #[k3m0, k3m1]
  instanceTypes := #[]
  staticTypes := #[.double, .double, .double, .double, .double, .long, .long, .double, .double, .boolean]
  resolved := Array.replicate 460 none
  statics := none }

def pool4 : Array CpInfo := pool [(1, u "java/lang/Cloneable"), (0, .class_ 1), (0, u "java/lang/Object"), (0, .class_ 3)] 3

/-- java/lang/Cloneable -/
def k4 : Class := { plain "java/lang/Cloneable" (some 0) with
  accessFlags := 1537
  interfaces := #[]
  cf := some (fileOf pool4 2 #[] #[] 1537 4 #[] #[])
  fields := #[]
  methods := #[]
  instanceTypes := #[]
  staticTypes := #[]
  resolved := Array.replicate 8 none
  statics := none }

def pool5 : Array CpInfo := pool [(1, u "java/io/Serializable"), (0, .class_ 1), (0, u "java/lang/Object"), (0, .class_ 3)] 3

/-- java/io/Serializable -/
def k5 : Class := { plain "java/io/Serializable" (some 0) with
  accessFlags := 1537
  interfaces := #[]
  cf := some (fileOf pool5 2 #[] #[] 1537 4 #[] #[])
  fields := #[]
  methods := #[]
  instanceTypes := #[]
  staticTypes := #[]
  resolved := Array.replicate 8 none
  statics := none }

/-- the primitive byte -/
def k6 : Class := { plain "byte" none with kind := .primitive 'B', accessFlags := 0x411 }
/-- [B -/
def k7 : Class := { plain "[B" (some 0) with kind := .array 6 .byte, interfaces := #[4, 5], accessFlags := 1041 }

/-- the primitive int -/
def k8 : Class := { plain "int" none with kind := .primitive 'I', accessFlags := 0x411 }
/-- [I -/
def k9 : Class := { plain "[I" (some 0) with kind := .array 8 .int, interfaces := #[4, 5], accessFlags := 1041 }

def heap : Heap := #[]
def classes : Array Class := #[k0, k1, k2, k3, k4, k5, k6, k7, k8, k9]
def interned : List (Array UInt16 × Addr) := []
def slotsUsed : Nat := 0
def theMethod : MethodId := ⟨1, 2⟩
def args0 : Array Value := #[.int 4, .int 2, .int 3, .int 4, .int 5]
def aboutOver (below : List Frame) : State where
  vm := { classes := classes, interned := interned.toArray }
  heap := heap
  slotsUsed := slotsUsed
  threads := #[{ frames := .invoking theMethod args0 :: below }]
def below0 : List Frame := [.native { method := ⟨0, 0⟩, args := #[] }]
def about1 : State := aboutOver below0
def p0 : Program := .bare "" "" ""
def e0 : Env := launch0.env 0 0 0
theorem w_frames : about1.frames = Frame.invoking theMethod args0 :: below0 := rfl
set_option maxRecDepth 65536 in
theorem w_args : argsFit about1.vm theMethod args0 = true := by decide +kernel
set_option maxRecDepth 65536 in
theorem w_heap : heapFits about1 = true := by decide +kernel
set_option maxRecDepth 65536 in
theorem w_runnable : about1.curStatus? = some .runnable := by decide +kernel
set_option maxRecDepth 65536 in
theorem w_alone : about1.alone = true := by decide +kernel
set_option maxRecDepth 65536 in
theorem w_named : about1.methodNamed? x = some theMethod := by decide +kernel
set_option maxRecDepth 65536 in
theorem w_hears : about1.hears theMethod below0 = true := by decide +kernel
set_option maxRecDepth 65536 in
theorem w_ripe : about1.ripe theMethod args0 below0 = true := by decide +kernel
theorem w_running : about1.status = .running := rfl
set_option maxRecDepth 65536 in
theorem w_room : about1.hasRoom e0.platform room_1 = true :=
  launch0.hasRoom_least _ room_1 (by decide +kernel) (by decide +kernel) (by decide +kernel) (by decide +kernel) (by decide +kernel) (by decide +kernel)
theorem allAtoms_all (ts : List Jvm.Cond) (a : Array Jvm.Value) (st : Jvm.State) : (allAtoms ts).before a st = ts.all (fun c => c.before a st) := by
  induction ts with
  | nil => rfl
  | cons c t ih =>
    show (Jvm.Cond.and c (allAtoms t)).before a st = _
    rw [Jvm.Cond.before_and, ih, List.all_cons]
def words1 : List Jvm.Cond := Jvm.Cond.code x code maxLocals ret :: tables_1
/-- a 'code' word, met by the world's own term for the bytes: nothing is compared byte by byte -/
theorem code_word {y : MethodName} {bytes : ByteArray} {mx : Nat} {rt : Option FieldType} {a : Array Value} {s : State} {m : MethodId} {meth : Method} {c : Code} (h1 : s.methodNamed? y = some m) (h2 : s.vm.method? m = some meth) (h3 : meth.code = some c) (h4 : c.code = bytes)
    (h5 : (c.maxLocals == mx && c.exceptionTable.isEmpty && decide (c.maxStack ≤ mostOperands) && decide (meth.sig.returnType = rt) && !meth.locks && decide (parseMethodDescriptor y.desc = some meth.sig)) = true) : (Jvm.Cond.code y bytes mx rt).before a s = true := by
  simp only [Bool.and_eq_true, beq_iff_eq, Bool.not_eq_true', decide_eq_true_eq] at h5
  obtain ⟨⟨⟨⟨⟨g1, g2⟩, g3⟩, g4⟩, g5⟩, g6⟩ := h5
  simp [Cond.before, Cond.holds, Cond.value, h1, h2, h3, h4, g1, g2, g3, g4, g5, g6]
def isCode : Jvm.Cond → Bool
  | .code _ _ _ _ => true
  | _ => false
theorem all_split {L : List Jvm.Cond} {P : Jvm.Cond → Bool} (h1 : L.all (fun c => isCode c || P c) = true) (h2 : ∀ c ∈ L.filter isCode, P c = true) : L.all P = true := by
  refine List.all_eq_true.mpr fun c hc => ?_
  have h := List.all_eq_true.mp h1 c hc
  rcases Bool.eq_false_or_eq_true (isCode c) with hi | hi
  · exact h2 c (List.mem_filter.mpr ⟨hc, hi⟩)
  · simpa [hi] using h
set_option maxRecDepth 65536 in
theorem w_c0 : (Jvm.Cond.code x code maxLocals ret).before args0 about1 = true := code_word (m := ⟨1, 2⟩) (meth := k1m2) (c := k1c2) (by decide +kernel) rfl rfl rfl (by decide +kernel)
set_option maxRecDepth 65536 in
theorem w_c1 : (Jvm.Cond.code ({ cls := "com/example/coterie/coterie/methods/Communities", name := "renumbered", desc := "([I)[I" } : Jvm.MethodName) prog_20_method_3_code (6 : Nat) (Option.some (Jvm.ClassFile.FieldType.array Jvm.ClassFile.FieldType.int))).before args0 about1 = true := code_word (m := ⟨2, 0⟩) (meth := k2m0) (c := k2c0) (by decide +kernel) rfl rfl rfl (by decide +kernel)
set_option maxRecDepth 65536 in
theorem w_c2 : (Jvm.Cond.code ({ cls := "com/example/coterie/coterie/methods/CommunitiesRenumberedPinLaw", name := "pair", desc := "([I[III)Z" } : Jvm.MethodName) method_2_code (4 : Nat) (Option.some Jvm.ClassFile.FieldType.boolean)).before args0 about1 = true := code_word (m := ⟨1, 1⟩) (meth := k1m1) (c := k1c1) (by decide +kernel) rfl rfl rfl (by decide +kernel)
set_option maxRecDepth 65536 in
theorem w_c3 : (Jvm.Cond.code ({ cls := "java/lang/Math", name := "max", desc := "(II)I" } : Jvm.MethodName) jdk_29_method_65_code (2 : Nat) (Option.some Jvm.ClassFile.FieldType.int)).before args0 about1 = true := code_word (m := ⟨3, 1⟩) (meth := k3m1) (c := k3c1) (by decide +kernel) rfl rfl rfl (by decide +kernel)
def codes1 : List Jvm.Cond := [Jvm.Cond.code x code maxLocals ret, Jvm.Cond.code ({ cls := "com/example/coterie/coterie/methods/Communities", name := "renumbered", desc := "([I)[I" } : Jvm.MethodName) prog_20_method_3_code (6 : Nat) (Option.some (Jvm.ClassFile.FieldType.array Jvm.ClassFile.FieldType.int)), Jvm.Cond.code ({ cls := "com/example/coterie/coterie/methods/CommunitiesRenumberedPinLaw", name := "pair", desc := "([I[III)Z" } : Jvm.MethodName) method_2_code (4 : Nat) (Option.some Jvm.ClassFile.FieldType.boolean), Jvm.Cond.code ({ cls := "java/lang/Math", name := "max", desc := "(II)I" } : Jvm.MethodName) jdk_29_method_65_code (2 : Nat) (Option.some Jvm.ClassFile.FieldType.int)]
set_option maxRecDepth 65536 in
theorem codes_eq : words1.filter isCode = codes1 := rfl
theorem w_codes : ∀ c ∈ words1.filter isCode, c.before args0 about1 = true := by
  rw [codes_eq]
  intro c hc
  simp only [codes1, List.mem_cons, List.not_mem_nil, or_false] at hc
  rcases hc with rfl | rfl | rfl | rfl
  · exact w_c0
  · exact w_c1
  · exact w_c2
  · exact w_c3
set_option maxRecDepth 65536 in
theorem w_t1 : words1.all (fun c => isCode c || c.before args0 about1) = true := by decide +kernel
theorem w_tables : (allAtoms (Jvm.Cond.code x code maxLocals ret :: tables_1)).before args0 about1 = true := by
  rw [allAtoms_all]
  show words1.all (fun c => c.before args0 about1) = true
  refine all_split ?_ w_codes
  rw [w_t1]
set_option maxRecDepth 65536 in
theorem w_case : (Jvm.Cond.and given_1 narrow_1).before args0 about1 = true := by decide +kernel
theorem w_applies : (headSpec (Jvm.Cond.code x code maxLocals ret :: tables_1) room_1).applies x e0.platform about1 = true :=
  (Spec.applies_iff w_frames).mpr ⟨w_running, w_runnable, w_alone, w_named, w_hears, w_ripe, w_room, w_tables⟩
theorem atStart : AtStart classFile x code maxLocals ret World_1 tables_1 room_1 Calls_1 rest_1 Pre_1 launch0 p0 e0 about1 theMethod args0 below0 :=
  ⟨lists_1, trivial, launch0.admits_env _ _ _, launch0.least_env, fairChoices_fair.cas, fairChoices_fair.clock, w_frames, w_args, w_heap, w_applies, trivial, trivial, w_case⟩
end start1
theorem witness_1 : WitnessClaimed_1 := ⟨start1.p0, start1.e0, start1.about1, start1.theMethod, start1.args0, start1.below0, start1.atStart⟩
end Jvm.Pilot.@@N@@
