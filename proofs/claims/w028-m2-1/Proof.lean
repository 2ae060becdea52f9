import JvmDerived
import JvmDerived.Pilot.@@N@@Statement
import JvmDerived.Pilot.@@N@@Code
set_option linter.unusedVariables false
set_option linter.unusedSimpArgs false
namespace Jvm.RoadKit
open Sem ClassFile Op Lib Jvm.Stand Jvm.Free Jvm.LawKit
section New
variable {p : Program} {l : Launch} {e : Env} {R : Room} {s : State} {m : MethodId} {args : Array Value} {below : List Frame} {meth : Method} {c : Code} {T : State} {locs : List Loc} {cells slots : Nat}
theorem retI (X : Stand p l e R s m args below meth c T locs cells slots) (hx : p.tables.exec = Jvm.exec) {pc : Nat} {Ls : Array Slot} {z : Int32} {rest : List Value} (hret : meth.sig.returnType = some .int) (hd : decode c.code pc = .ok (.ireturn, 1)) {fs : List Frame}
    (hl : ∀ (f : JFrame) (acts : List Action), f.method = m → f.locked = none → f.entered = [] → (doReturn e (T.setTop f) acts (some (.int z))).1 = T.setFrames fs) : Steps p.tables e below (T.setTop (mkF m pc Ls (.int z :: rest))) (T.setFrames fs) := by
  have hm' : T.vm.method? m = some meth := X.method'
  have hn : narrow .int (.int z) = .int z := rfl
  show Steps p.tables e below (T.setTop { method := m, pc := pc, locals := Ls, stack := _ :: rest, locked := none }) _
  jvm_step X.here [X.here.top, hx, hd, hm', hret, hn]
  first | (intro acts; rw [hl _ acts rfl rfl rfl]) | rw [hl _ _ rfl rfl rfl]
  exact Steps.refl _
end New
end Jvm.RoadKit
namespace Jvm.Pilot.@@N@@
open Jvm Jvm.ClassFile Sem Op Lib Jvm.Free Jvm.Stand Jvm.LawKit Jvm.RoadKit Bundle Jvm.Pilot.@@N@@.Jvm.D
section Own
variable {p : Program} {l : Launch} {e : Env} {R : Room} {s : State} {m : MethodId} {args : Array Value} {below : List Frame} {meth : Method} {c : Code} {T : State} {locs : List Loc} {cells slots : Nat} {Z : State} {a0 : Array Value} {h h' : Heap}
/-- an array of n places, whose j-th holds f j -/
def own_AF (Z : State) (h : Heap) (a : Addr) (ty : FieldType) (n : Nat) (f : Nat → Value) : Prop := n < 2147483648 ∧ ∃ c : Cell, Arr Z h a c ty ∧ c.slots.size = n ∧ ∀ j, j < n → c.slots[j]? = some (f j)
/-- an array of ints, bytes, chars, booleans -/
def own_AI (Z : State) (h : Heap) (a : Addr) (ty : FieldType) (n : Nat) (f : Nat → Int32) : Prop := own_AF Z h a ty n (fun j => .int (f j))
def own_AL (Z : State) (h : Heap) (a : Addr) (n : Nat) (f : Nat → Int64) : Prop := own_AF Z h a .long n (fun j => .long (f j))
def own_upd {α : Type} (f : Nat → α) (i : Nat) (x : α) : Nat → α := fun j => if j = i then x else f j
theorem own_AF.lt {a : Addr} {ty : FieldType} {n : Nat} {f : Nat → Value} (F : own_AF Z h a ty n f) : a < h.size := by obtain ⟨_, c, A, -⟩ := F; exact A.lt
theorem own_AI.lt {a : Addr} {ty : FieldType} {n : Nat} {f : Nat → Int32} (F : own_AI Z h a ty n f) : a < h.size := own_AF.lt F
theorem own_AL.lt {a : Addr} {n : Nat} {f : Nat → Int64} (F : own_AL Z h a n f) : a < h.size := own_AF.lt F
theorem own_AF.keep {a : Addr} {ty : FieldType} {n : Nat} {f : Nat → Value} {ws : List Addr} (F : own_AF Z h a ty n f) (K : Keep h h' ws) (q : a ∉ ws) : own_AF Z h' a ty n f := by
  obtain ⟨b, c, A, r⟩ := F; exact ⟨b, c, ⟨K.2.1 a c A.1 q, A.2⟩, r⟩
theorem own_AI.keep {a : Addr} {ty : FieldType} {n : Nat} {f : Nat → Int32} {ws : List Addr} (F : own_AI Z h a ty n f) (K : Keep h h' ws) (q : a ∉ ws) : own_AI Z h' a ty n f := own_AF.keep F K q
theorem own_AL.keep {a : Addr} {n : Nat} {f : Nat → Int64} {ws : List Addr} (F : own_AL Z h a n f) (K : Keep h h' ws) (q : a ∉ ws) : own_AL Z h' a n f := own_AF.keep F K q
theorem own_AF.congr {a : Addr} {ty : FieldType} {n : Nat} {f g : Nat → Value} (F : own_AF Z h a ty n f) (q : ∀ j, j < n → f j = g j) : own_AF Z h a ty n g := by
  obtain ⟨b, c, A, s, r⟩ := F; exact ⟨b, c, A, s, fun j hj => by rw [r j hj, q j hj]⟩
theorem own_AI.congr {a : Addr} {ty : FieldType} {n : Nat} {f g : Nat → Int32} (F : own_AI Z h a ty n f) (q : ∀ j, j < n → f j = g j) : own_AI Z h a ty n g := own_AF.congr F fun j hj => by show Value.int (f j) = .int (g j); rw [q j hj]
theorem own_AF.wr {a : Addr} {ty : FieldType} {n i : Nat} {f : Nat → Value} {v : Value} (F : own_AF Z h a ty n f) (hi : i < n) (W : Wr h h' a i v) : own_AF Z h' a ty n (own_upd f i v) := by
  obtain ⟨b, c, A, s, r⟩ := F
  refine ⟨b, _, A.same W, by rw [sz_set]; exact s, fun j hj => ?_⟩
  simp only [Cell.setSlot, own_upd, Array.getElem?_setIfInBounds]
  by_cases q : i = j
  · subst q; simp [s, hi]
  · have q' : ¬ j = i := fun e => q e.symm
    simp [q, q', r j hj]
theorem own_AI.wr {a : Addr} {ty : FieldType} {n i : Nat} {f : Nat → Int32} {x : Int32} (F : own_AI Z h a ty n f) (hi : i < n) (W : Wr h h' a i (.int x)) : own_AI Z h' a ty n (own_upd f i x) :=
  (own_AF.wr F hi W).congr fun j hj => by simp only [own_upd]; split <;> rfl
theorem own_AL.wr {a : Addr} {n i : Nat} {f : Nat → Int64} {x : Int64} (F : own_AL Z h a n f) (hi : i < n) (W : Wr h h' a i (.long x)) : own_AL Z h' a n (own_upd f i x) :=
  (own_AF.wr F hi W).congr fun j hj => by simp only [own_upd]; split <;> rfl
theorem own_idx {j : Int32} {i : Nat} (hj : j.toInt = i) : ¬ j < 0 ∧ j.toNatClampNeg = i := by
  refine ⟨by rw [Int32.lt_iff_toInt_lt, Int32.toInt_zero]; omega, ?_⟩
  have := nat_of (j := j) (by rw [Int32.lt_iff_toInt_lt, Int32.toInt_zero]; omega)
  omega
theorem own_inb {j : Int32} {i n : Nat} {cl : Cell} (hj : j.toInt = i) (hi : i < n) (hs : cl.slots.size = n) : ¬ (j < 0 ∨ cl.slots.size ≤ j.toNatClampNeg) := by
  obtain ⟨h1, h2⟩ := own_idx hj
  rintro (q | q)
  · exact h1 q
  · rw [h2, hs] at q; omega
theorem own_ldF {a : Addr} {n i : Nat} {ty : FieldType} {f : Nat → Value} {j : Int32} {v : Value} (A : own_AF Z h a ty n f) (hj : j.toInt = i) (hi : i < n) (hv : f i = v) : ∃ cl : Cell, Arr Z h a cl ty ∧ ¬ (j < 0 ∨ cl.slots.size ≤ j.toNatClampNeg) ∧ cl.slots[j.toNatClampNeg]? = some v := by
  obtain ⟨b, cl, Ar, hs, hf⟩ := A
  exact ⟨cl, Ar, own_inb hj hi hs, by rw [(own_idx hj).2, hf i hi, hv]⟩
theorem own_ldI (X : Stand p l e R s m args below meth c T locs cells slots) (hx : p.tables.exec = Jvm.exec) (hZ : Z.Warmed39 s.vm) (eT : T.heap = h) {a : Addr} {n i : Nat} {f : Nat → Int32} {j x : Int32} (A : own_AI Z h a .int n f) (hj : j.toInt = i) (hi : i < n) (hv : f i = x) {g : JFrame} (hg : g.method = m) {rest : List Value} (hs : g.stack = .int j :: .ref a :: rest) (hd : decode c.code g.pc = .ok (.iaload, 1)) :
    ∀ target, Steps p.tables e below (T.setTop { g with pc := g.pc + 1, stack := .int x :: rest }) target → Steps p.tables e below (T.setTop g) target := by
  obtain ⟨cl, Ar, h1, h2⟩ := own_ldF A hj hi (by rw [hv])
  exact X.iaload hx (by rw [eT]; exact Ar.1) (State.isArrayOf_alike hZ.alike Ar.2.1) Ar.2.2 h1 h2 hg hs hd
theorem own_ldC (X : Stand p l e R s m args below meth c T locs cells slots) (hx : p.tables.exec = Jvm.exec) (hZ : Z.Warmed39 s.vm) (eT : T.heap = h) {a : Addr} {n i : Nat} {f : Nat → Int32} {j x : Int32} (A : own_AI Z h a .char n f) (hj : j.toInt = i) (hi : i < n) (hv : f i = x) {g : JFrame} (hg : g.method = m) {rest : List Value} (hs : g.stack = .int j :: .ref a :: rest) (hd : decode c.code g.pc = .ok (.caload, 1)) :
    ∀ target, Steps p.tables e below (T.setTop { g with pc := g.pc + 1, stack := .int x :: rest }) target → Steps p.tables e below (T.setTop g) target := by
  obtain ⟨cl, Ar, h1, h2⟩ := own_ldF A hj hi (by rw [hv])
  exact X.caload hx (by rw [eT]; exact Ar.1) (State.isArrayOf_alike hZ.alike Ar.2.1) Ar.2.2 h1 h2 hg hs hd
theorem own_ldB (X : Stand p l e R s m args below meth c T locs cells slots) (hx : p.tables.exec = Jvm.exec) (hZ : Z.Warmed39 s.vm) (eT : T.heap = h) {a : Addr} {n i : Nat} {f : Nat → Int32} {j x : Int32} (A : own_AI Z h a .byte n f) (hj : j.toInt = i) (hi : i < n) (hv : f i = x) {g : JFrame} (hg : g.method = m) {rest : List Value} (hs : g.stack = .int j :: .ref a :: rest) (hd : decode c.code g.pc = .ok (.baload, 1)) :
    ∀ target, Steps p.tables e below (T.setTop { g with pc := g.pc + 1, stack := .int x :: rest }) target → Steps p.tables e below (T.setTop g) target := by
  obtain ⟨cl, Ar, h1, h2⟩ := own_ldF A hj hi (by rw [hv])
  exact X.baloadBytes hx (by rw [eT]; exact Ar.1) (State.isArrayOf_alike hZ.alike Ar.2.1) Ar.2.2 h1 h2 hg hs hd
theorem own_ldZ (X : Stand p l e R s m args below meth c T locs cells slots) (hx : p.tables.exec = Jvm.exec) (hZ : Z.Warmed39 s.vm) (eT : T.heap = h) {a : Addr} {n i : Nat} {f : Nat → Int32} {j x : Int32} (A : own_AI Z h a .boolean n f) (hj : j.toInt = i) (hi : i < n) (hv : f i = x) {g : JFrame} (hg : g.method = m) {rest : List Value} (hs : g.stack = .int j :: .ref a :: rest) (hd : decode c.code g.pc = .ok (.baload, 1)) :
    ∀ target, Steps p.tables e below (T.setTop { g with pc := g.pc + 1, stack := .int x :: rest }) target → Steps p.tables e below (T.setTop g) target := by
  obtain ⟨cl, Ar, h1, h2⟩ := own_ldF A hj hi (by rw [hv])
  exact X.baloadBooleans hx (by rw [eT]; exact Ar.1) (State.isArrayOf_alike hZ.alike Ar.2.1) Ar.2.2 h1 h2 hg hs hd
theorem own_ldJ (X : Stand p l e R s m args below meth c T locs cells slots) (hx : p.tables.exec = Jvm.exec) (hZ : Z.Warmed39 s.vm) (eT : T.heap = h) {a : Addr} {n i : Nat} {f : Nat → Int64} {j : Int32} {x : Int64} (A : own_AL Z h a n f) (hj : j.toInt = i) (hi : i < n) (hv : f i = x) {g : JFrame} (hg : g.method = m) {rest : List Value} (hs : g.stack = .int j :: .ref a :: rest) (hd : decode c.code g.pc = .ok (.laload, 1)) :
    ∀ target, Steps p.tables e below (T.setTop { g with pc := g.pc + 1, stack := .long x :: rest }) target → Steps p.tables e below (T.setTop g) target := by
  obtain ⟨cl, Ar, h1, h2⟩ := own_ldF A hj hi (by rw [hv])
  exact X.laload hx (by rw [eT]; exact Ar.1) (State.isArrayOf_alike hZ.alike Ar.2.1) Ar.2.2 h1 h2 hg hs hd
theorem own_ldR (X : Stand p l e R s m args below meth c T locs cells slots) (hx : p.tables.exec = Jvm.exec) (hZ : Z.Warmed39 s.vm) (eT : T.heap = h) {a : Addr} {n i : Nat} {ty : FieldType} {f : Nat → Value} {j : Int32} {v : Value} (hty : ty.isReference = true) (A : own_AF Z h a ty n f) (hj : j.toInt = i) (hi : i < n) (hv : f i = v) {g : JFrame} (hg : g.method = m) {rest : List Value} (hs : g.stack = .int j :: .ref a :: rest) (hd : decode c.code g.pc = .ok (.aaload, 1)) :
    ∀ target, Steps p.tables e below (T.setTop { g with pc := g.pc + 1, stack := v :: rest }) target → Steps p.tables e below (T.setTop g) target := by
  obtain ⟨cl, Ar, h1, h2⟩ := own_ldF A hj hi hv
  exact X.aaload hx (by rw [eT]; exact Ar.1) (State.isArrayOf_alike hZ.alike Ar.2.1) hty Ar.2.2 h1 h2 hg hs hd
theorem own_len (X : Stand p l e R s m args below meth c T locs cells slots) (hx : p.tables.exec = Jvm.exec) (hZ : Z.Warmed39 s.vm) (eT : T.heap = h) {a : Addr} {n : Nat} {ty : FieldType} {f : Nat → Value} {z : Int32} (A : own_AF Z h a ty n f) (hz : z.toInt = n) {g : JFrame} (hg : g.method = m) {rest : List Value} (hs : g.stack = .ref a :: rest) (hd : decode c.code g.pc = .ok (.arraylength, 1)) :
    ∀ target, Steps p.tables e below (T.setTop { g with pc := g.pc + 1, stack := .int z :: rest }) target → Steps p.tables e below (T.setTop g) target := by
  obtain ⟨b, cl, Ar, hs', hf⟩ := A
  intro target k
  refine X.arraylength hx (by rw [eT]; exact Ar.1) (State.isArrayOf_alike hZ.alike Ar.2.1) hg hs hd target ?_
  have q : cl.slots.size.toInt32 = z := by
    apply Int32.toInt_inj.mp
    rw [hs', len_toInt (by omega), hz]
  rw [q]; exact k
theorem own_stI (X : Stand p l e R s m args below meth c T locs cells slots) (hx : p.tables.exec = Jvm.exec) (hZ : Z.Warmed39 s.vm) (eT : T.heap = h) {a : Addr} {n i : Nat} {f : Nat → Int32} {j x : Int32} (A : own_AI Z h a .int n f) (hj : j.toInt = i) (hi : i < n) {g : JFrame} (hg : g.method = m) {rest : List Value} (hs : g.stack = .int x :: .int j :: .ref a :: rest) (hd : decode c.code g.pc = .ok (.iastore, 1)) :
    ∃ T' h', Stand p l e R s m args below meth c T' (locs ++ [⟨a, i⟩]) cells slots ∧ T'.heap = h' ∧ Wr h h' a i (.int x) ∧ own_AI Z h' a .int n (own_upd f i x) ∧ ∀ target, Steps p.tables e below (T'.setTop { g with pc := g.pc + 1, stack := rest }) target → Steps p.tables e below (T.setTop g) target := by
  obtain ⟨cl, Ar, h1, -⟩ := own_ldF A hj hi rfl
  obtain ⟨T', h', X', e', W, st⟩ := stI X hx hZ eT Ar h1 hg hs hd
  rw [(own_idx hj).2] at X' W
  exact ⟨T', h', X', e', W, A.wr hi W, st⟩
theorem own_stB (X : Stand p l e R s m args below meth c T locs cells slots) (hx : p.tables.exec = Jvm.exec) (hZ : Z.Warmed39 s.vm) (eT : T.heap = h) {a : Addr} {n i : Nat} {f : Nat → Int32} {j x : Int32} (A : own_AI Z h a .byte n f) (hj : j.toInt = i) (hi : i < n) {g : JFrame} (hg : g.method = m) {rest : List Value} (hs : g.stack = .int x :: .int j :: .ref a :: rest) (hd : decode c.code g.pc = .ok (.bastore, 1)) :
    ∃ T' h', Stand p l e R s m args below meth c T' (locs ++ [⟨a, i⟩]) cells slots ∧ T'.heap = h' ∧ Wr h h' a i (.int (x.toInt8.toInt32)) ∧ own_AI Z h' a .byte n (own_upd f i (x.toInt8.toInt32)) ∧ ∀ target, Steps p.tables e below (T'.setTop { g with pc := g.pc + 1, stack := rest }) target → Steps p.tables e below (T.setTop g) target := by
  obtain ⟨cl, Ar, h1, -⟩ := own_ldF A hj hi rfl
  obtain ⟨T', h', X', e', W, st⟩ := stB X hx hZ eT Ar h1 hg hs hd
  rw [(own_idx hj).2] at X' W
  exact ⟨T', h', X', e', W, A.wr hi W, st⟩
theorem own_stZ (X : Stand p l e R s m args below meth c T locs cells slots) (hx : p.tables.exec = Jvm.exec) (hZ : Z.Warmed39 s.vm) (eT : T.heap = h) {a : Addr} {n i : Nat} {f : Nat → Int32} {j x : Int32} (A : own_AI Z h a .boolean n f) (hj : j.toInt = i) (hi : i < n) {g : JFrame} (hg : g.method = m) {rest : List Value} (hs : g.stack = .int x :: .int j :: .ref a :: rest) (hd : decode c.code g.pc = .ok (.bastore, 1)) :
    ∃ T' h', Stand p l e R s m args below meth c T' (locs ++ [⟨a, i⟩]) cells slots ∧ T'.heap = h' ∧ Wr h h' a i (.int (x &&& 1)) ∧ own_AI Z h' a .boolean n (own_upd f i (x &&& 1)) ∧ ∀ target, Steps p.tables e below (T'.setTop { g with pc := g.pc + 1, stack := rest }) target → Steps p.tables e below (T.setTop g) target := by
  obtain ⟨cl, Ar, h1, -⟩ := own_ldF A hj hi rfl
  obtain ⟨T', h', X', e', W, st⟩ := stZ X hx hZ eT Ar h1 hg hs hd
  rw [(own_idx hj).2] at X' W
  exact ⟨T', h', X', e', W, A.wr hi W, st⟩
theorem own_stC (X : Stand p l e R s m args below meth c T locs cells slots) (hx : p.tables.exec = Jvm.exec) (hZ : Z.Warmed39 s.vm) (eT : T.heap = h) {a : Addr} {n i : Nat} {f : Nat → Int32} {j x : Int32} (A : own_AI Z h a .char n f) (hj : j.toInt = i) (hi : i < n) {g : JFrame} (hg : g.method = m) {rest : List Value} (hs : g.stack = .int x :: .int j :: .ref a :: rest) (hd : decode c.code g.pc = .ok (.castore, 1)) :
    ∃ T' h', Stand p l e R s m args below meth c T' (locs ++ [⟨a, i⟩]) cells slots ∧ T'.heap = h' ∧ Wr h h' a i (.int (x.toUInt32.toUInt16.toUInt32.toInt32)) ∧ own_AI Z h' a .char n (own_upd f i (x.toUInt32.toUInt16.toUInt32.toInt32)) ∧ ∀ target, Steps p.tables e below (T'.setTop { g with pc := g.pc + 1, stack := rest }) target → Steps p.tables e below (T.setTop g) target := by
  obtain ⟨cl, Ar, h1, -⟩ := own_ldF A hj hi rfl
  obtain ⟨T', h', X', e', W, st⟩ := stC X hx hZ eT Ar h1 hg hs hd
  rw [(own_idx hj).2] at X' W
  exact ⟨T', h', X', e', W, A.wr hi W, st⟩
theorem own_stJ (X : Stand p l e R s m args below meth c T locs cells slots) (hx : p.tables.exec = Jvm.exec) (hZ : Z.Warmed39 s.vm) (eT : T.heap = h) {a : Addr} {n i : Nat} {f : Nat → Int64} {j : Int32} {x : Int64} (A : own_AL Z h a n f) (hj : j.toInt = i) (hi : i < n) {g : JFrame} (hg : g.method = m) {rest : List Value} (hs : g.stack = .long x :: .int j :: .ref a :: rest) (hd : decode c.code g.pc = .ok (.lastore, 1)) :
    ∃ T' h', Stand p l e R s m args below meth c T' (locs ++ [⟨a, i⟩]) cells slots ∧ T'.heap = h' ∧ Wr h h' a i (.long x) ∧ own_AL Z h' a n (own_upd f i x) ∧ ∀ target, Steps p.tables e below (T'.setTop { g with pc := g.pc + 1, stack := rest }) target → Steps p.tables e below (T.setTop g) target := by
  obtain ⟨cl, Ar, h1, -⟩ := own_ldF A hj hi rfl
  obtain ⟨T', h', X', e', W, st⟩ := stJ X hx hZ eT Ar h1 hg hs hd
  rw [(own_idx hj).2] at X' W
  exact ⟨T', h', X', e', W, A.wr hi W, st⟩
theorem own_newF {a : Addr} {cA : ClassId} {ty : FieldType} {n : Int32} {i : Nat} (hn : n.toInt = i) (A : Arr Z h a (newA cA ty n) ty) : own_AF Z h a ty i (fun _ => defaultValue ty) := by
  obtain ⟨h1, h2⟩ := own_idx hn
  have := n.toInt_lt
  refine ⟨by omega, _, A, by rw [sz_new, h2], fun j hj => ?_⟩
  simp [newA, h2, hj]
theorem own_newI {a : Addr} {cA : ClassId} {ty : FieldType} {n : Int32} {i : Nat} (hn : n.toInt = i) (A : Arr Z h a (newA cA ty n) ty) (hd : defaultValue ty = .int 0) : own_AI Z h a ty i (fun _ => 0) :=
  (own_newF hn A).congr fun _ _ => hd
theorem own_newL {a : Addr} {cA : ClassId} {n : Int32} {i : Nat} (hn : n.toInt = i) (A : Arr Z h a (newA cA .long n) .long) : own_AL Z h a i (fun _ => 0) :=
  (own_newF hn A).congr fun _ _ => rfl
theorem own_Sta.keep {C n d : String} {v : Value} {ws : List Addr} (F : Sta Z h C n d v) (K : Keep h h' ws) (q : ∀ x ∈ ws, ∀ cl : Cell, h[x]? = some cl → cl.vm.isStatics = false) : Sta Z h' C n d v := by
  obtain ⟨cf, i, k, f, st, cell, h1, h2, h3, h4, h5, h6, h7⟩ := F
  refine ⟨cf, i, k, f, st, cell, h1, h2, h3, h4, K.2.1 st cell h5 (fun q' => ?_), h6, h7⟩
  have := q st q' cell h5
  rw [h6] at this; cases this
theorem own_selP {args : Array Value} {C : String} {y y' : MethodName} (hcls : y'.cls = y.cls) (hs : (Jvm.Cond.selects C y' y').before args s = true) (hi' : (Jvm.Cond.instanceMethod y').before args s = true) (hp : (Jvm.Cond.privateMethod y).before args s = true) (hi : (Jvm.Cond.instanceMethod y).before args s = true) (hy : y.cls ≠ "java/lang/invoke/MethodHandle" ∧ y.cls ≠ "java/lang/invoke/VarHandle") : (Jvm.Cond.selects y.cls y y).before args s = true := by
  obtain ⟨mk, methM, hnamed, -⟩ := Cond.instanceMethod_spec hi'
  obtain ⟨kr, hk, hni⟩ := notFace_of_selects hs mk hnamed
  have hc := findClass_of_methodNamed hnamed
  rw [hcls] at hc
  exact selects_self_of_private hc hk hni (Cond.privateMethod_at hp) hi hy
end Own
theorem own_nz {c : Int32} (h : 1 ≤ c.toInt) : c.toInt64 ≠ 0 := fun q => by
  have := congrArg Int64.toInt q
  rw [c_i2l] at this
  have e : (0 : Int64).toInt = 0 := by decide
  omega

theorem d1_0 : decode jdk_29_method_65_code 0 = .ok (.iload_n 0, 1) := by decide +kernel
theorem d1_1 : decode jdk_29_method_65_code 1 = .ok (.iload_n 1, 1) := by decide +kernel
theorem d1_2 : decode jdk_29_method_65_code 2 = .ok (.if_icmp .lt 7, 3) := by decide +kernel
theorem d1_5 : decode jdk_29_method_65_code 5 = .ok (.iload_n 0, 1) := by decide +kernel
theorem d1_6 : decode jdk_29_method_65_code 6 = .ok (.goto 4, 3) := by decide +kernel
theorem d1_9 : decode jdk_29_method_65_code 9 = .ok (.iload_n 1, 1) := by decide +kernel
theorem d1_10 : decode jdk_29_method_65_code 10 = .ok (.ireturn, 1) := by decide +kernel
theorem ef_1 (m : MethodId) (x0 : Int32) (x1 : Int32) : entryFrame m #[(.int x0), (.int x1)] 2 = mkF m 0 #[.val (.int x0), .val (.int x1)] [] := by first | (simp [entryFrame, mkF, argsToLocals, Value.category]; done) | rfl
def own_max (p0 : Int32) (p1 : Int32) : Int32 := (if p0 < p1 then p1 else p0)
theorem own_eq_own_max (p0 : Int32) (p1 : Int32) : own_max p0 p1 = (if p0 < p1 then p1 else p0) := rfl
def Q1 (Z : State) (p0 : Int32) (p1 : Int32) (h0 : Heap) (n0 : Nat) (v : Option Value) (h : Heap) (L : List Loc) : Prop := v = some (.int (own_max p0 p1)) ∧ Fr n0 L ∧ h = h0
set_option maxRecDepth 65536 in
set_option maxHeartbeats 40000000 in
theorem rm1 (l : Launch) (Z : State) (a0 : Array Value) (hw : ∀ d ∈ tables_1, d.before a0 Z = true) (ws : List Jvm.Cond) (p0 : Int32) (p1 : Int32) (h0 : Heap) (n0 : Nat) :
    MetFree l (⟨"java/lang/Math", "max", "(II)I"⟩ : MethodName) (head1 (Jvm.Cond.code (⟨"java/lang/Math", "max", "(II)I"⟩ : MethodName) jdk_29_method_65_code 2 (some .int) :: ws) ({ frames := 0, cells := 0, slots := 0, locals := 0 } : Room)) (fun aa UU => aa = #[(.int p0), (.int p1)] ∧ Z.Warmed39 UU.vm ∧ UU.heap = h0) (fun _ _ _ _ _ => True) (fun _ UU oo UV => ∃ vv LL, oo = .returned vv ∧ Q1 Z p0 p1 h0 n0 vv UV.heap LL ∧ FrameEnd UU oo UV LL ({ frames := 0, cells := 0, slots := 0, locals := 0 } : Room).cells ({ frames := 0, cells := 0, slots := 0, locals := 0 } : Room).slots) := by
  refine MetFree.of_bodySF (Jvm.Free.JP.mathPlain rfl (by decide +kernel)) hisR ?_
  intro p e s m args below meth c s₁ Bd hml0 hP hK
  obtain ⟨rfl, hZ, hh⟩ := hP
  have hx := Bd.exec
  have hby := Bd.bytes
  have hml : c.maxLocals = 2 := hml0
  have hown : s.vm.findClass "java/lang/Math" = some m.cls := findClass_of_methodNamed Bd.named
  have hnm := (name_of_methodNamed Bd.named Bd.method).1
  have X0 : Stand p l e ({ frames := 0, cells := 0, slots := 0, locals := 0 } : Room) s m #[(.int p0), (.int p1)] below meth c s₁ [] 0 0 := Stand.of_body Bd
  have e0 : s₁.heap = h0 := by rw [← hh, Bd.state]; rfl
  have N0 := Fr.nil n0
  have k0 : ∀ t, Steps p.tables e below (s₁.setTop (mkF m 0 #[.val (.int p0), .val (.int p1)] [])) t → Steps p.tables e below (s₁.setTop (entryFrame m #[(.int p0), (.int p1)] 2)) t := fun t k => castTop (ef_1 m p0 p1) k
  have k1 : ∀ t, Steps p.tables e below (s₁.setTop (mkF m 2 #[.val (.int p0), .val (.int p1)] [(.int p1), (.int p0)])) t → Steps p.tables e below (s₁.setTop (entryFrame m #[(.int p0), (.int p1)] 2)) t := by
    intro t kt
    refine k0 t ?_
    refine XS.iloadN X0.here hx rfl (hb hby d1_0) rfl ?_
    show Steps p.tables e below (s₁.setTop (mkF m 1 #[.val (.int p0), .val (.int p1)] [(.int p0)])) _
    refine XS.iloadN X0.here hx rfl (hb hby d1_1) rfl ?_
    show Steps p.tables e below (s₁.setTop (mkF m 2 #[.val (.int p0), .val (.int p1)] [(.int p1), (.int p0)])) _
    exact kt
  by_cases hc2_2 : p0 < p1
  · have k3 : ∀ t, Steps p.tables e below (s₁.setTop (mkF m 10 #[.val (.int p0), .val (.int p1)] [(.int p1)])) t → Steps p.tables e below (s₁.setTop (entryFrame m #[(.int p0), (.int p1)] 2)) t := by
      intro t kt
      refine k1 t ?_
      refine XS.icmpYes X0.here hx rfl (pc0 := 2) (pc' := 9) rfl (hb hby d1_2) rfl (tlt hc2_2).1 (by decide) (by decide) ?_
      show Steps p.tables e below (s₁.setTop (mkF m 9 #[.val (.int p0), .val (.int p1)] [])) _
      refine XS.iloadN X0.here hx rfl (hb hby d1_9) rfl ?_
      show Steps p.tables e below (s₁.setTop (mkF m 10 #[.val (.int p0), .val (.int p1)] [(.int p1)])) _
      exact kt
    obtain ⟨fs, hr, hrun, hended, hW, hsame⟩ := X0.leave (v := some (.int p1)) (fun h => by rw [Bd.returns] at h; cases h)
    refine ⟨_, _, k3 _ (retI X0 hx Bd.returns (hb hby d1_10) hr), hrun, hended, _, _, rfl, ?_, ⟨_, rfl⟩, hW, hsame.mono (by decide) (by decide)⟩
    show Q1 Z p0 p1 h0 n0 _ s₁.heap _
    rw [e0]
    exact ⟨(by rw [own_eq_own_max]; rw [if_pos hc2_2]), N0, rfl⟩
  · have k4 : ∀ t, Steps p.tables e below (s₁.setTop (mkF m 10 #[.val (.int p0), .val (.int p1)] [(.int p0)])) t → Steps p.tables e below (s₁.setTop (entryFrame m #[(.int p0), (.int p1)] 2)) t := by
      intro t kt
      refine k1 t ?_
      refine XS.icmpNo X0.here hx rfl (hb hby d1_2) rfl (flt hc2_2).1 ?_
      show Steps p.tables e below (s₁.setTop (mkF m 5 #[.val (.int p0), .val (.int p1)] [])) _
      refine XS.iloadN X0.here hx rfl (hb hby d1_5) rfl ?_
      show Steps p.tables e below (s₁.setTop (mkF m 6 #[.val (.int p0), .val (.int p1)] [(.int p0)])) _
      refine XS.goto X0.here hx rfl (pc0 := 6) (pc' := 10) rfl (hb hby d1_6) (by decide) (by decide) ?_
      show Steps p.tables e below (s₁.setTop (mkF m 10 #[.val (.int p0), .val (.int p1)] [(.int p0)])) _
      exact kt
    obtain ⟨fs, hr, hrun, hended, hW, hsame⟩ := X0.leave (v := some (.int p0)) (fun h => by rw [Bd.returns] at h; cases h)
    refine ⟨_, _, k4 _ (retI X0 hx Bd.returns (hb hby d1_10) hr), hrun, hended, _, _, rfl, ?_, ⟨_, rfl⟩, hW, hsame.mono (by decide) (by decide)⟩
    show Q1 Z p0 p1 h0 n0 _ s₁.heap _
    rw [e0]
    exact ⟨(by rw [own_eq_own_max]; rw [if_neg hc2_2]), N0, rfl⟩
theorem d4_0 : decode jdk_29_method_69_code 0 = .ok (.iload_n 0, 1) := by decide +kernel
theorem d4_1 : decode jdk_29_method_69_code 1 = .ok (.iload_n 1, 1) := by decide +kernel
theorem d4_2 : decode jdk_29_method_69_code 2 = .ok (.if_icmp .gt 7, 3) := by decide +kernel
theorem d4_5 : decode jdk_29_method_69_code 5 = .ok (.iload_n 0, 1) := by decide +kernel
theorem d4_6 : decode jdk_29_method_69_code 6 = .ok (.goto 4, 3) := by decide +kernel
theorem d4_9 : decode jdk_29_method_69_code 9 = .ok (.iload_n 1, 1) := by decide +kernel
theorem d4_10 : decode jdk_29_method_69_code 10 = .ok (.ireturn, 1) := by decide +kernel
theorem ef_4 (m : MethodId) (x0 : Int32) (x1 : Int32) : entryFrame m #[(.int x0), (.int x1)] 2 = mkF m 0 #[.val (.int x0), .val (.int x1)] [] := by first | (simp [entryFrame, mkF, argsToLocals, Value.category]; done) | rfl
def own_min (p0 : Int32) (p1 : Int32) : Int32 := (if p1 < p0 then p1 else p0)
theorem own_eq_own_min (p0 : Int32) (p1 : Int32) : own_min p0 p1 = (if p1 < p0 then p1 else p0) := rfl
def Q4 (Z : State) (p0 : Int32) (p1 : Int32) (h0 : Heap) (n0 : Nat) (v : Option Value) (h : Heap) (L : List Loc) : Prop := v = some (.int (own_min p0 p1)) ∧ Fr n0 L ∧ h = h0
set_option maxRecDepth 65536 in
set_option maxHeartbeats 40000000 in
theorem rm4 (l : Launch) (Z : State) (a0 : Array Value) (hw : ∀ d ∈ tables_1, d.before a0 Z = true) (ws : List Jvm.Cond) (p0 : Int32) (p1 : Int32) (h0 : Heap) (n0 : Nat) :
    MetFree l (⟨"java/lang/Math", "min", "(II)I"⟩ : MethodName) (head1 (Jvm.Cond.code (⟨"java/lang/Math", "min", "(II)I"⟩ : MethodName) jdk_29_method_69_code 2 (some .int) :: ws) ({ frames := 0, cells := 0, slots := 0, locals := 0 } : Room)) (fun aa UU => aa = #[(.int p0), (.int p1)] ∧ Z.Warmed39 UU.vm ∧ UU.heap = h0) (fun _ _ _ _ _ => True) (fun _ UU oo UV => ∃ vv LL, oo = .returned vv ∧ Q4 Z p0 p1 h0 n0 vv UV.heap LL ∧ FrameEnd UU oo UV LL ({ frames := 0, cells := 0, slots := 0, locals := 0 } : Room).cells ({ frames := 0, cells := 0, slots := 0, locals := 0 } : Room).slots) := by
  refine MetFree.of_bodySF (Jvm.Free.JP.mathPlain rfl (by decide +kernel)) hisR ?_
  intro p e s m args below meth c s₁ Bd hml0 hP hK
  obtain ⟨rfl, hZ, hh⟩ := hP
  have hx := Bd.exec
  have hby := Bd.bytes
  have hml : c.maxLocals = 2 := hml0
  have hown : s.vm.findClass "java/lang/Math" = some m.cls := findClass_of_methodNamed Bd.named
  have hnm := (name_of_methodNamed Bd.named Bd.method).1
  have X0 : Stand p l e ({ frames := 0, cells := 0, slots := 0, locals := 0 } : Room) s m #[(.int p0), (.int p1)] below meth c s₁ [] 0 0 := Stand.of_body Bd
  have e0 : s₁.heap = h0 := by rw [← hh, Bd.state]; rfl
  have N0 := Fr.nil n0
  have k0 : ∀ t, Steps p.tables e below (s₁.setTop (mkF m 0 #[.val (.int p0), .val (.int p1)] [])) t → Steps p.tables e below (s₁.setTop (entryFrame m #[(.int p0), (.int p1)] 2)) t := fun t k => castTop (ef_4 m p0 p1) k
  have k5 : ∀ t, Steps p.tables e below (s₁.setTop (mkF m 2 #[.val (.int p0), .val (.int p1)] [(.int p1), (.int p0)])) t → Steps p.tables e below (s₁.setTop (entryFrame m #[(.int p0), (.int p1)] 2)) t := by
    intro t kt
    refine k0 t ?_
    refine XS.iloadN X0.here hx rfl (hb hby d4_0) rfl ?_
    show Steps p.tables e below (s₁.setTop (mkF m 1 #[.val (.int p0), .val (.int p1)] [(.int p0)])) _
    refine XS.iloadN X0.here hx rfl (hb hby d4_1) rfl ?_
    show Steps p.tables e below (s₁.setTop (mkF m 2 #[.val (.int p0), .val (.int p1)] [(.int p1), (.int p0)])) _
    exact kt
  by_cases hc2_6 : p1 < p0
  · have k7 : ∀ t, Steps p.tables e below (s₁.setTop (mkF m 10 #[.val (.int p0), .val (.int p1)] [(.int p1)])) t → Steps p.tables e below (s₁.setTop (entryFrame m #[(.int p0), (.int p1)] 2)) t := by
      intro t kt
      refine k5 t ?_
      refine XS.icmpYes X0.here hx rfl (pc0 := 2) (pc' := 9) rfl (hb hby d4_2) rfl (tlt hc2_6).2.2.1 (by decide) (by decide) ?_
      show Steps p.tables e below (s₁.setTop (mkF m 9 #[.val (.int p0), .val (.int p1)] [])) _
      refine XS.iloadN X0.here hx rfl (hb hby d4_9) rfl ?_
      show Steps p.tables e below (s₁.setTop (mkF m 10 #[.val (.int p0), .val (.int p1)] [(.int p1)])) _
      exact kt
    obtain ⟨fs, hr, hrun, hended, hW, hsame⟩ := X0.leave (v := some (.int p1)) (fun h => by rw [Bd.returns] at h; cases h)
    refine ⟨_, _, k7 _ (retI X0 hx Bd.returns (hb hby d4_10) hr), hrun, hended, _, _, rfl, ?_, ⟨_, rfl⟩, hW, hsame.mono (by decide) (by decide)⟩
    show Q4 Z p0 p1 h0 n0 _ s₁.heap _
    rw [e0]
    exact ⟨(by rw [own_eq_own_min]; rw [if_pos hc2_6]), N0, rfl⟩
  · have k8 : ∀ t, Steps p.tables e below (s₁.setTop (mkF m 10 #[.val (.int p0), .val (.int p1)] [(.int p0)])) t → Steps p.tables e below (s₁.setTop (entryFrame m #[(.int p0), (.int p1)] 2)) t := by
      intro t kt
      refine k5 t ?_
      refine XS.icmpNo X0.here hx rfl (hb hby d4_2) rfl (flt hc2_6).2.2.1 ?_
      show Steps p.tables e below (s₁.setTop (mkF m 5 #[.val (.int p0), .val (.int p1)] [])) _
      refine XS.iloadN X0.here hx rfl (hb hby d4_5) rfl ?_
      show Steps p.tables e below (s₁.setTop (mkF m 6 #[.val (.int p0), .val (.int p1)] [(.int p0)])) _
      refine XS.goto X0.here hx rfl (pc0 := 6) (pc' := 10) rfl (hb hby d4_6) (by decide) (by decide) ?_
      show Steps p.tables e below (s₁.setTop (mkF m 10 #[.val (.int p0), .val (.int p1)] [(.int p0)])) _
      exact kt
    obtain ⟨fs, hr, hrun, hended, hW, hsame⟩ := X0.leave (v := some (.int p0)) (fun h => by rw [Bd.returns] at h; cases h)
    refine ⟨_, _, k8 _ (retI X0 hx Bd.returns (hb hby d4_10) hr), hrun, hended, _, _, rfl, ?_, ⟨_, rfl⟩, hW, hsame.mono (by decide) (by decide)⟩
    show Q4 Z p0 p1 h0 n0 _ s₁.heap _
    rw [e0]
    exact ⟨(by rw [own_eq_own_min]; rw [if_neg hc2_6]), N0, rfl⟩
theorem d3_0 : decode prog_20_method_8_code 0 = .ok (.iload_n 0, 1) := by decide +kernel
theorem d3_1 : decode prog_20_method_8_code 1 = .ok (.i2l, 1) := by decide +kernel
theorem d3_2 : decode prog_20_method_8_code 2 = .ok (.ldc2_w 168, 3) := by decide +kernel
theorem d3_5 : decode prog_20_method_8_code 5 = .ok (.iload_n 1, 1) := by decide +kernel
theorem d3_6 : decode prog_20_method_8_code 6 = .ok (.i2l, 1) := by decide +kernel
theorem d3_7 : decode prog_20_method_8_code 7 = .ok (.lmul, 1) := by decide +kernel
theorem d3_8 : decode prog_20_method_8_code 8 = .ok (.lcmp, 1) := by decide +kernel
theorem d3_9 : decode prog_20_method_8_code 9 = .ok (.ifCond .ge 7, 3) := by decide +kernel
theorem d3_12 : decode prog_20_method_8_code 12 = .ok (.iconst 1, 1) := by decide +kernel
theorem d3_13 : decode prog_20_method_8_code 13 = .ok (.goto 13, 3) := by decide +kernel
theorem d3_16 : decode prog_20_method_8_code 16 = .ok (.iload_n 0, 1) := by decide +kernel
theorem d3_17 : decode prog_20_method_8_code 17 = .ok (.i2l, 1) := by decide +kernel
theorem d3_18 : decode prog_20_method_8_code 18 = .ok (.lconst 1, 1) := by decide +kernel
theorem d3_19 : decode prog_20_method_8_code 19 = .ok (.lsub, 1) := by decide +kernel
theorem d3_20 : decode prog_20_method_8_code 20 = .ok (.iload_n 1, 1) := by decide +kernel
theorem d3_21 : decode prog_20_method_8_code 21 = .ok (.i2l, 1) := by decide +kernel
theorem d3_22 : decode prog_20_method_8_code 22 = .ok (.ldiv, 1) := by decide +kernel
theorem d3_23 : decode prog_20_method_8_code 23 = .ok (.lconst 1, 1) := by decide +kernel
theorem d3_24 : decode prog_20_method_8_code 24 = .ok (.ladd, 1) := by decide +kernel
theorem d3_25 : decode prog_20_method_8_code 25 = .ok (.l2i, 1) := by decide +kernel
theorem d3_26 : decode prog_20_method_8_code 26 = .ok (.ireturn, 1) := by decide +kernel
theorem pn_3 : plainName "com/example/fieldstone/fieldstone/format/CompressedStoredFields" = true := by first | (simp [plainName, overriddenIn]; done) | decide +kernel
theorem ef_3 (m : MethodId) (x0 : Int32) (x1 : Int32) : entryFrame m #[(.int x0), (.int x1)] 2 = mkF m 0 #[.val (.int x0), .val (.int x1)] [] := by first | (simp [entryFrame, mkF, argsToLocals, Value.category]; done) | rfl
def own_bc (p0 : Int32) (p1 : Int32) : Int32 := (if (p0.toInt64) < ((2 : Int64) * (p1.toInt64)) then (1 : Int32) else (((((p0.toInt64) - (1 : Int64)) / (p1.toInt64)) + (1 : Int64)).toInt32))
theorem own_eq_own_bc (p0 : Int32) (p1 : Int32) : own_bc p0 p1 = (if (p0.toInt64) < ((2 : Int64) * (p1.toInt64)) then (1 : Int32) else (((((p0.toInt64) - (1 : Int64)) / (p1.toInt64)) + (1 : Int64)).toInt32)) := rfl
def Q3 (Z : State) (p0 : Int32) (p1 : Int32) (h0 : Heap) (n0 : Nat) (v : Option Value) (h : Heap) (L : List Loc) : Prop := v = some (.int (own_bc p0 p1)) ∧ Fr n0 L ∧ h = h0
set_option maxRecDepth 65536 in
set_option maxHeartbeats 40000000 in
theorem rm3 (l : Launch) (Z : State) (a0 : Array Value) (hw : ∀ d ∈ tables_1, d.before a0 Z = true) (ws : List Jvm.Cond) (p0 : Int32) (p1 : Int32) (h0 : Heap) (n0 : Nat) (hp1 : p1.toInt64 ≠ 0) :
    MetFree l (⟨"com/example/fieldstone/fieldstone/format/CompressedStoredFields", "blockCount", "(II)I"⟩ : MethodName) (head1 (Jvm.Cond.code (⟨"com/example/fieldstone/fieldstone/format/CompressedStoredFields", "blockCount", "(II)I"⟩ : MethodName) prog_20_method_8_code 2 (some .int) :: ws) ({ frames := 0, cells := 0, slots := 0, locals := 0 } : Room)) (fun aa UU => aa = #[(.int p0), (.int p1)] ∧ Z.Warmed39 UU.vm ∧ UU.heap = h0) (fun _ _ _ _ _ => True) (fun _ UU oo UV => ∃ vv LL, oo = .returned vv ∧ Q3 Z p0 p1 h0 n0 vv UV.heap LL ∧ FrameEnd UU oo UV LL ({ frames := 0, cells := 0, slots := 0, locals := 0 } : Room).cells ({ frames := 0, cells := 0, slots := 0, locals := 0 } : Room).slots) := by
  refine MetFree.of_bodySF (plainFor_of_name pn_3) hisR ?_
  intro p e s m args below meth c s₁ Bd hml0 hP hK
  obtain ⟨rfl, hZ, hh⟩ := hP
  have hx := Bd.exec
  have hby := Bd.bytes
  have hml : c.maxLocals = 2 := hml0
  have hown : s.vm.findClass "com/example/fieldstone/fieldstone/format/CompressedStoredFields" = some m.cls := findClass_of_methodNamed Bd.named
  have hnm := (name_of_methodNamed Bd.named Bd.method).1
  have X0 : Stand p l e ({ frames := 0, cells := 0, slots := 0, locals := 0 } : Room) s m #[(.int p0), (.int p1)] below meth c s₁ [] 0 0 := Stand.of_body Bd
  have e0 : s₁.heap = h0 := by rw [← hh, Bd.state]; rfl
  have N0 := Fr.nil n0
  have k0 : ∀ t, Steps p.tables e below (s₁.setTop (mkF m 0 #[.val (.int p0), .val (.int p1)] [])) t → Steps p.tables e below (s₁.setTop (entryFrame m #[(.int p0), (.int p1)] 2)) t := fun t k => castTop (ef_3 m p0 p1) k
  have k9 : ∀ t, Steps p.tables e below (s₁.setTop (mkF m 9 #[.val (.int p0), .val (.int p1)] [(.int (lcmpW (p0.toInt64) ((2 : Int64) * (p1.toInt64))))])) t → Steps p.tables e below (s₁.setTop (entryFrame m #[(.int p0), (.int p1)] 2)) t := by
    intro t kt
    refine k0 t ?_
    refine XS.iloadN X0.here hx rfl (hb hby d3_0) rfl ?_
    show Steps p.tables e below (s₁.setTop (mkF m 1 #[.val (.int p0), .val (.int p1)] [(.int p0)])) _
    refine XS.i2l X0.here hx rfl (hb hby d3_1) rfl ?_
    show Steps p.tables e below (s₁.setTop (mkF m 2 #[.val (.int p0), .val (.int p1)] [(.long (p0.toInt64))])) _
    refine X0.ldc2Long hx hown (mvT hZ (hw _ (List.mem_of_getElem? (i := 12) rfl))) (g := (mkF m 2 #[.val (.int p0), .val (.int p1)] [(.long (p0.toInt64))])) rfl (hb hby d3_2) _ ?_
    show Steps p.tables e below (s₁.setTop (mkF m 5 #[.val (.int p0), .val (.int p1)] [(.long (2 : Int64)), (.long (p0.toInt64))])) _
    refine XS.iloadN X0.here hx rfl (hb hby d3_5) rfl ?_
    show Steps p.tables e below (s₁.setTop (mkF m 6 #[.val (.int p0), .val (.int p1)] [(.int p1), (.long (2 : Int64)), (.long (p0.toInt64))])) _
    refine XS.i2l X0.here hx rfl (hb hby d3_6) rfl ?_
    show Steps p.tables e below (s₁.setTop (mkF m 7 #[.val (.int p0), .val (.int p1)] [(.long (p1.toInt64)), (.long (2 : Int64)), (.long (p0.toInt64))])) _
    refine XS.lmul X0.here hx rfl (hb hby d3_7) rfl ?_
    show Steps p.tables e below (s₁.setTop (mkF m 8 #[.val (.int p0), .val (.int p1)] [(.long ((2 : Int64) * (p1.toInt64))), (.long (p0.toInt64))])) _
    refine XS.lcmp X0.here hx rfl (hb hby d3_8) rfl ?_
    show Steps p.tables e below (s₁.setTop (mkF m 9 #[.val (.int p0), .val (.int p1)] [(.int (lcmpW (p0.toInt64) ((2 : Int64) * (p1.toInt64))))])) _
    exact kt
  by_cases hc9_10 : (p0.toInt64) < ((2 : Int64) * (p1.toInt64))
  · have k11 : ∀ t, Steps p.tables e below (s₁.setTop (mkF m 26 #[.val (.int p0), .val (.int p1)] [(.int (1 : Int32))])) t → Steps p.tables e below (s₁.setTop (entryFrame m #[(.int p0), (.int p1)] 2)) t := by
      intro t kt
      refine k9 t ?_
      refine XS.ifNo X0.here hx rfl (hb hby d3_9) rfl ((if0 _ _).trans (tlt ((show ((lcmpW (p0.toInt64) ((2 : Int64) * (p1.toInt64))) < 0) ↔ ((p0.toInt64) < ((2 : Int64) * (p1.toInt64))) from lw_lt (p0.toInt64) ((2 : Int64) * (p1.toInt64))).mpr hc9_10)).2.1) ?_
      show Steps p.tables e below (s₁.setTop (mkF m 12 #[.val (.int p0), .val (.int p1)] [])) _
      refine XS.iconst X0.here hx rfl (hb hby d3_12) ?_
      show Steps p.tables e below (s₁.setTop (mkF m 13 #[.val (.int p0), .val (.int p1)] [(.int (1 : Int32))])) _
      refine XS.goto X0.here hx rfl (pc0 := 13) (pc' := 26) rfl (hb hby d3_13) (by decide) (by decide) ?_
      show Steps p.tables e below (s₁.setTop (mkF m 26 #[.val (.int p0), .val (.int p1)] [(.int (1 : Int32))])) _
      exact kt
    obtain ⟨fs, hr, hrun, hended, hW, hsame⟩ := X0.leave (v := some (.int (1 : Int32))) (fun h => by rw [Bd.returns] at h; cases h)
    refine ⟨_, _, k11 _ (retI X0 hx Bd.returns (hb hby d3_26) hr), hrun, hended, _, _, rfl, ?_, ⟨_, rfl⟩, hW, hsame.mono (by decide) (by decide)⟩
    show Q3 Z p0 p1 h0 n0 _ s₁.heap _
    rw [e0]
    exact ⟨(by rw [own_eq_own_bc]; rw [if_pos hc9_10]), N0, rfl⟩
  · have k12 : ∀ t, Steps p.tables e below (s₁.setTop (mkF m 26 #[.val (.int p0), .val (.int p1)] [(.int (((((p0.toInt64) - (1 : Int64)) / (p1.toInt64)) + (1 : Int64)).toInt32))])) t → Steps p.tables e below (s₁.setTop (entryFrame m #[(.int p0), (.int p1)] 2)) t := by
      intro t kt
      refine k9 t ?_
      refine XS.ifYes X0.here hx rfl (pc0 := 9) (pc' := 16) rfl (hb hby d3_9) rfl ((if0 _ _).trans (flt (fun qq_ => hc9_10 ((show ((lcmpW (p0.toInt64) ((2 : Int64) * (p1.toInt64))) < 0) ↔ ((p0.toInt64) < ((2 : Int64) * (p1.toInt64))) from lw_lt (p0.toInt64) ((2 : Int64) * (p1.toInt64))).mp qq_))).2.1) (by decide) (by decide) ?_
      show Steps p.tables e below (s₁.setTop (mkF m 16 #[.val (.int p0), .val (.int p1)] [])) _
      refine XS.iloadN X0.here hx rfl (hb hby d3_16) rfl ?_
      show Steps p.tables e below (s₁.setTop (mkF m 17 #[.val (.int p0), .val (.int p1)] [(.int p0)])) _
      refine XS.i2l X0.here hx rfl (hb hby d3_17) rfl ?_
      show Steps p.tables e below (s₁.setTop (mkF m 18 #[.val (.int p0), .val (.int p1)] [(.long (p0.toInt64))])) _
      refine XS.lconst X0.here hx rfl (hb hby d3_18) ?_
      show Steps p.tables e below (s₁.setTop (mkF m 19 #[.val (.int p0), .val (.int p1)] [(.long (1 : Int64)), (.long (p0.toInt64))])) _
      refine XS.lsub X0.here hx rfl (hb hby d3_19) rfl ?_
      show Steps p.tables e below (s₁.setTop (mkF m 20 #[.val (.int p0), .val (.int p1)] [(.long ((p0.toInt64) - (1 : Int64)))])) _
      refine XS.iloadN X0.here hx rfl (hb hby d3_20) rfl ?_
      show Steps p.tables e below (s₁.setTop (mkF m 21 #[.val (.int p0), .val (.int p1)] [(.int p1), (.long ((p0.toInt64) - (1 : Int64)))])) _
      refine XS.i2l X0.here hx rfl (hb hby d3_21) rfl ?_
      show Steps p.tables e below (s₁.setTop (mkF m 22 #[.val (.int p0), .val (.int p1)] [(.long (p1.toInt64)), (.long ((p0.toInt64) - (1 : Int64)))])) _
      refine XS.ldiv X0.here hx rfl (hb hby d3_22) rfl hp1 ?_
      show Steps p.tables e below (s₁.setTop (mkF m 23 #[.val (.int p0), .val (.int p1)] [(.long (((p0.toInt64) - (1 : Int64)) / (p1.toInt64)))])) _
      refine XS.lconst X0.here hx rfl (hb hby d3_23) ?_
      show Steps p.tables e below (s₁.setTop (mkF m 24 #[.val (.int p0), .val (.int p1)] [(.long (1 : Int64)), (.long (((p0.toInt64) - (1 : Int64)) / (p1.toInt64)))])) _
      refine XS.ladd X0.here hx rfl (hb hby d3_24) rfl ?_
      show Steps p.tables e below (s₁.setTop (mkF m 25 #[.val (.int p0), .val (.int p1)] [(.long ((((p0.toInt64) - (1 : Int64)) / (p1.toInt64)) + (1 : Int64)))])) _
      refine XS.l2i X0.here hx rfl (hb hby d3_25) rfl ?_
      show Steps p.tables e below (s₁.setTop (mkF m 26 #[.val (.int p0), .val (.int p1)] [(.int (((((p0.toInt64) - (1 : Int64)) / (p1.toInt64)) + (1 : Int64)).toInt32))])) _
      exact kt
    obtain ⟨fs, hr, hrun, hended, hW, hsame⟩ := X0.leave (v := some (.int (((((p0.toInt64) - (1 : Int64)) / (p1.toInt64)) + (1 : Int64)).toInt32))) (fun h => by rw [Bd.returns] at h; cases h)
    refine ⟨_, _, k12 _ (retI X0 hx Bd.returns (hb hby d3_26) hr), hrun, hended, _, _, rfl, ?_, ⟨_, rfl⟩, hW, hsame.mono (by decide) (by decide)⟩
    show Q3 Z p0 p1 h0 n0 _ s₁.heap _
    rw [e0]
    exact ⟨(by rw [own_eq_own_bc]; rw [if_neg hc9_10]), N0, rfl⟩
theorem pd_0 : parseMethodDescriptor "(II)I" = some ⟨[.int, .int], some .int⟩ := by decide +kernel
theorem d2_0 : decode prog_20_method_9_code 0 = .ok (.iload_n 0, 1) := by decide +kernel
theorem d2_1 : decode prog_20_method_9_code 1 = .ok (.iload_n 2, 1) := by decide +kernel
theorem d2_2 : decode prog_20_method_9_code 2 = .ok (.invokestatic 170, 3) := by decide +kernel
theorem d2_5 : decode prog_20_method_9_code 5 = .ok (.iconst 1, 1) := by decide +kernel
theorem d2_6 : decode prog_20_method_9_code 6 = .ok (.if_icmp .ne 7, 3) := by decide +kernel
theorem d2_9 : decode prog_20_method_9_code 9 = .ok (.iload_n 0, 1) := by decide +kernel
theorem d2_10 : decode prog_20_method_9_code 10 = .ok (.goto 10, 3) := by decide +kernel
theorem d2_13 : decode prog_20_method_9_code 13 = .ok (.iload_n 2, 1) := by decide +kernel
theorem d2_14 : decode prog_20_method_9_code 14 = .ok (.iload_n 0, 1) := by decide +kernel
theorem d2_15 : decode prog_20_method_9_code 15 = .ok (.iload_n 1, 1) := by decide +kernel
theorem d2_16 : decode prog_20_method_9_code 16 = .ok (.isub, 1) := by decide +kernel
theorem d2_17 : decode prog_20_method_9_code 17 = .ok (.invokestatic 172, 3) := by decide +kernel
theorem d2_20 : decode prog_20_method_9_code 20 = .ok (.ireturn, 1) := by decide +kernel
theorem pn_2 : plainName "com/example/fieldstone/fieldstone/format/CompressedStoredFields" = true := by first | (simp [plainName, overriddenIn]; done) | decide +kernel
theorem ef_2 (m : MethodId) (x0 : Int32) (x1 : Int32) (x2 : Int32) : entryFrame m #[(.int x0), (.int x1), (.int x2)] 3 = mkF m 0 #[.val (.int x0), .val (.int x1), .val (.int x2)] [] := by first | (simp [entryFrame, mkF, argsToLocals, Value.category]; done) | rfl
def own_bl (p0 : Int32) (p1 : Int32) (p2 : Int32) : Int32 := (if (own_bc p0 p2) = (1 : Int32) then p0 else (own_min p2 (p0 - p1)))
theorem own_eq_own_bl (p0 : Int32) (p1 : Int32) (p2 : Int32) : own_bl p0 p1 p2 = (if (own_bc p0 p2) = (1 : Int32) then p0 else (own_min p2 (p0 - p1))) := rfl
def Q2 (Z : State) (p0 : Int32) (p1 : Int32) (p2 : Int32) (h0 : Heap) (n0 : Nat) (v : Option Value) (h : Heap) (L : List Loc) : Prop := v = some (.int (own_bl p0 p1 p2)) ∧ Fr n0 L ∧ h = h0
set_option maxRecDepth 65536 in
set_option maxHeartbeats 40000000 in
theorem rm2 (l : Launch) (Z : State) (a0 : Array Value) (hw : ∀ d ∈ tables_1, d.before a0 Z = true) (ws : List Jvm.Cond) (p0 : Int32) (p1 : Int32) (p2 : Int32) (h0 : Heap) (n0 : Nat) (hp2 : p2.toInt64 ≠ 0) :
    MetFree l (⟨"com/example/fieldstone/fieldstone/format/CompressedStoredFields", "blockLength", "(III)I"⟩ : MethodName) (head1 (Jvm.Cond.code (⟨"com/example/fieldstone/fieldstone/format/CompressedStoredFields", "blockLength", "(III)I"⟩ : MethodName) prog_20_method_9_code 3 (some .int) :: ws) ({ frames := 1, cells := 0, slots := 0, locals := 13 } : Room)) (fun aa UU => aa = #[(.int p0), (.int p1), (.int p2)] ∧ Z.Warmed39 UU.vm ∧ UU.heap = h0) (fun _ _ _ _ _ => True) (fun _ UU oo UV => ∃ vv LL, oo = .returned vv ∧ Q2 Z p0 p1 p2 h0 n0 vv UV.heap LL ∧ FrameEnd UU oo UV LL ({ frames := 1, cells := 0, slots := 0, locals := 13 } : Room).cells ({ frames := 1, cells := 0, slots := 0, locals := 13 } : Room).slots) := by
  refine MetFree.of_bodySF (plainFor_of_name pn_2) hisR ?_
  intro p e s m args below meth c s₁ Bd hml0 hP hK
  obtain ⟨rfl, hZ, hh⟩ := hP
  have hx := Bd.exec
  have hby := Bd.bytes
  have hml : c.maxLocals = 3 := hml0
  have hown : s.vm.findClass "com/example/fieldstone/fieldstone/format/CompressedStoredFields" = some m.cls := findClass_of_methodNamed Bd.named
  have hnm := (name_of_methodNamed Bd.named Bd.method).1
  have X0 : Stand p l e ({ frames := 1, cells := 0, slots := 0, locals := 13 } : Room) s m #[(.int p0), (.int p1), (.int p2)] below meth c s₁ [] 0 0 := Stand.of_body Bd
  have e0 : s₁.heap = h0 := by rw [← hh, Bd.state]; rfl
  have N0 := Fr.nil n0
  have k0 : ∀ t, Steps p.tables e below (s₁.setTop (mkF m 0 #[.val (.int p0), .val (.int p1), .val (.int p2)] [])) t → Steps p.tables e below (s₁.setTop (entryFrame m #[(.int p0), (.int p1), (.int p2)] 3)) t := fun t k => castTop (ef_2 m p0 p1 p2) k
  obtain ⟨_, _, ⟨T13, L13, kc13, nc13⟩, -, X13, ⟨Lc13, hQ13, l13, y13, z13⟩, st13⟩ := Jvm.LawKit.callS X0 hx (y := (⟨"com/example/fieldstone/fieldstone/format/CompressedStoredFields", "blockCount", "(II)I"⟩ : MethodName)) hown (mvT hZ (hw _ (List.mem_of_getElem? (i := 9) rfl))) (mvT hZ (hw _ (List.mem_of_getElem? (i := 10) rfl))) (mvT hZ (hw _ (List.mem_of_getElem? (i := 7) rfl))) (mvT hZ (hw _ (List.mem_of_getElem? (i := 11) rfl))) (by decide) (backOf (W := 0) (rm3 l Z a0 hw [] p0 p2 h0 n0 hp2) hZ (hw _ (List.mem_of_getElem? (i := 11) rfl)) (hw _ (List.mem_of_getElem? (i := 7) rfl)) (by decide) (by decide)) (g := (mkF m 2 #[.val (.int p0), .val (.int p1), .val (.int p2)] [(.int p2), (.int p0)])) rfl (by rw [hml]; rfl) (argsL := [(.int p0), (.int p2)]) (rest := []) (lenOf pd_0 rfl) rfl (by show 2 * 0 + _ ≤ _; exact Nat.le_of_eq rfl) (hb hby d2_2) (fun _ _ => ⟨rfl, e0, (by decide : 0 + 0 ≤ _), (by decide : 0 + 0 ≤ _)⟩)
  dsimp only [Pt.U, Pt.locs, Pt.cells, Pt.slots] at X13 l13 y13 z13 st13 hQ13
  subst l13 y13 z13
  obtain ⟨rfl, Nq13, eq13⟩ := hQ13
  have N13 := Fr.app N0 Nq13
  have k14 : ∀ t, Steps p.tables e below (T13.setTop (mkF m 6 #[.val (.int p0), .val (.int p1), .val (.int p2)] [(.int (1 : Int32)), (.int (own_bc p0 p2))])) t → Steps p.tables e below (s₁.setTop (entryFrame m #[(.int p0), (.int p1), (.int p2)] 3)) t := by
    intro t kt
    refine k0 t ?_
    refine XS.iloadN X0.here hx rfl (hb hby d2_0) rfl ?_
    show Steps p.tables e below (s₁.setTop (mkF m 1 #[.val (.int p0), .val (.int p1), .val (.int p2)] [(.int p0)])) _
    refine XS.iloadN X0.here hx rfl (hb hby d2_1) rfl ?_
    show Steps p.tables e below (s₁.setTop (mkF m 2 #[.val (.int p0), .val (.int p1), .val (.int p2)] [(.int p2), (.int p0)])) _
    refine st13 _ ?_
    show Steps p.tables e below (T13.setTop (mkF m 5 #[.val (.int p0), .val (.int p1), .val (.int p2)] [(.int (own_bc p0 p2))])) _
    refine XS.iconst X13.here hx rfl (hb hby d2_5) ?_
    show Steps p.tables e below (T13.setTop (mkF m 6 #[.val (.int p0), .val (.int p1), .val (.int p2)] [(.int (1 : Int32)), (.int (own_bc p0 p2))])) _
    exact kt
  by_cases hc6_15 : (own_bc p0 p2) = (1 : Int32)
  · have k16 : ∀ t, Steps p.tables e below (T13.setTop (mkF m 20 #[.val (.int p0), .val (.int p1), .val (.int p2)] [(.int p0)])) t → Steps p.tables e below (s₁.setTop (entryFrame m #[(.int p0), (.int p1), (.int p2)] 3)) t := by
      intro t kt
      refine k14 t ?_
      refine XS.icmpNo X13.here hx rfl (hb hby d2_6) rfl (teq hc6_15).2 ?_
      show Steps p.tables e below (T13.setTop (mkF m 9 #[.val (.int p0), .val (.int p1), .val (.int p2)] [])) _
      refine XS.iloadN X13.here hx rfl (hb hby d2_9) rfl ?_
      show Steps p.tables e below (T13.setTop (mkF m 10 #[.val (.int p0), .val (.int p1), .val (.int p2)] [(.int p0)])) _
      refine XS.goto X13.here hx rfl (pc0 := 10) (pc' := 20) rfl (hb hby d2_10) (by decide) (by decide) ?_
      show Steps p.tables e below (T13.setTop (mkF m 20 #[.val (.int p0), .val (.int p1), .val (.int p2)] [(.int p0)])) _
      exact kt
    obtain ⟨fs, hr, hrun, hended, hW, hsame⟩ := X13.leave (v := some (.int p0)) (fun h => by rw [Bd.returns] at h; cases h)
    refine ⟨_, _, k16 _ (retI X13 hx Bd.returns (hb hby d2_20) hr), hrun, hended, _, _, rfl, ?_, ⟨_, rfl⟩, hW, hsame.mono (by decide) (by decide)⟩
    show Q2 Z p0 p1 p2 h0 n0 _ T13.heap _
    rw [eq13]
    exact ⟨(by rw [own_eq_own_bl]; rw [if_pos hc6_15]), N13, rfl⟩
  · obtain ⟨_, _, ⟨T17, L17, kc17, nc17⟩, -, X17, ⟨Lc17, hQ17, l17, y17, z17⟩, st17⟩ := Jvm.LawKit.callS X13 hx (y := (⟨"java/lang/Math", "min", "(II)I"⟩ : MethodName)) hown (mvT hZ (hw _ (List.mem_of_getElem? (i := 13) rfl))) (mvT hZ (hw _ (List.mem_of_getElem? (i := 14) rfl))) (mvT hZ (hw _ (List.mem_of_getElem? (i := 3) rfl))) (mvT hZ (hw _ (List.mem_of_getElem? (i := 15) rfl))) (by decide) (backOf (W := 0) (rm4 l Z a0 hw [] p2 (p0 - p1) h0 n0 ) hZ (hw _ (List.mem_of_getElem? (i := 15) rfl)) (hw _ (List.mem_of_getElem? (i := 3) rfl)) (by decide) (by decide)) (g := (mkF m 17 #[.val (.int p0), .val (.int p1), .val (.int p2)] [(.int (p0 - p1)), (.int p2)])) rfl (by rw [hml]; rfl) (argsL := [(.int p2), (.int (p0 - p1))]) (rest := []) (lenOf pd_0 rfl) rfl (by show 2 * 0 + _ ≤ _; exact Nat.le_of_eq rfl) (hb hby d2_17) (fun _ _ => ⟨rfl, eq13, (by decide : 0 + 0 ≤ _), (by decide : 0 + 0 ≤ _)⟩)
    dsimp only [Pt.U, Pt.locs, Pt.cells, Pt.slots] at X17 l17 y17 z17 st17 hQ17
    subst l17 y17 z17
    obtain ⟨rfl, Nq17, eq17⟩ := hQ17
    have N17 := Fr.app N13 Nq17
    have k18 : ∀ t, Steps p.tables e below (T17.setTop (mkF m 20 #[.val (.int p0), .val (.int p1), .val (.int p2)] [(.int (own_min p2 (p0 - p1)))])) t → Steps p.tables e below (s₁.setTop (entryFrame m #[(.int p0), (.int p1), (.int p2)] 3)) t := by
      intro t kt
      refine k14 t ?_
      refine XS.icmpYes X13.here hx rfl (pc0 := 6) (pc' := 13) rfl (hb hby d2_6) rfl (feq hc6_15).2 (by decide) (by decide) ?_
      show Steps p.tables e below (T13.setTop (mkF m 13 #[.val (.int p0), .val (.int p1), .val (.int p2)] [])) _
      refine XS.iloadN X13.here hx rfl (hb hby d2_13) rfl ?_
      show Steps p.tables e below (T13.setTop (mkF m 14 #[.val (.int p0), .val (.int p1), .val (.int p2)] [(.int p2)])) _
      refine XS.iloadN X13.here hx rfl (hb hby d2_14) rfl ?_
      show Steps p.tables e below (T13.setTop (mkF m 15 #[.val (.int p0), .val (.int p1), .val (.int p2)] [(.int p0), (.int p2)])) _
      refine XS.iloadN X13.here hx rfl (hb hby d2_15) rfl ?_
      show Steps p.tables e below (T13.setTop (mkF m 16 #[.val (.int p0), .val (.int p1), .val (.int p2)] [(.int p1), (.int p0), (.int p2)])) _
      refine XS.isub X13.here hx rfl (hb hby d2_16) rfl ?_
      show Steps p.tables e below (T13.setTop (mkF m 17 #[.val (.int p0), .val (.int p1), .val (.int p2)] [(.int (p0 - p1)), (.int p2)])) _
      refine st17 _ ?_
      show Steps p.tables e below (T17.setTop (mkF m 20 #[.val (.int p0), .val (.int p1), .val (.int p2)] [(.int (own_min p2 (p0 - p1)))])) _
      exact kt
    obtain ⟨fs, hr, hrun, hended, hW, hsame⟩ := X17.leave (v := some (.int (own_min p2 (p0 - p1)))) (fun h => by rw [Bd.returns] at h; cases h)
    refine ⟨_, _, k18 _ (retI X17 hx Bd.returns (hb hby d2_20) hr), hrun, hended, _, _, rfl, ?_, ⟨_, rfl⟩, hW, hsame.mono (by decide) (by decide)⟩
    show Q2 Z p0 p1 p2 h0 n0 _ T17.heap _
    rw [eq17]
    exact ⟨(by rw [own_eq_own_bl]; rw [if_neg hc6_15]), N17, rfl⟩

theorem own_plain {d c : Int32} {dl cl n : Int64} (hdl : dl = d.toInt64) (hcl : cl = c.toInt64) (hd : 0 ≤ d.toInt) (hc : 1 ≤ c.toInt) (hn : n = (own_bc d c).toInt64) :
    (dl < (2 : Int64) * cl → n = (1 : Int64)) ∧ (¬ dl < (2 : Int64) * cl → ¬ n < (2 : Int64) ∧ (n - (1 : Int64)) * cl < dl ∧ ¬ n * cl < dl) := by
  rw [own_eq_own_bc] at hn
  subst hdl hcl
  constructor
  · intro h
    rw [if_pos h] at hn; rw [hn]; decide
  · intro h
    rw [if_neg h] at hn
    have r1 := rng32 d
    have r2 := rng32 c
    have d1 := c_i2l d
    have d2 := c_i2l c
    have two : (2 : Int64).toInt = 2 := by decide
    have one : (1 : Int64).toInt = 1 := by decide
    have m2 := c_lmul 2 c.toInt64
    have rm2 := rng64 (2 * c.toInt64)
    rw [two, d2] at m2
    have h' : 2 * c.toInt ≤ d.toInt := by
      rw [Int64.lt_iff_toInt_lt] at h
      omega
    have s1 := c_lsub d.toInt64 1
    have rs1 := rng64 (d.toInt64 - 1)
    rw [d1, one] at s1
    have es : (d.toInt64 - 1).toInt = d.toInt - 1 := by omega
    have q := (c_ldiv (d.toInt64 - 1) c.toInt64 c.toInt d2 (fun q => by have := congrArg Int64.toInt q; rw [d2] at this; have e : (-1 : Int64).toInt = -1 := by decide
                                                                        omega)).1 (by omega)
    rw [es] at q
    generalize hk : (d.toInt - 1) / c.toInt = k at q
    have k1 : k * c.toInt ≤ d.toInt - 1 := by rw [← hk]; exact Int.ediv_mul_le _ (by omega)
    have k2 : d.toInt - 1 < (k + 1) * c.toInt := by rw [← hk]; exact Int.lt_ediv_add_one_mul_self _ (by omega)
    have k3 : 1 ≤ k := by rw [← hk]; exact (Int.le_ediv_iff_mul_le (by omega)).mpr (by omega)
    have k4 : k ≤ d.toInt - 1 := by
      have : k * 1 ≤ k * c.toInt := Int.mul_le_mul_of_nonneg_left hc (by omega)
      omega
    have a1 := c_ladd ((d.toInt64 - 1) / c.toInt64) 1
    have ra1 := rng64 ((d.toInt64 - 1) / c.toInt64 + 1)
    rw [q, one] at a1
    have ea : ((d.toInt64 - 1) / c.toInt64 + 1).toInt = k + 1 := by omega
    have l1 := c_l2i ((d.toInt64 - 1) / c.toInt64 + 1)
    have rl1 := rng32 ((d.toInt64 - 1) / c.toInt64 + 1).toInt32
    have el : ((d.toInt64 - 1) / c.toInt64 + 1).toInt32.toInt = k + 1 := by omega
    have en : n.toInt = k + 1 := by rw [hn, c_i2l, el]
    have sn := c_lsub n 1
    have rsn := rng64 (n - 1)
    rw [en, one] at sn
    have esn : (n - 1).toInt = k := by omega
    have p1 := c_lmul (n - 1) c.toInt64
    have rp1 := rng64 ((n - 1) * c.toInt64)
    rw [esn, d2] at p1
    have k5 : 0 ≤ k * c.toInt := Int.mul_nonneg (by omega) (by omega)
    have p2 := c_lmul n c.toInt64
    have rp2 := rng64 (n * c.toInt64)
    rw [en, d2] at p2
    have k6 : (k + 1) * c.toInt = k * c.toInt + c.toInt := by rw [Int.add_mul, Int.one_mul]
    refine ⟨?_, ?_, ?_⟩
    · rw [Int64.lt_iff_toInt_lt]; omega
    · rw [Int64.lt_iff_toInt_lt]; omega
    · rw [Int64.lt_iff_toInt_lt]; omega


theorem own_maxpos (b : Int32) : 1 ≤ (own_max (1 : Int32) b).toInt := by
  rw [own_eq_own_max]
  split
  · rename_i h
    have := Int32.lt_iff_toInt_lt.mp h
    have e : (1 : Int32).toInt = 1 := by decide
    omega
  · decide
theorem own_bc1 {d c : Int32} (hd : 0 ≤ d.toInt) (hc : 1 ≤ c.toInt) : (own_bc d c = 1 ↔ d.toInt < 2 * c.toInt) := by
  have r1 := rng32 d
  have r2 := rng32 c
  have d1 := c_i2l d
  have d2 := c_i2l c
  have two : (2 : Int64).toInt = 2 := by decide
  have m2 := c_lmul 2 c.toInt64
  have rm2 := rng64 (2 * c.toInt64)
  rw [two, d2] at m2
  have P := own_plain (d := d) (c := c) rfl rfl hd hc rfl
  have hlt : d.toInt64 < (2 : Int64) * c.toInt64 ↔ d.toInt < 2 * c.toInt := by rw [Int64.lt_iff_toInt_lt]; omega
  constructor
  · intro h
    apply Classical.byContradiction
    intro q
    have := (P.2 (fun z => q (hlt.mp z))).1
    rw [h] at this
    exact this (by decide)
  · intro h
    have := P.1 (hlt.mpr h)
    have e := congrArg Int64.toInt this
    rw [c_i2l] at e
    have one : (1 : Int64).toInt = 1 := by decide
    have one' : (1 : Int32).toInt = 1 := by decide
    apply Int32.toInt_inj.mp
    omega
theorem own_dm {d c : Int32} (hd : 0 ≤ d.toInt) (hc : 1 ≤ c.toInt) : (d / c).toInt * c.toInt + (d % c).toInt = d.toInt ∧ 0 ≤ (d % c).toInt ∧ (d % c).toInt < c.toInt ∧ 0 ≤ (d / c).toInt := by
  have h1 := (c_idiv d c c.toInt rfl (fun q => by rw [q] at hc; exact absurd hc (by decide))).1 hd
  have h2 := (c_irem d c c.toInt rfl).1 hd
  rw [h1, h2]
  refine ⟨?_, Int.emod_nonneg _ (by omega), Int.emod_lt_of_pos _ (by omega), Int.ediv_nonneg hd (by omega)⟩
  rw [Int.mul_comm]; exact Int.mul_ediv_add_emod _ _
theorem own_A {d c q : Int32} (hd : 0 ≤ d.toInt) (hc : 1 ≤ c.toInt) (hq : q = d / c) (h : q < (2 : Int32)) : own_bl d (0 : Int32) c = d := by
  have D := own_dm hd hc
  rw [← hq] at D
  have h' := Int32.lt_iff_toInt_lt.mp h
  have e : (2 : Int32).toInt = 2 := by decide
  have : q.toInt * c.toInt ≤ 1 * c.toInt := Int.mul_le_mul_of_nonneg_right (by omega) (by omega)
  rw [own_eq_own_bl, if_pos ((own_bc1 hd hc).mpr (by omega))]
theorem own_B {d c q r b k z : Int32} (hd : 0 ≤ d.toInt) (hc : 1 ≤ c.toInt) (hq : q = d / c) (hr : r = d % c) (h : ¬ q < (2 : Int32)) (hb : b = (if r = (0 : Int32) then q else (q + (1 : Int32)))) (hk : k = z % b) (hz : 0 ≤ z.toInt) : own_bl d (k * c) c = (if k < q then c else r) := by
  have D := own_dm hd hc
  rw [← hq, ← hr] at D
  obtain ⟨D1, D2, D3, D4⟩ := D
  have h' : ¬ q.toInt < 2 := fun z => h (Int32.lt_iff_toInt_lt.mpr z)
  have rd := rng32 d
  have rc := rng32 c
  have qc : 2 * c.toInt ≤ q.toInt * c.toInt := Int.mul_le_mul_of_nonneg_right (by omega) (by omega)
  have qc1 : q.toInt * 1 ≤ q.toInt * c.toInt := Int.mul_le_mul_of_nonneg_left hc (by omega)
  have e1 : (1 : Int32).toInt = 1 := by decide
  have e0 : (0 : Int32).toInt = 0 := by decide
  have hb' : (r.toInt = 0 ∧ b.toInt = q.toInt) ∨ (¬ r.toInt = 0 ∧ b.toInt = q.toInt + 1) := by
    by_cases z0 : r = 0
    · rw [if_pos z0] at hb; exact Or.inl ⟨by rw [z0]; rfl, by rw [hb]⟩
    · rw [if_neg z0] at hb
      have z1 : ¬ r.toInt = 0 := fun y => z0 (Int32.toInt_inj.mp y)
      have a := c_iadd q 1
      have ra := rng32 (q + 1)
      exact Or.inr ⟨z1, by rw [hb]; omega⟩
  have K := (c_iremV z b).1 hz (by omega)
  rw [← hk] at K
  have kq : k.toInt ≤ q.toInt := by omega
  have kc : k.toInt * c.toInt ≤ q.toInt * c.toInt := Int.mul_le_mul_of_nonneg_right kq (by omega)
  have kc0 : 0 ≤ k.toInt * c.toInt := Int.mul_nonneg (by omega) (by omega)
  have m := c_imul k c
  have rm := rng32 (k * c)
  have em : (k * c).toInt = k.toInt * c.toInt := by omega
  have s := c_isub d (k * c)
  have rs := rng32 (d - k * c)
  rw [em] at s
  have es : (d - k * c).toInt = d.toInt - k.toInt * c.toInt := by omega
  have nb : ¬ own_bc d c = 1 := fun y => by have := (own_bc1 hd hc).mp y; omega
  rw [own_eq_own_bl, if_neg nb, own_eq_own_min]
  by_cases hkq : k < q
  · have hkq' := Int32.lt_iff_toInt_lt.mp hkq
    have k1 : (k.toInt + 1) * c.toInt ≤ q.toInt * c.toInt := Int.mul_le_mul_of_nonneg_right (by omega) (by omega)
    rw [Int.add_mul, Int.one_mul] at k1
    rw [if_pos hkq, if_neg (fun y => by have := Int32.lt_iff_toInt_lt.mp y; omega)]
  · have hkq' : ¬ k.toInt < q.toInt := fun y => hkq (Int32.lt_iff_toInt_lt.mpr y)
    have ek : k.toInt = q.toInt := by omega
    rw [ek] at es
    rw [if_neg hkq, if_pos (Int32.lt_iff_toInt_lt.mpr (by omega))]
    apply Int32.toInt_inj.mp
    omega

theorem pd_1 : parseMethodDescriptor "(III)I" = some ⟨[.int, .int, .int], some .int⟩ := by decide +kernel
theorem pn_0 : plainName "com/example/fieldstone/fieldstone/format/CompressedStoredFieldsBlockLengthPinLaw" = true := by first | (simp [plainName, overriddenIn]; done) | decide +kernel
theorem ef_0 (m : MethodId) (x0 : Int32) (x1 : Int32) (x2 : Int32) (x3 : Int32) : entryFrame m #[(.int x0), (.int x1), (.int x2), (.int x3)] maxLocals = mkF m 0 #[.val (.int x0), .val (.int x1), .val (.int x2), .val (.int x3), .unset, .unset, .unset, .unset, .unset, .unset, .unset, .unset] [] := by first | (simp [entryFrame, mkF, argsToLocals, Value.category, maxLocals]; done) | rfl
def Q0 (Z : State) (p0 : Int32) (p1 : Int32) (p2 : Int32) (p3 : Int32) (h0 : Heap) (n0 : Nat) (v : Option Value) (h : Heap) (L : List Loc) : Prop := v = some (.int 1) ∧ Fr n0 L
set_option maxRecDepth 65536 in
set_option maxHeartbeats 40000000 in
theorem rm0 (l : Launch) (Z : State) (a0 : Array Value) (hw : ∀ d ∈ tables_1, d.before a0 Z = true) (ws : List Jvm.Cond) (p0 : Int32) (p1 : Int32) (p2 : Int32) (p3 : Int32) (h0 : Heap) (n0 : Nat) (Z0 : n0 ≤ h0.size) :
    MetFree l x (head1 (Jvm.Cond.code x code maxLocals ret :: ws) room_1) (fun aa UU => aa = #[(.int p0), (.int p1), (.int p2), (.int p3)] ∧ Z.Warmed39 UU.vm ∧ UU.heap = h0) (fun _ _ _ _ _ => True) (fun _ UU oo UV => ∃ vv LL, oo = .returned vv ∧ Q0 Z p0 p1 p2 p3 h0 n0 vv UV.heap LL ∧ FrameEnd UU oo UV LL room_1.cells room_1.slots) := by
  refine MetFree.of_bodySF (plainFor_of_name pn_0) hisR ?_
  intro p e s m args below meth c s₁ Bd hml0 hP hK
  obtain ⟨rfl, hZ, hh⟩ := hP
  have hx := Bd.exec
  have hby := Bd.bytes
  have hml : c.maxLocals = 12 := hml0
  have hown : s.vm.findClass "com/example/fieldstone/fieldstone/format/CompressedStoredFieldsBlockLengthPinLaw" = some m.cls := findClass_of_methodNamed Bd.named
  have hnm := (name_of_methodNamed Bd.named Bd.method).1
  have X0 : Stand p l e room_1 s m #[(.int p0), (.int p1), (.int p2), (.int p3)] below meth c s₁ [] 0 0 := Stand.of_body Bd
  have e0 : s₁.heap = h0 := by rw [← hh, Bd.state]; rfl
  have N0 := Fr.nil n0
  have k0 : ∀ t, Steps p.tables e below (s₁.setTop (mkF m 0 #[.val (.int p0), .val (.int p1), .val (.int p2), .val (.int p3), .unset, .unset, .unset, .unset, .unset, .unset, .unset, .unset] [])) t → Steps p.tables e below (s₁.setTop (entryFrame m #[(.int p0), (.int p1), (.int p2), (.int p3)] maxLocals)) t := fun t k => castTop (ef_0 m p0 p1 p2 p3) k
  have k19 : ∀ t, Steps p.tables e below (s₁.setTop (mkF m 4 #[.val (.int p0), .val (.int p1), .val (.int p2), .val (.int p3), .unset, .unset, .unset, .unset, .unset, .unset, .unset, .unset] [(.int (p0 &&& (2147483647 : Int32)))])) t → Steps p.tables e below (s₁.setTop (entryFrame m #[(.int p0), (.int p1), (.int p2), (.int p3)] maxLocals)) t := by
    intro t kt
    refine k0 t ?_
    refine XS.iloadN X0.here hx rfl (hb hby at_0) rfl ?_
    show Steps p.tables e below (s₁.setTop (mkF m 1 #[.val (.int p0), .val (.int p1), .val (.int p2), .val (.int p3), .unset, .unset, .unset, .unset, .unset, .unset, .unset, .unset] [(.int p0)])) _
    refine X0.ldcInt hx hown (mvT hZ (hw _ (List.mem_of_getElem? (i := 0) rfl))) (g := (mkF m 1 #[.val (.int p0), .val (.int p1), .val (.int p2), .val (.int p3), .unset, .unset, .unset, .unset, .unset, .unset, .unset, .unset] [(.int p0)])) rfl (hb hby at_1) _ ?_
    show Steps p.tables e below (s₁.setTop (mkF m 3 #[.val (.int p0), .val (.int p1), .val (.int p2), .val (.int p3), .unset, .unset, .unset, .unset, .unset, .unset, .unset, .unset] [(.int (2147483647 : Int32)), (.int p0)])) _
    refine XS.iand X0.here hx rfl (hb hby at_3) rfl ?_
    show Steps p.tables e below (s₁.setTop (mkF m 4 #[.val (.int p0), .val (.int p1), .val (.int p2), .val (.int p3), .unset, .unset, .unset, .unset, .unset, .unset, .unset, .unset] [(.int (p0 &&& (2147483647 : Int32)))])) _
    exact kt
  obtain ⟨v20, hv20⟩ : ∃ z : Int32, z = (p0 &&& (2147483647 : Int32)) := ⟨_, rfl⟩
  rw [← hv20] at k19
  obtain ⟨_, _, ⟨T21, L21, kc21, nc21⟩, -, X21, ⟨Lc21, hQ21, l21, y21, z21⟩, st21⟩ := Jvm.LawKit.callS X0 hx (y := (⟨"java/lang/Math", "max", "(II)I"⟩ : MethodName)) hown (mvT hZ (hw _ (List.mem_of_getElem? (i := 1) rfl))) (mvT hZ (hw _ (List.mem_of_getElem? (i := 2) rfl))) (mvT hZ (hw _ (List.mem_of_getElem? (i := 3) rfl))) (mvT hZ (hw _ (List.mem_of_getElem? (i := 4) rfl))) (by decide) (backOf (W := 0) (rm1 l Z a0 hw [] (1 : Int32) (((p1 &&& (2147483647 : Int32)).toUInt32 >>> ((p2 &&& (31 : Int32)) &&& 31).toUInt32).toInt32) h0 n0 ) hZ (hw _ (List.mem_of_getElem? (i := 4) rfl)) (hw _ (List.mem_of_getElem? (i := 3) rfl)) (by decide) (by decide)) (g := (mkF m 16 #[.val (.int p0), .val (.int p1), .val (.int p2), .val (.int p3), .val (.int v20), .unset, .unset, .unset, .unset, .unset, .unset, .unset] [(.int (((p1 &&& (2147483647 : Int32)).toUInt32 >>> ((p2 &&& (31 : Int32)) &&& 31).toUInt32).toInt32)), (.int (1 : Int32))])) rfl (by rw [hml]; rfl) (argsL := [(.int (1 : Int32)), (.int (((p1 &&& (2147483647 : Int32)).toUInt32 >>> ((p2 &&& (31 : Int32)) &&& 31).toUInt32).toInt32))]) (rest := []) (lenOf pd_0 rfl) rfl (by show 2 * 0 + _ ≤ _; exact Nat.le_of_eq rfl) (hb hby at_16) (fun _ _ => ⟨rfl, e0, (by decide : 0 + 0 ≤ _), (by decide : 0 + 0 ≤ _)⟩)
  dsimp only [Pt.U, Pt.locs, Pt.cells, Pt.slots] at X21 l21 y21 z21 st21 hQ21
  subst l21 y21 z21
  obtain ⟨rfl, Nq21, eq21⟩ := hQ21
  have N21 := Fr.app N0 Nq21
  have k22 : ∀ t, Steps p.tables e below (T21.setTop (mkF m 19 #[.val (.int p0), .val (.int p1), .val (.int p2), .val (.int p3), .val (.int v20), .unset, .unset, .unset, .unset, .unset, .unset, .unset] [(.int (own_max (1 : Int32) (((p1 &&& (2147483647 : Int32)).toUInt32 >>> ((p2 &&& (31 : Int32)) &&& 31).toUInt32).toInt32)))])) t → Steps p.tables e below (s₁.setTop (entryFrame m #[(.int p0), (.int p1), (.int p2), (.int p3)] maxLocals)) t := by
    intro t kt
    refine k19 t ?_
    refine XS.istore X0.here hx rfl (hb hby at_4) rfl (l' := #[.val (.int p0), .val (.int p1), .val (.int p2), .val (.int p3), .val (.int v20), .unset, .unset, .unset, .unset, .unset, .unset, .unset]) rfl ?_
    show Steps p.tables e below (s₁.setTop (mkF m 6 #[.val (.int p0), .val (.int p1), .val (.int p2), .val (.int p3), .val (.int v20), .unset, .unset, .unset, .unset, .unset, .unset, .unset] [])) _
    refine XS.iconst X0.here hx rfl (hb hby at_6) ?_
    show Steps p.tables e below (s₁.setTop (mkF m 7 #[.val (.int p0), .val (.int p1), .val (.int p2), .val (.int p3), .val (.int v20), .unset, .unset, .unset, .unset, .unset, .unset, .unset] [(.int (1 : Int32))])) _
    refine XS.iloadN X0.here hx rfl (hb hby at_7) rfl ?_
    show Steps p.tables e below (s₁.setTop (mkF m 8 #[.val (.int p0), .val (.int p1), .val (.int p2), .val (.int p3), .val (.int v20), .unset, .unset, .unset, .unset, .unset, .unset, .unset] [(.int p1), (.int (1 : Int32))])) _
    refine X0.ldcInt hx hown (mvT hZ (hw _ (List.mem_of_getElem? (i := 0) rfl))) (g := (mkF m 8 #[.val (.int p0), .val (.int p1), .val (.int p2), .val (.int p3), .val (.int v20), .unset, .unset, .unset, .unset, .unset, .unset, .unset] [(.int p1), (.int (1 : Int32))])) rfl (hb hby at_8) _ ?_
    show Steps p.tables e below (s₁.setTop (mkF m 10 #[.val (.int p0), .val (.int p1), .val (.int p2), .val (.int p3), .val (.int v20), .unset, .unset, .unset, .unset, .unset, .unset, .unset] [(.int (2147483647 : Int32)), (.int p1), (.int (1 : Int32))])) _
    refine XS.iand X0.here hx rfl (hb hby at_10) rfl ?_
    show Steps p.tables e below (s₁.setTop (mkF m 11 #[.val (.int p0), .val (.int p1), .val (.int p2), .val (.int p3), .val (.int v20), .unset, .unset, .unset, .unset, .unset, .unset, .unset] [(.int (p1 &&& (2147483647 : Int32))), (.int (1 : Int32))])) _
    refine XS.iloadN X0.here hx rfl (hb hby at_11) rfl ?_
    show Steps p.tables e below (s₁.setTop (mkF m 12 #[.val (.int p0), .val (.int p1), .val (.int p2), .val (.int p3), .val (.int v20), .unset, .unset, .unset, .unset, .unset, .unset, .unset] [(.int p2), (.int (p1 &&& (2147483647 : Int32))), (.int (1 : Int32))])) _
    refine XS.bipush X0.here hx rfl (hb hby at_12) ?_
    show Steps p.tables e below (s₁.setTop (mkF m 14 #[.val (.int p0), .val (.int p1), .val (.int p2), .val (.int p3), .val (.int v20), .unset, .unset, .unset, .unset, .unset, .unset, .unset] [(.int (31 : Int32)), (.int p2), (.int (p1 &&& (2147483647 : Int32))), (.int (1 : Int32))])) _
    refine XS.iand X0.here hx rfl (hb hby at_14) rfl ?_
    show Steps p.tables e below (s₁.setTop (mkF m 15 #[.val (.int p0), .val (.int p1), .val (.int p2), .val (.int p3), .val (.int v20), .unset, .unset, .unset, .unset, .unset, .unset, .unset] [(.int (p2 &&& (31 : Int32))), (.int (p1 &&& (2147483647 : Int32))), (.int (1 : Int32))])) _
    refine XS.iushr X0.here hx rfl (hb hby at_15) rfl ?_
    show Steps p.tables e below (s₁.setTop (mkF m 16 #[.val (.int p0), .val (.int p1), .val (.int p2), .val (.int p3), .val (.int v20), .unset, .unset, .unset, .unset, .unset, .unset, .unset] [(.int (((p1 &&& (2147483647 : Int32)).toUInt32 >>> ((p2 &&& (31 : Int32)) &&& 31).toUInt32).toInt32)), (.int (1 : Int32))])) _
    refine st21 _ ?_
    show Steps p.tables e below (T21.setTop (mkF m 19 #[.val (.int p0), .val (.int p1), .val (.int p2), .val (.int p3), .val (.int v20), .unset, .unset, .unset, .unset, .unset, .unset, .unset] [(.int (own_max (1 : Int32) (((p1 &&& (2147483647 : Int32)).toUInt32 >>> ((p2 &&& (31 : Int32)) &&& 31).toUInt32).toInt32)))])) _
    exact kt
  obtain ⟨r23, hr23⟩ : ∃ z : Int32, z = (own_max (1 : Int32) (((p1 &&& (2147483647 : Int32)).toUInt32 >>> ((p2 &&& (31 : Int32)) &&& 31).toUInt32).toInt32)) := ⟨_, rfl⟩
  rw [← hr23] at k22
  have k24 : ∀ t, Steps p.tables e below (T21.setTop (mkF m 21 #[.val (.int p0), .val (.int p1), .val (.int p2), .val (.int p3), .val (.int v20), .val (.int r23), .unset, .unset, .unset, .unset, .unset, .unset] [])) t → Steps p.tables e below (s₁.setTop (entryFrame m #[(.int p0), (.int p1), (.int p2), (.int p3)] maxLocals)) t := by
    intro t kt
    refine k22 t ?_
    show Steps p.tables e below (T21.setTop (mkF m 19 #[.val (.int p0), .val (.int p1), .val (.int p2), .val (.int p3), .val (.int v20), .unset, .unset, .unset, .unset, .unset, .unset, .unset] [(.int r23)])) _
    refine XS.istore X21.here hx rfl (hb hby at_19) rfl (l' := #[.val (.int p0), .val (.int p1), .val (.int p2), .val (.int p3), .val (.int v20), .val (.int r23), .unset, .unset, .unset, .unset, .unset, .unset]) rfl ?_
    show Steps p.tables e below (T21.setTop (mkF m 21 #[.val (.int p0), .val (.int p1), .val (.int p2), .val (.int p3), .val (.int v20), .val (.int r23), .unset, .unset, .unset, .unset, .unset, .unset] [])) _
    exact kt
  have hdp : 0 ≤ v20.toInt := by rw [hv20, c_mask p0 2147483647 31 (by decide) (by decide)]; exact Int.emod_nonneg _ (by decide)
  have hcp : 1 ≤ r23.toInt := by rw [hr23]; exact own_maxpos _
  have hcz : ¬ r23 = (0 : Int32) := fun q => by rw [q] at hcp; exact absurd hcp (by decide)
  have k25 : ∀ t, Steps p.tables e below (T21.setTop (mkF m 26 #[.val (.int p0), .val (.int p1), .val (.int p2), .val (.int p3), .val (.int v20), .val (.int r23), .unset, .unset, .unset, .unset, .unset, .unset] [(.int (v20 / r23))])) t → Steps p.tables e below (s₁.setTop (entryFrame m #[(.int p0), (.int p1), (.int p2), (.int p3)] maxLocals)) t := by
    intro t kt
    refine k24 t ?_
    refine XS.iload X21.here hx rfl (hb hby at_21) rfl ?_
    show Steps p.tables e below (T21.setTop (mkF m 23 #[.val (.int p0), .val (.int p1), .val (.int p2), .val (.int p3), .val (.int v20), .val (.int r23), .unset, .unset, .unset, .unset, .unset, .unset] [(.int v20)])) _
    refine XS.iload X21.here hx rfl (hb hby at_23) rfl ?_
    show Steps p.tables e below (T21.setTop (mkF m 25 #[.val (.int p0), .val (.int p1), .val (.int p2), .val (.int p3), .val (.int v20), .val (.int r23), .unset, .unset, .unset, .unset, .unset, .unset] [(.int r23), (.int v20)])) _
    refine XS.idiv X21.here hx rfl (hb hby at_25) rfl hcz ?_
    show Steps p.tables e below (T21.setTop (mkF m 26 #[.val (.int p0), .val (.int p1), .val (.int p2), .val (.int p3), .val (.int v20), .val (.int r23), .unset, .unset, .unset, .unset, .unset, .unset] [(.int (v20 / r23))])) _
    exact kt
  obtain ⟨v26, hv26⟩ : ∃ z : Int32, z = (v20 / r23) := ⟨_, rfl⟩
  rw [← hv26] at k25
  have k27 : ∀ t, Steps p.tables e below (T21.setTop (mkF m 33 #[.val (.int p0), .val (.int p1), .val (.int p2), .val (.int p3), .val (.int v20), .val (.int r23), .val (.int v26), .unset, .unset, .unset, .unset, .unset] [(.int (v20 % r23))])) t → Steps p.tables e below (s₁.setTop (entryFrame m #[(.int p0), (.int p1), (.int p2), (.int p3)] maxLocals)) t := by
    intro t kt
    refine k25 t ?_
    refine XS.istore X21.here hx rfl (hb hby at_26) rfl (l' := #[.val (.int p0), .val (.int p1), .val (.int p2), .val (.int p3), .val (.int v20), .val (.int r23), .val (.int v26), .unset, .unset, .unset, .unset, .unset]) rfl ?_
    show Steps p.tables e below (T21.setTop (mkF m 28 #[.val (.int p0), .val (.int p1), .val (.int p2), .val (.int p3), .val (.int v20), .val (.int r23), .val (.int v26), .unset, .unset, .unset, .unset, .unset] [])) _
    refine XS.iload X21.here hx rfl (hb hby at_28) rfl ?_
    show Steps p.tables e below (T21.setTop (mkF m 30 #[.val (.int p0), .val (.int p1), .val (.int p2), .val (.int p3), .val (.int v20), .val (.int r23), .val (.int v26), .unset, .unset, .unset, .unset, .unset] [(.int v20)])) _
    refine XS.iload X21.here hx rfl (hb hby at_30) rfl ?_
    show Steps p.tables e below (T21.setTop (mkF m 32 #[.val (.int p0), .val (.int p1), .val (.int p2), .val (.int p3), .val (.int v20), .val (.int r23), .val (.int v26), .unset, .unset, .unset, .unset, .unset] [(.int r23), (.int v20)])) _
    refine iremM X21 hx rfl (hb hby at_32) rfl hcz ?_
    show Steps p.tables e below (T21.setTop (mkF m 33 #[.val (.int p0), .val (.int p1), .val (.int p2), .val (.int p3), .val (.int v20), .val (.int r23), .val (.int v26), .unset, .unset, .unset, .unset, .unset] [(.int (v20 % r23))])) _
    exact kt
  obtain ⟨v28, hv28⟩ : ∃ z : Int32, z = (v20 % r23) := ⟨_, rfl⟩
  rw [← hv28] at k27
  have k29 : ∀ t, Steps p.tables e below (T21.setTop (mkF m 38 #[.val (.int p0), .val (.int p1), .val (.int p2), .val (.int p3), .val (.int v20), .val (.int r23), .val (.int v26), .val (.int v28), .unset, .unset, .unset, .unset] [(.int (2 : Int32)), (.int v26)])) t → Steps p.tables e below (s₁.setTop (entryFrame m #[(.int p0), (.int p1), (.int p2), (.int p3)] maxLocals)) t := by
    intro t kt
    refine k27 t ?_
    refine XS.istore X21.here hx rfl (hb hby at_33) rfl (l' := #[.val (.int p0), .val (.int p1), .val (.int p2), .val (.int p3), .val (.int v20), .val (.int r23), .val (.int v26), .val (.int v28), .unset, .unset, .unset, .unset]) rfl ?_
    show Steps p.tables e below (T21.setTop (mkF m 35 #[.val (.int p0), .val (.int p1), .val (.int p2), .val (.int p3), .val (.int v20), .val (.int r23), .val (.int v26), .val (.int v28), .unset, .unset, .unset, .unset] [])) _
    refine XS.iload X21.here hx rfl (hb hby at_35) rfl ?_
    show Steps p.tables e below (T21.setTop (mkF m 37 #[.val (.int p0), .val (.int p1), .val (.int p2), .val (.int p3), .val (.int v20), .val (.int r23), .val (.int v26), .val (.int v28), .unset, .unset, .unset, .unset] [(.int v26)])) _
    refine XS.iconst X21.here hx rfl (hb hby at_37) ?_
    show Steps p.tables e below (T21.setTop (mkF m 38 #[.val (.int p0), .val (.int p1), .val (.int p2), .val (.int p3), .val (.int v20), .val (.int r23), .val (.int v26), .val (.int v28), .unset, .unset, .unset, .unset] [(.int (2 : Int32)), (.int v26)])) _
    exact kt
  by_cases hc38_30 : v26 < (2 : Int32)
  · obtain ⟨_, _, ⟨T31, L31, kc31, nc31⟩, -, X31, ⟨Lc31, hQ31, l31, y31, z31⟩, st31⟩ := Jvm.LawKit.callS X21 hx (y := (⟨"com/example/fieldstone/fieldstone/format/CompressedStoredFields", "blockLength", "(III)I"⟩ : MethodName)) hown (mvT hZ (hw _ (List.mem_of_getElem? (i := 5) rfl))) (mvT hZ (hw _ (List.mem_of_getElem? (i := 6) rfl))) (mvT hZ (hw _ (List.mem_of_getElem? (i := 7) rfl))) (mvT hZ (hw _ (List.mem_of_getElem? (i := 8) rfl))) (by decide) (backOf (W := 0) (rm2 l Z a0 hw [] v20 (0 : Int32) r23 h0 n0 (own_nz hcp)) hZ (hw _ (List.mem_of_getElem? (i := 8) rfl)) (hw _ (List.mem_of_getElem? (i := 7) rfl)) (by decide) (by decide)) (g := (mkF m 46 #[.val (.int p0), .val (.int p1), .val (.int p2), .val (.int p3), .val (.int v20), .val (.int r23), .val (.int v26), .val (.int v28), .unset, .unset, .unset, .unset] [(.int r23), (.int (0 : Int32)), (.int v20)])) rfl (by rw [hml]; rfl) (argsL := [(.int v20), (.int (0 : Int32)), (.int r23)]) (rest := []) (lenOf pd_1 rfl) rfl (by show 2 * 0 + _ ≤ _; exact Nat.le_of_eq rfl) (hb hby at_46) (fun _ _ => ⟨rfl, eq21, (by decide : 0 + 0 ≤ _), (by decide : 0 + 0 ≤ _)⟩)
    dsimp only [Pt.U, Pt.locs, Pt.cells, Pt.slots] at X31 l31 y31 z31 st31 hQ31
    subst l31 y31 z31
    obtain ⟨rfl, Nq31, eq31⟩ := hQ31
    have N31 := Fr.app N21 Nq31
    have k32 : ∀ t, Steps p.tables e below (T31.setTop (mkF m 49 #[.val (.int p0), .val (.int p1), .val (.int p2), .val (.int p3), .val (.int v20), .val (.int r23), .val (.int v26), .val (.int v28), .unset, .unset, .unset, .unset] [(.int (own_bl v20 (0 : Int32) r23))])) t → Steps p.tables e below (s₁.setTop (entryFrame m #[(.int p0), (.int p1), (.int p2), (.int p3)] maxLocals)) t := by
      intro t kt
      refine k29 t ?_
      refine XS.icmpNo X21.here hx rfl (hb hby at_38) rfl (tlt hc38_30).2.1 ?_
      show Steps p.tables e below (T21.setTop (mkF m 41 #[.val (.int p0), .val (.int p1), .val (.int p2), .val (.int p3), .val (.int v20), .val (.int r23), .val (.int v26), .val (.int v28), .unset, .unset, .unset, .unset] [])) _
      refine XS.iload X21.here hx rfl (hb hby at_41) rfl ?_
      show Steps p.tables e below (T21.setTop (mkF m 43 #[.val (.int p0), .val (.int p1), .val (.int p2), .val (.int p3), .val (.int v20), .val (.int r23), .val (.int v26), .val (.int v28), .unset, .unset, .unset, .unset] [(.int v20)])) _
      refine XS.iconst X21.here hx rfl (hb hby at_43) ?_
      show Steps p.tables e below (T21.setTop (mkF m 44 #[.val (.int p0), .val (.int p1), .val (.int p2), .val (.int p3), .val (.int v20), .val (.int r23), .val (.int v26), .val (.int v28), .unset, .unset, .unset, .unset] [(.int (0 : Int32)), (.int v20)])) _
      refine XS.iload X21.here hx rfl (hb hby at_44) rfl ?_
      show Steps p.tables e below (T21.setTop (mkF m 46 #[.val (.int p0), .val (.int p1), .val (.int p2), .val (.int p3), .val (.int v20), .val (.int r23), .val (.int v26), .val (.int v28), .unset, .unset, .unset, .unset] [(.int r23), (.int (0 : Int32)), (.int v20)])) _
      refine st31 _ ?_
      show Steps p.tables e below (T31.setTop (mkF m 49 #[.val (.int p0), .val (.int p1), .val (.int p2), .val (.int p3), .val (.int v20), .val (.int r23), .val (.int v26), .val (.int v28), .unset, .unset, .unset, .unset] [(.int (own_bl v20 (0 : Int32) r23))])) _
      exact kt
    obtain ⟨r33, hr33⟩ : ∃ z : Int32, z = (own_bl v20 (0 : Int32) r23) := ⟨_, rfl⟩
    rw [← hr33] at k32
    have hc51_34 : r33 = v20 := (by rw [hr33]; exact own_A hdp hcp hv26 hc38_30)
    have k35 : ∀ t, Steps p.tables e below (T31.setTop (mkF m 59 #[.val (.int p0), .val (.int p1), .val (.int p2), .val (.int p3), .val (.int v20), .val (.int r23), .val (.int v26), .val (.int v28), .unset, .unset, .unset, .unset] [(.int (1 : Int32))])) t → Steps p.tables e below (s₁.setTop (entryFrame m #[(.int p0), (.int p1), (.int p2), (.int p3)] maxLocals)) t := by
      intro t kt
      refine k32 t ?_
      show Steps p.tables e below (T31.setTop (mkF m 49 #[.val (.int p0), .val (.int p1), .val (.int p2), .val (.int p3), .val (.int v20), .val (.int r23), .val (.int v26), .val (.int v28), .unset, .unset, .unset, .unset] [(.int r33)])) _
      refine XS.iload X31.here hx rfl (hb hby at_49) rfl ?_
      show Steps p.tables e below (T31.setTop (mkF m 51 #[.val (.int p0), .val (.int p1), .val (.int p2), .val (.int p3), .val (.int v20), .val (.int r23), .val (.int v26), .val (.int v28), .unset, .unset, .unset, .unset] [(.int v20), (.int r33)])) _
      refine XS.icmpNo X31.here hx rfl (hb hby at_51) rfl (teq hc51_34).2 ?_
      show Steps p.tables e below (T31.setTop (mkF m 54 #[.val (.int p0), .val (.int p1), .val (.int p2), .val (.int p3), .val (.int v20), .val (.int r23), .val (.int v26), .val (.int v28), .unset, .unset, .unset, .unset] [])) _
      refine XS.iconst X31.here hx rfl (hb hby at_54) ?_
      show Steps p.tables e below (T31.setTop (mkF m 55 #[.val (.int p0), .val (.int p1), .val (.int p2), .val (.int p3), .val (.int v20), .val (.int r23), .val (.int v26), .val (.int v28), .unset, .unset, .unset, .unset] [(.int (1 : Int32))])) _
      refine XS.goto X31.here hx rfl (pc0 := 55) (pc' := 59) rfl (hb hby at_55) (by decide) (by decide) ?_
      show Steps p.tables e below (T31.setTop (mkF m 59 #[.val (.int p0), .val (.int p1), .val (.int p2), .val (.int p3), .val (.int v20), .val (.int r23), .val (.int v26), .val (.int v28), .unset, .unset, .unset, .unset] [(.int (1 : Int32))])) _
      exact kt
    obtain ⟨fs, hr, hrun, hended, hW, hsame⟩ := X31.leave (v := some (.int (1 : Int32))) (fun h => by rw [Bd.returns] at h; cases h)
    refine ⟨_, _, k35 _ (retN X31 hx (t := .boolean) Bd.returns (by simp) (hb hby at_59) hr), hrun, hended, _, _, rfl, ?_, ⟨_, rfl⟩, hW, hsame.mono (by decide) (by decide)⟩
    show Q0 Z p0 p1 p2 p3 h0 n0 _ T31.heap _
    rw [eq31]
    exact ⟨rfl, N31⟩
  · have k36 : ∀ t, Steps p.tables e below (T21.setTop (mkF m 62 #[.val (.int p0), .val (.int p1), .val (.int p2), .val (.int p3), .val (.int v20), .val (.int r23), .val (.int v26), .val (.int v28), .unset, .unset, .unset, .unset] [(.int v28)])) t → Steps p.tables e below (s₁.setTop (entryFrame m #[(.int p0), (.int p1), (.int p2), (.int p3)] maxLocals)) t := by
      intro t kt
      refine k29 t ?_
      refine XS.icmpYes X21.here hx rfl (pc0 := 38) (pc' := 60) rfl (hb hby at_38) rfl (flt hc38_30).2.1 (by decide) (by decide) ?_
      show Steps p.tables e below (T21.setTop (mkF m 60 #[.val (.int p0), .val (.int p1), .val (.int p2), .val (.int p3), .val (.int v20), .val (.int r23), .val (.int v26), .val (.int v28), .unset, .unset, .unset, .unset] [])) _
      refine XS.iload X21.here hx rfl (hb hby at_60) rfl ?_
      show Steps p.tables e below (T21.setTop (mkF m 62 #[.val (.int p0), .val (.int p1), .val (.int p2), .val (.int p3), .val (.int v20), .val (.int r23), .val (.int v26), .val (.int v28), .unset, .unset, .unset, .unset] [(.int v28)])) _
      exact kt
    have k38 : ∀ t, Steps p.tables e below (T21.setTop (mkF m 74 #[.val (.int p0), .val (.int p1), .val (.int p2), .val (.int p3), .val (.int v20), .val (.int r23), .val (.int v26), .val (.int v28), .unset, .unset, .unset, .unset] [(.int (if v28 = (0 : Int32) then v26 else (v26 + (1 : Int32))))])) t → Steps p.tables e below (s₁.setTop (entryFrame m #[(.int p0), (.int p1), (.int p2), (.int p3)] maxLocals)) t := by
      intro t kt
      refine k36 t ?_
      by_cases hj62_37 : v28 = (0 : Int32)
      · refine XS.ifNo X21.here hx rfl (hb hby at_62) rfl ((if0 _ _).trans (teq hj62_37).2) ?_
        show Steps p.tables e below (T21.setTop (mkF m 65 #[.val (.int p0), .val (.int p1), .val (.int p2), .val (.int p3), .val (.int v20), .val (.int r23), .val (.int v26), .val (.int v28), .unset, .unset, .unset, .unset] [])) _
        refine XS.iload X21.here hx rfl (hb hby at_65) rfl ?_
        show Steps p.tables e below (T21.setTop (mkF m 67 #[.val (.int p0), .val (.int p1), .val (.int p2), .val (.int p3), .val (.int v20), .val (.int r23), .val (.int v26), .val (.int v28), .unset, .unset, .unset, .unset] [(.int v26)])) _
        refine XS.goto X21.here hx rfl (pc0 := 67) (pc' := 74) rfl (hb hby at_67) (by decide) (by decide) ?_
        show Steps p.tables e below (T21.setTop (mkF m 74 #[.val (.int p0), .val (.int p1), .val (.int p2), .val (.int p3), .val (.int v20), .val (.int r23), .val (.int v26), .val (.int v28), .unset, .unset, .unset, .unset] [(.int v26)])) _
        simpa only [if_pos hj62_37] using kt
      · refine XS.ifYes X21.here hx rfl (pc0 := 62) (pc' := 70) rfl (hb hby at_62) rfl ((if0 _ _).trans (feq hj62_37).2) (by decide) (by decide) ?_
        show Steps p.tables e below (T21.setTop (mkF m 70 #[.val (.int p0), .val (.int p1), .val (.int p2), .val (.int p3), .val (.int v20), .val (.int r23), .val (.int v26), .val (.int v28), .unset, .unset, .unset, .unset] [])) _
        refine XS.iload X21.here hx rfl (hb hby at_70) rfl ?_
        show Steps p.tables e below (T21.setTop (mkF m 72 #[.val (.int p0), .val (.int p1), .val (.int p2), .val (.int p3), .val (.int v20), .val (.int r23), .val (.int v26), .val (.int v28), .unset, .unset, .unset, .unset] [(.int v26)])) _
        refine XS.iconst X21.here hx rfl (hb hby at_72) ?_
        show Steps p.tables e below (T21.setTop (mkF m 73 #[.val (.int p0), .val (.int p1), .val (.int p2), .val (.int p3), .val (.int v20), .val (.int r23), .val (.int v26), .val (.int v28), .unset, .unset, .unset, .unset] [(.int (1 : Int32)), (.int v26)])) _
        refine XS.iadd X21.here hx rfl (hb hby at_73) rfl ?_
        show Steps p.tables e below (T21.setTop (mkF m 74 #[.val (.int p0), .val (.int p1), .val (.int p2), .val (.int p3), .val (.int v20), .val (.int r23), .val (.int v26), .val (.int v28), .unset, .unset, .unset, .unset] [(.int (v26 + (1 : Int32)))])) _
        simpa only [if_neg hj62_37] using kt
    obtain ⟨v39, hv39⟩ : ∃ z : Int32, z = (if v28 = (0 : Int32) then v26 else (v26 + (1 : Int32))) := ⟨_, rfl⟩
    rw [← hv39] at k38
    have k40 : ∀ t, Steps p.tables e below (T21.setTop (mkF m 82 #[.val (.int p0), .val (.int p1), .val (.int p2), .val (.int p3), .val (.int v20), .val (.int r23), .val (.int v26), .val (.int v28), .val (.int v39), .unset, .unset, .unset] [(.int v39), (.int (p3 &&& (2147483647 : Int32)))])) t → Steps p.tables e below (s₁.setTop (entryFrame m #[(.int p0), (.int p1), (.int p2), (.int p3)] maxLocals)) t := by
      intro t kt
      refine k38 t ?_
      refine XS.istore X21.here hx rfl (hb hby at_74) rfl (l' := #[.val (.int p0), .val (.int p1), .val (.int p2), .val (.int p3), .val (.int v20), .val (.int r23), .val (.int v26), .val (.int v28), .val (.int v39), .unset, .unset, .unset]) rfl ?_
      show Steps p.tables e below (T21.setTop (mkF m 76 #[.val (.int p0), .val (.int p1), .val (.int p2), .val (.int p3), .val (.int v20), .val (.int r23), .val (.int v26), .val (.int v28), .val (.int v39), .unset, .unset, .unset] [])) _
      refine XS.iloadN X21.here hx rfl (hb hby at_76) rfl ?_
      show Steps p.tables e below (T21.setTop (mkF m 77 #[.val (.int p0), .val (.int p1), .val (.int p2), .val (.int p3), .val (.int v20), .val (.int r23), .val (.int v26), .val (.int v28), .val (.int v39), .unset, .unset, .unset] [(.int p3)])) _
      refine X21.ldcInt hx hown (mvT hZ (hw _ (List.mem_of_getElem? (i := 0) rfl))) (g := (mkF m 77 #[.val (.int p0), .val (.int p1), .val (.int p2), .val (.int p3), .val (.int v20), .val (.int r23), .val (.int v26), .val (.int v28), .val (.int v39), .unset, .unset, .unset] [(.int p3)])) rfl (hb hby at_77) _ ?_
      show Steps p.tables e below (T21.setTop (mkF m 79 #[.val (.int p0), .val (.int p1), .val (.int p2), .val (.int p3), .val (.int v20), .val (.int r23), .val (.int v26), .val (.int v28), .val (.int v39), .unset, .unset, .unset] [(.int (2147483647 : Int32)), (.int p3)])) _
      refine XS.iand X21.here hx rfl (hb hby at_79) rfl ?_
      show Steps p.tables e below (T21.setTop (mkF m 80 #[.val (.int p0), .val (.int p1), .val (.int p2), .val (.int p3), .val (.int v20), .val (.int r23), .val (.int v26), .val (.int v28), .val (.int v39), .unset, .unset, .unset] [(.int (p3 &&& (2147483647 : Int32)))])) _
      refine XS.iload X21.here hx rfl (hb hby at_80) rfl ?_
      show Steps p.tables e below (T21.setTop (mkF m 82 #[.val (.int p0), .val (.int p1), .val (.int p2), .val (.int p3), .val (.int v20), .val (.int r23), .val (.int v26), .val (.int v28), .val (.int v39), .unset, .unset, .unset] [(.int v39), (.int (p3 &&& (2147483647 : Int32)))])) _
      exact kt
    have hbz : ¬ v39 = (0 : Int32) := fun y => by
      have D := own_dm hdp hcp
      rw [← hv26, ← hv28] at D
      have q2 : ¬ v26.toInt < 2 := fun z => hc38_30 (Int32.lt_iff_toInt_lt.mpr z)
      have y' := congrArg Int32.toInt y
      have e0 : (0 : Int32).toInt = 0 := by decide
      have e1 : (1 : Int32).toInt = 1 := by decide
      rw [hv39] at y'
      have rq := rng32 v26
      split at y'
      · omega
      · have a := c_iadd v26 1
        have ra := rng32 (v26 + 1)
        omega
    have k41 : ∀ t, Steps p.tables e below (T21.setTop (mkF m 83 #[.val (.int p0), .val (.int p1), .val (.int p2), .val (.int p3), .val (.int v20), .val (.int r23), .val (.int v26), .val (.int v28), .val (.int v39), .unset, .unset, .unset] [(.int ((p3 &&& (2147483647 : Int32)) % v39))])) t → Steps p.tables e below (s₁.setTop (entryFrame m #[(.int p0), (.int p1), (.int p2), (.int p3)] maxLocals)) t := by
      intro t kt
      refine k40 t ?_
      refine iremM X21 hx rfl (hb hby at_82) rfl hbz ?_
      show Steps p.tables e below (T21.setTop (mkF m 83 #[.val (.int p0), .val (.int p1), .val (.int p2), .val (.int p3), .val (.int v20), .val (.int r23), .val (.int v26), .val (.int v28), .val (.int v39), .unset, .unset, .unset] [(.int ((p3 &&& (2147483647 : Int32)) % v39))])) _
      exact kt
    obtain ⟨v42, hv42⟩ : ∃ z : Int32, z = ((p3 &&& (2147483647 : Int32)) % v39) := ⟨_, rfl⟩
    rw [← hv42] at k41
    have k43 : ∀ t, Steps p.tables e below (T21.setTop (mkF m 90 #[.val (.int p0), .val (.int p1), .val (.int p2), .val (.int p3), .val (.int v20), .val (.int r23), .val (.int v26), .val (.int v28), .val (.int v39), .val (.int v42), .unset, .unset] [(.int (v42 * r23))])) t → Steps p.tables e below (s₁.setTop (entryFrame m #[(.int p0), (.int p1), (.int p2), (.int p3)] maxLocals)) t := by
      intro t kt
      refine k41 t ?_
      refine XS.istore X21.here hx rfl (hb hby at_83) rfl (l' := #[.val (.int p0), .val (.int p1), .val (.int p2), .val (.int p3), .val (.int v20), .val (.int r23), .val (.int v26), .val (.int v28), .val (.int v39), .val (.int v42), .unset, .unset]) rfl ?_
      show Steps p.tables e below (T21.setTop (mkF m 85 #[.val (.int p0), .val (.int p1), .val (.int p2), .val (.int p3), .val (.int v20), .val (.int r23), .val (.int v26), .val (.int v28), .val (.int v39), .val (.int v42), .unset, .unset] [])) _
      refine XS.iload X21.here hx rfl (hb hby at_85) rfl ?_
      show Steps p.tables e below (T21.setTop (mkF m 87 #[.val (.int p0), .val (.int p1), .val (.int p2), .val (.int p3), .val (.int v20), .val (.int r23), .val (.int v26), .val (.int v28), .val (.int v39), .val (.int v42), .unset, .unset] [(.int v42)])) _
      refine XS.iload X21.here hx rfl (hb hby at_87) rfl ?_
      show Steps p.tables e below (T21.setTop (mkF m 89 #[.val (.int p0), .val (.int p1), .val (.int p2), .val (.int p3), .val (.int v20), .val (.int r23), .val (.int v26), .val (.int v28), .val (.int v39), .val (.int v42), .unset, .unset] [(.int r23), (.int v42)])) _
      refine XS.imul X21.here hx rfl (hb hby at_89) rfl ?_
      show Steps p.tables e below (T21.setTop (mkF m 90 #[.val (.int p0), .val (.int p1), .val (.int p2), .val (.int p3), .val (.int v20), .val (.int r23), .val (.int v26), .val (.int v28), .val (.int v39), .val (.int v42), .unset, .unset] [(.int (v42 * r23))])) _
      exact kt
    obtain ⟨v44, hv44⟩ : ∃ z : Int32, z = (v42 * r23) := ⟨_, rfl⟩
    rw [← hv44] at k43
    have k45 : ∀ t, Steps p.tables e below (T21.setTop (mkF m 96 #[.val (.int p0), .val (.int p1), .val (.int p2), .val (.int p3), .val (.int v20), .val (.int r23), .val (.int v26), .val (.int v28), .val (.int v39), .val (.int v42), .val (.int v44), .unset] [(.int v26), (.int v42)])) t → Steps p.tables e below (s₁.setTop (entryFrame m #[(.int p0), (.int p1), (.int p2), (.int p3)] maxLocals)) t := by
      intro t kt
      refine k43 t ?_
      refine XS.istore X21.here hx rfl (hb hby at_90) rfl (l' := #[.val (.int p0), .val (.int p1), .val (.int p2), .val (.int p3), .val (.int v20), .val (.int r23), .val (.int v26), .val (.int v28), .val (.int v39), .val (.int v42), .val (.int v44), .unset]) rfl ?_
      show Steps p.tables e below (T21.setTop (mkF m 92 #[.val (.int p0), .val (.int p1), .val (.int p2), .val (.int p3), .val (.int v20), .val (.int r23), .val (.int v26), .val (.int v28), .val (.int v39), .val (.int v42), .val (.int v44), .unset] [])) _
      refine XS.iload X21.here hx rfl (hb hby at_92) rfl ?_
      show Steps p.tables e below (T21.setTop (mkF m 94 #[.val (.int p0), .val (.int p1), .val (.int p2), .val (.int p3), .val (.int v20), .val (.int r23), .val (.int v26), .val (.int v28), .val (.int v39), .val (.int v42), .val (.int v44), .unset] [(.int v42)])) _
      refine XS.iload X21.here hx rfl (hb hby at_94) rfl ?_
      show Steps p.tables e below (T21.setTop (mkF m 96 #[.val (.int p0), .val (.int p1), .val (.int p2), .val (.int p3), .val (.int v20), .val (.int r23), .val (.int v26), .val (.int v28), .val (.int v39), .val (.int v42), .val (.int v44), .unset] [(.int v26), (.int v42)])) _
      exact kt
    have k47 : ∀ t, Steps p.tables e below (T21.setTop (mkF m 106 #[.val (.int p0), .val (.int p1), .val (.int p2), .val (.int p3), .val (.int v20), .val (.int r23), .val (.int v26), .val (.int v28), .val (.int v39), .val (.int v42), .val (.int v44), .unset] [(.int (if v42 < v26 then r23 else v28))])) t → Steps p.tables e below (s₁.setTop (entryFrame m #[(.int p0), (.int p1), (.int p2), (.int p3)] maxLocals)) t := by
      intro t kt
      refine k45 t ?_
      by_cases hj96_46 : v42 < v26
      · refine XS.icmpNo X21.here hx rfl (hb hby at_96) rfl (tlt hj96_46).2.1 ?_
        show Steps p.tables e below (T21.setTop (mkF m 99 #[.val (.int p0), .val (.int p1), .val (.int p2), .val (.int p3), .val (.int v20), .val (.int r23), .val (.int v26), .val (.int v28), .val (.int v39), .val (.int v42), .val (.int v44), .unset] [])) _
        refine XS.iload X21.here hx rfl (hb hby at_99) rfl ?_
        show Steps p.tables e below (T21.setTop (mkF m 101 #[.val (.int p0), .val (.int p1), .val (.int p2), .val (.int p3), .val (.int v20), .val (.int r23), .val (.int v26), .val (.int v28), .val (.int v39), .val (.int v42), .val (.int v44), .unset] [(.int r23)])) _
        refine XS.goto X21.here hx rfl (pc0 := 101) (pc' := 106) rfl (hb hby at_101) (by decide) (by decide) ?_
        show Steps p.tables e below (T21.setTop (mkF m 106 #[.val (.int p0), .val (.int p1), .val (.int p2), .val (.int p3), .val (.int v20), .val (.int r23), .val (.int v26), .val (.int v28), .val (.int v39), .val (.int v42), .val (.int v44), .unset] [(.int r23)])) _
        simpa only [if_pos hj96_46] using kt
      · refine XS.icmpYes X21.here hx rfl (pc0 := 96) (pc' := 104) rfl (hb hby at_96) rfl (flt hj96_46).2.1 (by decide) (by decide) ?_
        show Steps p.tables e below (T21.setTop (mkF m 104 #[.val (.int p0), .val (.int p1), .val (.int p2), .val (.int p3), .val (.int v20), .val (.int r23), .val (.int v26), .val (.int v28), .val (.int v39), .val (.int v42), .val (.int v44), .unset] [])) _
        refine XS.iload X21.here hx rfl (hb hby at_104) rfl ?_
        show Steps p.tables e below (T21.setTop (mkF m 106 #[.val (.int p0), .val (.int p1), .val (.int p2), .val (.int p3), .val (.int v20), .val (.int r23), .val (.int v26), .val (.int v28), .val (.int v39), .val (.int v42), .val (.int v44), .unset] [(.int v28)])) _
        simpa only [if_neg hj96_46] using kt
    obtain ⟨v48, hv48⟩ : ∃ z : Int32, z = (if v42 < v26 then r23 else v28) := ⟨_, rfl⟩
    rw [← hv48] at k47
    obtain ⟨_, _, ⟨T49, L49, kc49, nc49⟩, -, X49, ⟨Lc49, hQ49, l49, y49, z49⟩, st49⟩ := Jvm.LawKit.callS X21 hx (y := (⟨"com/example/fieldstone/fieldstone/format/CompressedStoredFields", "blockLength", "(III)I"⟩ : MethodName)) hown (mvT hZ (hw _ (List.mem_of_getElem? (i := 5) rfl))) (mvT hZ (hw _ (List.mem_of_getElem? (i := 6) rfl))) (mvT hZ (hw _ (List.mem_of_getElem? (i := 7) rfl))) (mvT hZ (hw _ (List.mem_of_getElem? (i := 8) rfl))) (by decide) (backOf (W := 0) (rm2 l Z a0 hw [] v20 v44 r23 h0 n0 (own_nz hcp)) hZ (hw _ (List.mem_of_getElem? (i := 8) rfl)) (hw _ (List.mem_of_getElem? (i := 7) rfl)) (by decide) (by decide)) (g := (mkF m 114 #[.val (.int p0), .val (.int p1), .val (.int p2), .val (.int p3), .val (.int v20), .val (.int r23), .val (.int v26), .val (.int v28), .val (.int v39), .val (.int v42), .val (.int v44), .val (.int v48)] [(.int r23), (.int v44), (.int v20)])) rfl (by rw [hml]; rfl) (argsL := [(.int v20), (.int v44), (.int r23)]) (rest := []) (lenOf pd_1 rfl) rfl (by show 2 * 0 + _ ≤ _; exact Nat.le_of_eq rfl) (hb hby at_114) (fun _ _ => ⟨rfl, eq21, (by decide : 0 + 0 ≤ _), (by decide : 0 + 0 ≤ _)⟩)
    dsimp only [Pt.U, Pt.locs, Pt.cells, Pt.slots] at X49 l49 y49 z49 st49 hQ49
    subst l49 y49 z49
    obtain ⟨rfl, Nq49, eq49⟩ := hQ49
    have N49 := Fr.app N21 Nq49
    have k50 : ∀ t, Steps p.tables e below (T49.setTop (mkF m 117 #[.val (.int p0), .val (.int p1), .val (.int p2), .val (.int p3), .val (.int v20), .val (.int r23), .val (.int v26), .val (.int v28), .val (.int v39), .val (.int v42), .val (.int v44), .val (.int v48)] [(.int (own_bl v20 v44 r23))])) t → Steps p.tables e below (s₁.setTop (entryFrame m #[(.int p0), (.int p1), (.int p2), (.int p3)] maxLocals)) t := by
      intro t kt
      refine k47 t ?_
      refine XS.istore X21.here hx rfl (hb hby at_106) rfl (l' := #[.val (.int p0), .val (.int p1), .val (.int p2), .val (.int p3), .val (.int v20), .val (.int r23), .val (.int v26), .val (.int v28), .val (.int v39), .val (.int v42), .val (.int v44), .val (.int v48)]) rfl ?_
      show Steps p.tables e below (T21.setTop (mkF m 108 #[.val (.int p0), .val (.int p1), .val (.int p2), .val (.int p3), .val (.int v20), .val (.int r23), .val (.int v26), .val (.int v28), .val (.int v39), .val (.int v42), .val (.int v44), .val (.int v48)] [])) _
      refine XS.iload X21.here hx rfl (hb hby at_108) rfl ?_
      show Steps p.tables e below (T21.setTop (mkF m 110 #[.val (.int p0), .val (.int p1), .val (.int p2), .val (.int p3), .val (.int v20), .val (.int r23), .val (.int v26), .val (.int v28), .val (.int v39), .val (.int v42), .val (.int v44), .val (.int v48)] [(.int v20)])) _
      refine XS.iload X21.here hx rfl (hb hby at_110) rfl ?_
      show Steps p.tables e below (T21.setTop (mkF m 112 #[.val (.int p0), .val (.int p1), .val (.int p2), .val (.int p3), .val (.int v20), .val (.int r23), .val (.int v26), .val (.int v28), .val (.int v39), .val (.int v42), .val (.int v44), .val (.int v48)] [(.int v44), (.int v20)])) _
      refine XS.iload X21.here hx rfl (hb hby at_112) rfl ?_
      show Steps p.tables e below (T21.setTop (mkF m 114 #[.val (.int p0), .val (.int p1), .val (.int p2), .val (.int p3), .val (.int v20), .val (.int r23), .val (.int v26), .val (.int v28), .val (.int v39), .val (.int v42), .val (.int v44), .val (.int v48)] [(.int r23), (.int v44), (.int v20)])) _
      refine st49 _ ?_
      show Steps p.tables e below (T49.setTop (mkF m 117 #[.val (.int p0), .val (.int p1), .val (.int p2), .val (.int p3), .val (.int v20), .val (.int r23), .val (.int v26), .val (.int v28), .val (.int v39), .val (.int v42), .val (.int v44), .val (.int v48)] [(.int (own_bl v20 v44 r23))])) _
      exact kt
    obtain ⟨r51, hr51⟩ : ∃ z : Int32, z = (own_bl v20 v44 r23) := ⟨_, rfl⟩
    rw [← hr51] at k50
    have hc119_52 : r51 = v48 := (by rw [hr51, hv48, hv44]; exact own_B hdp hcp hv26 hv28 hc38_30 hv39 hv42 (by rw [c_mask p3 2147483647 31 (by decide) (by decide)]; exact Int.emod_nonneg _ (by decide)))
    have k53 : ∀ t, Steps p.tables e below (T49.setTop (mkF m 127 #[.val (.int p0), .val (.int p1), .val (.int p2), .val (.int p3), .val (.int v20), .val (.int r23), .val (.int v26), .val (.int v28), .val (.int v39), .val (.int v42), .val (.int v44), .val (.int v48)] [(.int (1 : Int32))])) t → Steps p.tables e below (s₁.setTop (entryFrame m #[(.int p0), (.int p1), (.int p2), (.int p3)] maxLocals)) t := by
      intro t kt
      refine k50 t ?_
      show Steps p.tables e below (T49.setTop (mkF m 117 #[.val (.int p0), .val (.int p1), .val (.int p2), .val (.int p3), .val (.int v20), .val (.int r23), .val (.int v26), .val (.int v28), .val (.int v39), .val (.int v42), .val (.int v44), .val (.int v48)] [(.int r51)])) _
      refine XS.iload X49.here hx rfl (hb hby at_117) rfl ?_
      show Steps p.tables e below (T49.setTop (mkF m 119 #[.val (.int p0), .val (.int p1), .val (.int p2), .val (.int p3), .val (.int v20), .val (.int r23), .val (.int v26), .val (.int v28), .val (.int v39), .val (.int v42), .val (.int v44), .val (.int v48)] [(.int v48), (.int r51)])) _
      refine XS.icmpNo X49.here hx rfl (hb hby at_119) rfl (teq hc119_52).2 ?_
      show Steps p.tables e below (T49.setTop (mkF m 122 #[.val (.int p0), .val (.int p1), .val (.int p2), .val (.int p3), .val (.int v20), .val (.int r23), .val (.int v26), .val (.int v28), .val (.int v39), .val (.int v42), .val (.int v44), .val (.int v48)] [])) _
      refine XS.iconst X49.here hx rfl (hb hby at_122) ?_
      show Steps p.tables e below (T49.setTop (mkF m 123 #[.val (.int p0), .val (.int p1), .val (.int p2), .val (.int p3), .val (.int v20), .val (.int r23), .val (.int v26), .val (.int v28), .val (.int v39), .val (.int v42), .val (.int v44), .val (.int v48)] [(.int (1 : Int32))])) _
      refine XS.goto X49.here hx rfl (pc0 := 123) (pc' := 127) rfl (hb hby at_123) (by decide) (by decide) ?_
      show Steps p.tables e below (T49.setTop (mkF m 127 #[.val (.int p0), .val (.int p1), .val (.int p2), .val (.int p3), .val (.int v20), .val (.int r23), .val (.int v26), .val (.int v28), .val (.int v39), .val (.int v42), .val (.int v44), .val (.int v48)] [(.int (1 : Int32))])) _
      exact kt
    obtain ⟨fs, hr, hrun, hended, hW, hsame⟩ := X49.leave (v := some (.int (1 : Int32))) (fun h => by rw [Bd.returns] at h; cases h)
    refine ⟨_, _, k53 _ (retN X49 hx (t := .boolean) Bd.returns (by simp) (hb hby at_127) hr), hrun, hended, _, _, rfl, ?_, ⟨_, rfl⟩, hW, hsame.mono (by decide) (by decide)⟩
    show Q0 Z p0 p1 p2 p3 h0 n0 _ T49.heap _
    rw [eq49]
    exact ⟨rfl, N49⟩
set_option maxRecDepth 65536 in
set_option maxHeartbeats 40000000 in
theorem comes_1 {Post : Tables → Env → Array Value → State → Outcome → State → Prop} (hpost : ∀ tb e args s v u, (limb_1_1.after args s (.returned v) u = true ∧ limb_1_2.after args s (.returned v) u = true ∧ True) → FrameEnd s (.returned v) u (Jvm.fieldLocs frame_1_writes args s ++ Jvm.arrayLocs frame_1_arrays args s ++ Jvm.staticLocs frame_1_statics s) 0 0 → Post tb e args s (.returned v) u) :
    ArmFor flags0 classFile x code maxLocals ret World_1 tables_1 room_1 Calls_1 rest_1 Pre_1 Post := by
  intro l hfl _ _ p e ha hc hk s m args below hf hA hF happ hP
  obtain ⟨hcalls, hrest, hpre⟩ := hP
  obtain ⟨-, -, -, hnamed, -, -, -, hat⟩ := (Spec.applies_iff hf).mp happ
  obtain ⟨hg, hn⟩ := and_e (Cond.before_iff.mp (show (Jvm.Cond.and given_1 narrow_1).before args s = true from hpre))
  have hcount := (and_e hg).1
  have hgs0 := (and_e hg).2
  have hi0 := (and_e hgs0).1
  have hgs1 := (and_e hgs0).2
  have hi1 := (and_e hgs1).1
  have hgs2 := (and_e hgs1).2
  have hi2 := (and_e hgs2).1
  have hgs3 := (and_e hgs2).2
  have hi3 := hgs3
  obtain ⟨w0, w1, w2, w3, rfl⟩ : ∃ w0 w1 w2 w3 : Value, args = #[w0, w1, w2, w3] := by
    have hs : args.size = 4 := by simpa [Cond.value, given_1] using hcount
    obtain ⟨L⟩ := args
    match L, hs with
    | [w0, w1, w2, w3], _ => exact ⟨w0, w1, w2, w3, rfl⟩
  have hw := fun d (hd : d ∈ tables_1) => atoms_spec (ws := Jvm.Cond.code x code maxLocals ret :: tables_1) hat d (List.mem_cons_of_mem _ hd)
  have hfit : Fit s := fun {y c} hc i hi => by
    obtain ⟨ha, rfl⟩ := Array.getElem?_eq_some_iff.mp hc
    have q := List.all_eq_true.mp ((Array.all_eq_true_iff_forall_mem.mp hF) _ (Array.getElem_mem ha)) i (List.mem_range.mpr hi)
    simpa [Array.getElem?_eq_getElem hi] using q
  obtain ⟨i0, ei0⟩ := is_v hi0
  obtain rfl : w0 = (.int i0) := Option.some.inj ei0
  obtain ⟨i1, ei1⟩ := is_v hi1
  obtain rfl : w1 = (.int i1) := Option.some.inj ei1
  obtain ⟨i2, ei2⟩ := is_v hi2
  obtain rfl : w2 = (.int i2) := Option.some.inj ei2
  obtain ⟨i3, ei3⟩ := is_v hi3
  obtain rfl : w3 = (.int i3) := Option.some.inj ei3
  obtain ⟨n, o, h1, h2, h3, _, L, rfl, ⟨rfl, N⟩, hq⟩ := rm0 l s _ hw tables_1 i0 i1 i2 i3 s.heap s.heap.size (Nat.le_refl _)  p e ha hc hk s m _ below hf ((Spec.applies_iff_loose hf).mp happ).1 ⟨rfl, State.Warmed39.refl s, rfl⟩ trivial
  refine ⟨n, _, h1, h2, h3, hpost _ _ _ _ _ _ ⟨Cond.after_iff.mpr rfl, Cond.after_iff.mpr (eq_i res_at (Term.int_eval (1)) rfl), trivial⟩ ⟨hq.1, hq.2.1, (hq.2.2.sift fun y hy => Or.inr (N y hy)).mono (by decide) (by decide)⟩⟩
theorem main_1_1 : Claimed_1_1 := comes_1 fun _ _ _ _ _ _ h hF => ⟨h.1, hF⟩
theorem main_1_2 : Claimed_1_2 := comes_1 fun _ _ _ _ _ _ h hF => ⟨h.2.1, hF⟩
end Jvm.Pilot.@@N@@
namespace Jvm.Pilot.@@N@@
open Jvm Jvm.ClassFile Sem Op Lib Jvm.Free Jvm.Stand Jvm.Pilot.@@N@@.Jvm.D
/-! MADE BY PROGRAM (witnessworld.py) out of the Statement's table words and the real class files: 11 classes; the members and pool entries that the words name. The judged class is class 1, her method 1. -/
namespace start1
open Jvm.ClassFile
def u (s : String) : CpInfo := .utf8 (stringToUtf16 s)
/-- a pool by its gaps: so many unusable entries, then the entry; so many at the end -/
def gap : Nat → List CpInfo → List CpInfo
  | 0, r => r
  | n + 1, r => .unusable :: gap n r
def poolList (es : List (Nat × CpInfo)) (last : Nat) : List CpInfo := es.foldr (fun e r => gap e.1 (e.2 :: r)) (gap last [])
def pool (es : List (Nat × CpInfo)) (last : Nat) : Array CpInfo := ⟨poolList es last⟩
def fileOf (pool : Array CpInfo) (this : Nat) (attrs : Array Attribute := #[]) (ms : Array MethodInfo := #[]) (fl : Nat := 33) (sup : Nat := 0) (ifs : Array Nat := #[]) (fds : Array FieldInfo := #[]) : ClassFile where
  minorVersion := 0
  majorVersion := 65
  constantPool := pool
  accessFlags := fl
  thisClass := this
  superClass := sup
  interfaces := ifs
  fields := fds
  methods := ms
  attributes := attrs
def plain (name : String) (sup : Option ClassId) : Class where
  name := name
  kind := .ordinary
  loader := none
  accessFlags := 33
  super := sup
  interfaces := #[]
  cf := none
  fields := #[]
  methods := #[]
  instanceTypes := #[]
  staticTypes := #[]
  resolved := #[]
  callSites := []
  init := .initialized
  statics := none
  mirror := none

def pool0 : Array CpInfo := pool [(5, u "<init>"), (0, u "()V"), (1, .class_ 10), (1, u "java/lang/Object")] 113

def k0m0 : Method := { name := "<init>", desc := "()V", sig := { parameters := [], returnType := none }, accessFlags := 1, code := none }
/-- java/lang/Object -/
def k0 : Class := { plain "java/lang/Object" none with
  accessFlags := 33
  interfaces := #[]
  cf := some (fileOf pool0 8 #[] #[{ accessFlags := 1, nameIndex := 5, descriptorIndex := 6, attributes := #[] }] 33 0 #[] #[])
  fields := #[]
  methods := #[k0m0]
  instanceTypes := #[]
  staticTypes := #[]
  resolved := Array.replicate 124 none
  statics := none }

def pool1 : Array CpInfo := pool [(2, .class_ 4), (1, u "java/lang/Object"), (0, u "<init>"), (0, u "()V"), (0, .integer 2147483647), (0, .methodref 9 10), (0, .class_ 11), (0, .nameAndType 12 13), (0, u "java/lang/Math"), (0, u "max"), (0, u "(II)I"), (0, .methodref 15 16), (0, .class_ 17), (0, .nameAndType 18 19), (0, u "com/example/fieldstone/fieldstone/format/CompressedStoredFields"), (0, u "blockLength"), (0, u "(III)I"), (0, .class_ 21), (0, u "com/example/fieldstone/fieldstone/format/CompressedStoredFieldsBlockLengthPinLaw"), (2, u "law"), (0, u "(IIII)Z")] 3

def k1m0 : Method := { name := "<init>", desc := "()V", sig := { parameters := [], returnType := none }, accessFlags := 2, code := none }
def k1c1 : Code := { maxStack := 4, maxLocals := 12, code := code, exceptionTable := #[], attributes := #[] }
def k1m1 : Method := { name := "law", desc := "(IIII)Z", sig := { parameters := [.int, .int, .int, .int], returnType := some .boolean }, accessFlags := 9, code := some k1c1 }
/-- com/example/fieldstone/fieldstone/format/CompressedStoredFieldsBlockLengthPinLaw -/
def k1 : Class := { plain "com/example/fieldstone/fieldstone/format/CompressedStoredFieldsBlockLengthPinLaw" (some 0) with
  accessFlags := 49
  interfaces := #[]
  cf := some (fileOf pool1 20 #[] #[{ accessFlags := 2, nameIndex := 5, descriptorIndex := 6, attributes := #[] }, { accessFlags := 9, nameIndex := 24, descriptorIndex := 25, attributes := #[] }] 49 2 #[] #[])
  fields := #[]
  methods := #[k1m0, k1m1]
  instanceTypes := #[]
  staticTypes := #[]
  resolved := Array.replicate 29 none
  statics := none }

def pool2 : Array CpInfo := pool [(1, .class_ 2), (0, u "java/lang/Math"), (1, .class_ 6), (1, u "java/lang/Object"), (0, u "<init>"), (0, u "()V"), (89, .class_ 100), (1, u "java/lang/Math$RandomNumberGeneratorHolder"), (71, u "negativeZeroFloatBits"), (0, u "J"), (2, u "negativeZeroDoubleBits"), (21, u "max"), (2, u "min"), (43, u "$assertionsDisabled"), (0, u "Z"), (88, u "(II)I"), (2, u "twoToTheDoubleScaleDown"), (0, u "D"), (4, u "twoToTheDoubleScaleUp"), (9, u "E"), (3, u "PI"), (2, u "TAU"), (2, u "DEGREES_TO_RADIANS"), (0, u "RADIANS_TO_DEGREES")] 94

def k2m0 : Method := { name := "<init>", desc := "()V", sig := { parameters := [], returnType := none }, accessFlags := 2, code := none }
def k2c1 : Code := { maxStack := 2, maxLocals := 2, code := jdk_29_method_65_code, exceptionTable := #[], attributes := #[] }
def k2m1 : Method := { name := "max", desc := "(II)I", sig := { parameters := [.int, .int], returnType := some .int }, accessFlags := 9, code := some k2c1 }
def k2c2 : Code := { maxStack := 2, maxLocals := 2, code := jdk_29_method_69_code, exceptionTable := #[], attributes := #[] }
def k2m2 : Method := { name := "min", desc := "(II)I", sig := { parameters := [.int, .int], returnType := some .int }, accessFlags := 9, code := some k2c2 }
/-- java/lang/Math -/
def k2 : Class := { plain "java/lang/Math" (some 0) with
  accessFlags := 49
  interfaces := #[]
  cf := some (fileOf pool2 1 #[.nestMembers #[98]] #[{ accessFlags := 2, nameIndex := 7, descriptorIndex := 8, attributes := #[] }, { accessFlags := 9, nameIndex := 198, descriptorIndex := 335, attributes := #[] }, { accessFlags := 9, nameIndex := 201, descriptorIndex := 335, attributes := #[] }] 49 4 #[] #[{ accessFlags := 25, nameIndex := 354, descriptorIndex := 339, attributes := #[] }, { accessFlags := 25, nameIndex := 358, descriptorIndex := 339, attributes := #[] }, { accessFlags := 25, nameIndex := 361, descriptorIndex := 339, attributes := #[] }, { accessFlags := 26, nameIndex := 364, descriptorIndex := 339, attributes := #[] }, { accessFlags := 26, nameIndex := 365, descriptorIndex := 339, attributes := #[] }, { accessFlags := 26, nameIndex := 172, descriptorIndex := 173, attributes := #[] }, { accessFlags := 26, nameIndex := 176, descriptorIndex := 173, attributes := #[] }, { accessFlags := 8, nameIndex := 344, descriptorIndex := 339, attributes := #[] }, { accessFlags := 8, nameIndex := 338, descriptorIndex := 339, attributes := #[] }, { accessFlags := 4120, nameIndex := 245, descriptorIndex := 246, attributes := #[] }])
  fields := #[{ name := "E", type := .double, accessFlags := 25, slot := 0, constantValue := 0 }, { name := "PI", type := .double, accessFlags := 25, slot := 1, constantValue := 0 }, { name := "TAU", type := .double, accessFlags := 25, slot := 2, constantValue := 0 }, { name := "DEGREES_TO_RADIANS", type := .double, accessFlags := 26, slot := 3, constantValue := 0 }, { name := "RADIANS_TO_DEGREES", type := .double, accessFlags := 26, slot := 4, constantValue := 0 }, { name := "negativeZeroFloatBits", type := .long, accessFlags := 26, slot := 5, constantValue := 0 }, { name := "negativeZeroDoubleBits", type := .long, accessFlags := 26, slot := 6, constantValue := 0 }, { name := "twoToTheDoubleScaleUp", type := .double, accessFlags := 8, slot := 7, constantValue := 0 }, { name := "twoToTheDoubleScaleDown", type := .double, accessFlags := 8, slot := 8, constantValue := 0 }, { name := "$assertionsDisabled", type := .boolean, accessFlags := 4120, slot := 9, constantValue := 0 }]
  methods := #[k2m0, k2m1, k2m2]
  instanceTypes := #[]
  staticTypes := #[.double, .double, .double, .double, .double, .long, .long, .double, .double, .boolean]
  resolved := Array.replicate 460 none
  statics := none }

def pool3 : Array CpInfo := pool [(2, .class_ 4), (1, u "java/lang/Object"), (6, .class_ 13), (1, u "com/example/fieldstone/fieldstone/format/StoredFields"), (0, u "fieldNames"), (0, u "Ljava/util/Map;"), (2, u "data"), (0, u "Lcom/example/fieldstone/fieldstone/store/IndexFile;"), (2, u "documentCount"), (0, u "I"), (94, .class_ 119), (0, u "com/example/fieldstone/fieldstone/format/StoredFields$DocumentCursor"), (27, .class_ 149), (1, u "com/example/fieldstone/fieldstone/format/StoredFields$1"), (95, .class_ 246), (0, u "com/example/fieldstone/fieldstone/format/StoredFields$Cursor"), (0, .class_ 248), (0, u "com/example/fieldstone/fieldstone/format/StoredFields$ChunkLayout")] 30

/-- com/example/fieldstone/fieldstone/format/StoredFields -/
def k3 : Class := { plain "com/example/fieldstone/fieldstone/format/StoredFields" (some 0) with
  accessFlags := 1057
  interfaces := #[]
  cf := some (fileOf pool3 11 #[.nestMembers #[147, 118, 245, 247]] #[] 1057 2 #[] #[{ accessFlags := 16, nameIndex := 18, descriptorIndex := 19, attributes := #[] }, { accessFlags := 18, nameIndex := 22, descriptorIndex := 23, attributes := #[] }, { accessFlags := 18, nameIndex := 14, descriptorIndex := 15, attributes := #[] }])
  fields := #[{ name := "data", type := (.object "com/example/fieldstone/fieldstone/store/IndexFile"), accessFlags := 16, slot := 0, constantValue := 0 }, { name := "documentCount", type := .int, accessFlags := 18, slot := 1, constantValue := 0 }, { name := "fieldNames", type := (.object "java/util/Map"), accessFlags := 18, slot := 2, constantValue := 0 }]
  methods := #[]
  instanceTypes := #[(.object "com/example/fieldstone/fieldstone/store/IndexFile"), .int, (.object "java/util/Map")]
  staticTypes := #[]
  resolved := Array.replicate 279 none
  statics := none }

def pool4 : Array CpInfo := pool [(4, .class_ 6), (1, u "com/example/fieldstone/fieldstone/format/StoredFields"), (3, .class_ 12), (1, u "com/example/fieldstone/fieldstone/format/CompressedStoredFields"), (0, u "chunkSize"), (0, u "I"), (2, u "chunkDocuments"), (0, u "[I"), (2, u "chunkStarts"), (0, u "[J"), (2, u "chunksEnd"), (0, u "J"), (76, u "(II)I"), (11, .class_ 117), (1, u "com/example/fieldstone/fieldstone/format/CompressedStoredFields$Chunk"), (23, u "blockCount"), (9, .class_ 152), (0, u "com/example/fieldstone/fieldstone/format/CompressedStoredFields$ChunkCursor"), (5, u "TYPES"), (0, u "[Lcom/example/fieldstone/fieldstone/format/StoredField$Type;"), (8, .long 2), (1, .methodref 10 171), (0, .nameAndType 141 103), (0, .methodref 173 174), (0, .class_ 175), (0, .nameAndType 176 103), (0, u "java/lang/Math"), (0, u "min"), (14, .class_ 193), (1, u "com/example/fieldstone/fieldstone/format/CompressedStoredFields$PerDocument"), (47, u "PACKED_VERSION"), (2, u "OLDEST_PACKED_VERSION"), (1, u "UNCUT_CHUNK_SIZE"), (0, u "VARIABLE_LENGTH_BYTES"), (1, u "MAXIMUM_EXPANSION"), (0, u "MAXIMUM_CHUNK_BYTES"), (17, u "blockLength"), (0, u "(III)I"), (4, .class_ 275), (0, u "com/example/fieldstone/fieldstone/format/CompressedStoredFields$1"), (0, .class_ 277), (0, u "com/example/fieldstone/fieldstone/format/CompressedStoredFields$ReadField")] 39

def k4c0 : Code := { maxStack := 6, maxLocals := 2, code := prog_20_method_8_code, exceptionTable := #[], attributes := #[] }
def k4m0 : Method := { name := "blockCount", desc := "(II)I", sig := { parameters := [.int, .int], returnType := some .int }, accessFlags := 8, code := some k4c0 }
def k4c1 : Code := { maxStack := 3, maxLocals := 3, code := prog_20_method_9_code, exceptionTable := #[], attributes := #[] }
def k4m1 : Method := { name := "blockLength", desc := "(III)I", sig := { parameters := [.int, .int, .int], returnType := some .int }, accessFlags := 8, code := some k4c1 }
/-- com/example/fieldstone/fieldstone/format/CompressedStoredFields -/
def k4 : Class := { plain "com/example/fieldstone/fieldstone/format/CompressedStoredFields" (some 3) with
  accessFlags := 48
  interfaces := #[]
  cf := some (fileOf pool4 10 #[.nestMembers #[274, 115, 276, 191, 151]] #[{ accessFlags := 8, nameIndex := 141, descriptorIndex := 103, attributes := #[] }, { accessFlags := 8, nameIndex := 268, descriptorIndex := 269, attributes := #[] }] 48 4 #[] #[{ accessFlags := 24, nameIndex := 241, descriptorIndex := 14, attributes := #[] }, { accessFlags := 26, nameIndex := 244, descriptorIndex := 14, attributes := #[] }, { accessFlags := 26, nameIndex := 246, descriptorIndex := 14, attributes := #[] }, { accessFlags := 26, nameIndex := 158, descriptorIndex := 159, attributes := #[] }, { accessFlags := 26, nameIndex := 247, descriptorIndex := 14, attributes := #[] }, { accessFlags := 26, nameIndex := 249, descriptorIndex := 26, attributes := #[] }, { accessFlags := 24, nameIndex := 250, descriptorIndex := 14, attributes := #[] }, { accessFlags := 18, nameIndex := 13, descriptorIndex := 14, attributes := #[] }, { accessFlags := 18, nameIndex := 17, descriptorIndex := 18, attributes := #[] }, { accessFlags := 18, nameIndex := 21, descriptorIndex := 22, attributes := #[] }, { accessFlags := 18, nameIndex := 25, descriptorIndex := 26, attributes := #[] }])
  fields := #[{ name := "PACKED_VERSION", type := .int, accessFlags := 24, slot := 0, constantValue := 0 }, { name := "OLDEST_PACKED_VERSION", type := .int, accessFlags := 26, slot := 1, constantValue := 0 }, { name := "UNCUT_CHUNK_SIZE", type := .int, accessFlags := 26, slot := 2, constantValue := 0 }, { name := "TYPES", type := (.array (.object "com/example/fieldstone/fieldstone/format/StoredField$Type")), accessFlags := 26, slot := 3, constantValue := 0 }, { name := "VARIABLE_LENGTH_BYTES", type := .int, accessFlags := 26, slot := 4, constantValue := 0 }, { name := "MAXIMUM_EXPANSION", type := .long, accessFlags := 26, slot := 5, constantValue := 0 }, { name := "MAXIMUM_CHUNK_BYTES", type := .int, accessFlags := 24, slot := 6, constantValue := 0 }, { name := "chunkSize", type := .int, accessFlags := 18, slot := 3, constantValue := 0 }, { name := "chunkDocuments", type := (.array .int), accessFlags := 18, slot := 4, constantValue := 0 }, { name := "chunkStarts", type := (.array .long), accessFlags := 18, slot := 5, constantValue := 0 }, { name := "chunksEnd", type := .long, accessFlags := 18, slot := 6, constantValue := 0 }]
  methods := #[k4m0, k4m1]
  instanceTypes := #[(.object "com/example/fieldstone/fieldstone/store/IndexFile"), .int, (.object "java/util/Map"), .int, (.array .int), (.array .long), .long]
  staticTypes := #[.int, .int, .int, (.array (.object "com/example/fieldstone/fieldstone/format/StoredField$Type")), .int, .long, .int]
  resolved := Array.replicate 317 none
  statics := none }

def pool5 : Array CpInfo := pool [(1, u "java/lang/Cloneable"), (0, .class_ 1), (0, u "java/lang/Object"), (0, .class_ 3)] 3

/-- java/lang/Cloneable -/
def k5 : Class := { plain "java/lang/Cloneable" (some 0) with
  accessFlags := 1537
  interfaces := #[]
  cf := some (fileOf pool5 2 #[] #[] 1537 4 #[] #[])
  fields := #[]
  methods := #[]
  instanceTypes := #[]
  staticTypes := #[]
  resolved := Array.replicate 8 none
  statics := none }

def pool6 : Array CpInfo := pool [(1, u "java/io/Serializable"), (0, .class_ 1), (0, u "java/lang/Object"), (0, .class_ 3)] 3

/-- java/io/Serializable -/
def k6 : Class := { plain "java/io/Serializable" (some 0) with
  accessFlags := 1537
  interfaces := #[]
  cf := some (fileOf pool6 2 #[] #[] 1537 4 #[] #[])
  fields := #[]
  methods := #[]
  instanceTypes := #[]
  staticTypes := #[]
  resolved := Array.replicate 8 none
  statics := none }

/-- the primitive byte -/
def k7 : Class := { plain "byte" none with kind := .primitive 'B', accessFlags := 0x411 }
/-- [B -/
def k8 : Class := { plain "[B" (some 0) with kind := .array 7 .byte, interfaces := #[5, 6], accessFlags := 1041 }

/-- the primitive int -/
def k9 : Class := { plain "int" none with kind := .primitive 'I', accessFlags := 0x411 }
/-- [I -/
def k10 : Class := { plain "[I" (some 0) with kind := .array 9 .int, interfaces := #[5, 6], accessFlags := 1041 }

def heap : Heap := #[]
def classes : Array Class := #[k0, k1, k2, k3, k4, k5, k6, k7, k8, k9, k10]
def interned : List (Array UInt16 × Addr) := []
def slotsUsed : Nat := 0
def theMethod : MethodId := ⟨1, 1⟩
def args0 : Array Value := #[.int 5, .int 7, .int 1, .int 2]
def aboutOver (below : List Frame) : State where
  vm := { classes := classes, interned := interned.toArray }
  heap := heap
  slotsUsed := slotsUsed
  threads := #[{ frames := .invoking theMethod args0 :: below }]
def below0 : List Frame := [.native { method := ⟨0, 0⟩, args := #[] }]
def about1 : State := aboutOver below0
def p0 : Program := .bare "" "" ""
def e0 : Env := launch0.env 0 0 0
theorem w_frames : about1.frames = Frame.invoking theMethod args0 :: below0 := rfl
set_option maxRecDepth 65536 in
theorem w_args : argsFit about1.vm theMethod args0 = true := by decide +kernel
set_option maxRecDepth 65536 in
theorem w_heap : heapFits about1 = true := by decide +kernel
set_option maxRecDepth 65536 in
theorem w_runnable : about1.curStatus? = some .runnable := by decide +kernel
set_option maxRecDepth 65536 in
theorem w_alone : about1.alone = true := by decide +kernel
set_option maxRecDepth 65536 in
theorem w_named : about1.methodNamed? x = some theMethod := by decide +kernel
set_option maxRecDepth 65536 in
theorem w_hears : about1.hears theMethod below0 = true := by decide +kernel
set_option maxRecDepth 65536 in
theorem w_ripe : about1.ripe theMethod args0 below0 = true := by decide +kernel
theorem w_running : about1.status = .running := rfl
set_option maxRecDepth 65536 in
theorem w_room : about1.hasRoom e0.platform room_1 = true :=
  launch0.hasRoom_least _ room_1 (by decide +kernel) (by decide +kernel) (by decide +kernel) (by decide +kernel) (by decide +kernel) (by decide +kernel)
theorem allAtoms_all (ts : List Jvm.Cond) (a : Array Jvm.Value) (st : Jvm.State) : (allAtoms ts).before a st = ts.all (fun c => c.before a st) := by
  induction ts with
  | nil => rfl
  | cons c t ih =>
    show (Jvm.Cond.and c (allAtoms t)).before a st = _
    rw [Jvm.Cond.before_and, ih, List.all_cons]
def words1 : List Jvm.Cond := Jvm.Cond.code x code maxLocals ret :: tables_1
/-- a 'code' word, met by the world's own term for the bytes: nothing is compared byte by byte -/
theorem code_word {y : MethodName} {bytes : ByteArray} {mx : Nat} {rt : Option FieldType} {a : Array Value} {s : State} {m : MethodId} {meth : Method} {c : Code} (h1 : s.methodNamed? y = some m) (h2 : s.vm.method? m = some meth) (h3 : meth.code = some c) (h4 : c.code = bytes)
    (h5 : (c.maxLocals == mx && c.exceptionTable.isEmpty && decide (c.maxStack ≤ mostOperands) && decide (meth.sig.returnType = rt) && !meth.locks && decide (parseMethodDescriptor y.desc = some meth.sig)) = true) : (Jvm.Cond.code y bytes mx rt).before a s = true := by
  simp only [Bool.and_eq_true, beq_iff_eq, Bool.not_eq_true', decide_eq_true_eq] at h5
  obtain ⟨⟨⟨⟨⟨g1, g2⟩, g3⟩, g4⟩, g5⟩, g6⟩ := h5
  simp [Cond.before, Cond.holds, Cond.value, h1, h2, h3, h4, g1, g2, g3, g4, g5, g6]
def isCode : Jvm.Cond → Bool
  | .code _ _ _ _ => true
  | _ => false
theorem all_split {L : List Jvm.Cond} {P : Jvm.Cond → Bool} (h1 : L.all (fun c => isCode c || P c) = true) (h2 : ∀ c ∈ L.filter isCode, P c = true) : L.all P = true := by
  refine List.all_eq_true.mpr fun c hc => ?_
  have h := List.all_eq_true.mp h1 c hc
  rcases Bool.eq_false_or_eq_true (isCode c) with hi | hi
  · exact h2 c (List.mem_filter.mpr ⟨hc, hi⟩)
  · simpa [hi] using h
set_option maxRecDepth 65536 in
theorem w_c0 : (Jvm.Cond.code x code maxLocals ret).before args0 about1 = true := code_word (m := ⟨1, 1⟩) (meth := k1m1) (c := k1c1) (by decide +kernel) rfl rfl rfl (by decide +kernel)
set_option maxRecDepth 65536 in
theorem w_c1 : (Jvm.Cond.code ({ cls := "java/lang/Math", name := "max", desc := "(II)I" } : Jvm.MethodName) jdk_29_method_65_code (2 : Nat) (Option.some Jvm.ClassFile.FieldType.int)).before args0 about1 = true := code_word (m := ⟨2, 1⟩) (meth := k2m1) (c := k2c1) (by decide +kernel) rfl rfl rfl (by decide +kernel)
set_option maxRecDepth 65536 in
theorem w_c2 : (Jvm.Cond.code ({ cls := "com/example/fieldstone/fieldstone/format/CompressedStoredFields", name := "blockLength", desc := "(III)I" } : Jvm.MethodName) prog_20_method_9_code (3 : Nat) (Option.some Jvm.ClassFile.FieldType.int)).before args0 about1 = true := code_word (m := ⟨4, 1⟩) (meth := k4m1) (c := k4c1) (by decide +kernel) rfl rfl rfl (by decide +kernel)
set_option maxRecDepth 65536 in
theorem w_c3 : (Jvm.Cond.code ({ cls := "com/example/fieldstone/fieldstone/format/CompressedStoredFields", name := "blockCount", desc := "(II)I" } : Jvm.MethodName) prog_20_method_8_code (2 : Nat) (Option.some Jvm.ClassFile.FieldType.int)).before args0 about1 = true := code_word (m := ⟨4, 0⟩) (meth := k4m0) (c := k4c0) (by decide +kernel) rfl rfl rfl (by decide +kernel)
set_option maxRecDepth 65536 in
theorem w_c4 : (Jvm.Cond.code ({ cls := "java/lang/Math", name := "min", desc := "(II)I" } : Jvm.MethodName) jdk_29_method_69_code (2 : Nat) (Option.some Jvm.ClassFile.FieldType.int)).before args0 about1 = true := code_word (m := ⟨2, 2⟩) (meth := k2m2) (c := k2c2) (by decide +kernel) rfl rfl rfl (by decide +kernel)
def codes1 : List Jvm.Cond := [Jvm.Cond.code x code maxLocals ret, Jvm.Cond.code ({ cls := "java/lang/Math", name := "max", desc := "(II)I" } : Jvm.MethodName) jdk_29_method_65_code (2 : Nat) (Option.some Jvm.ClassFile.FieldType.int), Jvm.Cond.code ({ cls := "com/example/fieldstone/fieldstone/format/CompressedStoredFields", name := "blockLength", desc := "(III)I" } : Jvm.MethodName) prog_20_method_9_code (3 : Nat) (Option.some Jvm.ClassFile.FieldType.int), Jvm.Cond.code ({ cls := "com/example/fieldstone/fieldstone/format/CompressedStoredFields", name := "blockCount", desc := "(II)I" } : Jvm.MethodName) prog_20_method_8_code (2 : Nat) (Option.some Jvm.ClassFile.FieldType.int), Jvm.Cond.code ({ cls := "java/lang/Math", name := "min", desc := "(II)I" } : Jvm.MethodName) jdk_29_method_69_code (2 : Nat) (Option.some Jvm.ClassFile.FieldType.int)]
set_option maxRecDepth 65536 in
theorem codes_eq : words1.filter isCode = codes1 := rfl
theorem w_codes : ∀ c ∈ words1.filter isCode, c.before args0 about1 = true := by
  rw [codes_eq]
  intro c hc
  simp only [codes1, List.mem_cons, List.not_mem_nil, or_false] at hc
  rcases hc with rfl | rfl | rfl | rfl | rfl
  · exact w_c0
  · exact w_c1
  · exact w_c2
  · exact w_c3
  · exact w_c4
set_option maxRecDepth 65536 in
theorem w_t1 : words1.all (fun c => isCode c || c.before args0 about1) = true := by decide +kernel
theorem w_tables : (allAtoms (Jvm.Cond.code x code maxLocals ret :: tables_1)).before args0 about1 = true := by
  rw [allAtoms_all]
  show words1.all (fun c => c.before args0 about1) = true
  refine all_split ?_ w_codes
  rw [w_t1]
set_option maxRecDepth 65536 in
theorem w_case : (Jvm.Cond.and given_1 narrow_1).before args0 about1 = true := by decide +kernel
theorem w_applies : (headSpec (Jvm.Cond.code x code maxLocals ret :: tables_1) room_1).applies x e0.platform about1 = true :=
  (Spec.applies_iff w_frames).mpr ⟨w_running, w_runnable, w_alone, w_named, w_hears, w_ripe, w_room, w_tables⟩
theorem atStart : AtStart classFile x code maxLocals ret World_1 tables_1 room_1 Calls_1 rest_1 Pre_1 launch0 p0 e0 about1 theMethod args0 below0 :=
  ⟨lists_1, trivial, launch0.admits_env _ _ _, launch0.least_env, fairChoices_fair.cas, fairChoices_fair.clock, w_frames, w_args, w_heap, w_applies, trivial, trivial, w_case⟩
end start1
theorem witness_1 : WitnessClaimed_1 := ⟨start1.p0, start1.e0, start1.about1, start1.theMethod, start1.args0, start1.below0, start1.atStart⟩
end Jvm.Pilot.@@N@@
