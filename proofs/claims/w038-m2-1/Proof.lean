import JvmDerived
import JvmDerived.Pilot.@@N@@Statement
import JvmDerived.Pilot.@@N@@Code
set_option linter.unusedVariables false
set_option linter.unusedSimpArgs false
namespace Jvm.RoadKit
open Sem ClassFile Op Lib Jvm.Stand Jvm.Free Jvm.LawKit
section New
variable {p : Program} {l : Launch} {e : Env} {R : Room} {s : State} {m : MethodId} {args : Array Value} {below : List Frame} {meth : Method} {c : Code} {T : State} {locs : List Loc} {cells slots : Nat}
theorem retI (X : Stand p l e R s m args below meth c T locs cells slots) (hx : p.tables.exec = Jvm.exec) {pc : Nat} {Ls : Array Slot} {z : Int32} {rest : List Value} (hret : meth.sig.returnType = some .int) (hd : decode c.code pc = .ok (.ireturn, 1)) {fs : List Frame}
    (hl : ∀ (f : JFrame) (acts : List Action), f.method = m → f.locked = none → f.entered = [] → (doReturn e (T.setTop f) acts (some (.int z))).1 = T.setFrames fs) : Steps p.tables e below (T.setTop (mkF m pc Ls (.int z :: rest))) (T.setFrames fs) := by
  have hm' : T.vm.method? m = some meth := X.method'
  have hn : narrow .int (.int z) = .int z := rfl
  show Steps p.tables e below (T.setTop { method := m, pc := pc, locals := Ls, stack := _ :: rest, locked := none }) _
  jvm_step X.here [X.here.top, hx, hd, hm', hret, hn]
  first | (intro acts; rw [hl _ acts rfl rfl rfl]) | rw [hl _ _ rfl rfl rfl]
  exact Steps.refl _
end New
end Jvm.RoadKit
namespace Jvm.Pilot.@@N@@
open Jvm Jvm.ClassFile Sem Op Lib Jvm.Free Jvm.Stand Jvm.LawKit Jvm.RoadKit Bundle Jvm.Pilot.@@N@@.Jvm.D
section Own
variable {p : Program} {l : Launch} {e : Env} {R : Room} {s : State} {m : MethodId} {args : Array Value} {below : List Frame} {meth : Method} {c : Code} {T : State} {locs : List Loc} {cells slots : Nat} {Z : State} {a0 : Array Value} {h h' : Heap}
/-- an array of n places, whose j-th holds f j -/
def own_AF (Z : State) (h : Heap) (a : Addr) (ty : FieldType) (n : Nat) (f : Nat → Value) : Prop := n < 2147483648 ∧ ∃ c : Cell, Arr Z h a c ty ∧ c.slots.size = n ∧ ∀ j, j < n → c.slots[j]? = some (f j)
/-- an array of ints, bytes, chars, booleans -/
def own_AI (Z : State) (h : Heap) (a : Addr) (ty : FieldType) (n : Nat) (f : Nat → Int32) : Prop := own_AF Z h a ty n (fun j => .int (f j))
def own_AL (Z : State) (h : Heap) (a : Addr) (n : Nat) (f : Nat → Int64) : Prop := own_AF Z h a .long n (fun j => .long (f j))
def own_upd {α : Type} (f : Nat → α) (i : Nat) (x : α) : Nat → α := fun j => if j = i then x else f j
theorem own_AF.lt {a : Addr} {ty : FieldType} {n : Nat} {f : Nat → Value} (F : own_AF Z h a ty n f) : a < h.size := by obtain ⟨_, c, A, -⟩ := F; exact A.lt
theorem own_AI.lt {a : Addr} {ty : FieldType} {n : Nat} {f : Nat → Int32} (F : own_AI Z h a ty n f) : a < h.size := own_AF.lt F
theorem own_AL.lt {a : Addr} {n : Nat} {f : Nat → Int64} (F : own_AL Z h a n f) : a < h.size := own_AF.lt F
theorem own_AF.keep {a : Addr} {ty : FieldType} {n : Nat} {f : Nat → Value} {ws : List Addr} (F : own_AF Z h a ty n f) (K : Keep h h' ws) (q : a ∉ ws) : own_AF Z h' a ty n f := by
  obtain ⟨b, c, A, r⟩ := F; exact ⟨b, c, ⟨K.2.1 a c A.1 q, A.2⟩, r⟩
theorem own_AI.keep {a : Addr} {ty : FieldType} {n : Nat} {f : Nat → Int32} {ws : List Addr} (F : own_AI Z h a ty n f) (K : Keep h h' ws) (q : a ∉ ws) : own_AI Z h' a ty n f := own_AF.keep F K q
theorem own_AL.keep {a : Addr} {n : Nat} {f : Nat → Int64} {ws : List Addr} (F : own_AL Z h a n f) (K : Keep h h' ws) (q : a ∉ ws) : own_AL Z h' a n f := own_AF.keep F K q
theorem own_AF.congr {a : Addr} {ty : FieldType} {n : Nat} {f g : Nat → Value} (F : own_AF Z h a ty n f) (q : ∀ j, j < n → f j = g j) : own_AF Z h a ty n g := by
  obtain ⟨b, c, A, s, r⟩ := F; exact ⟨b, c, A, s, fun j hj => by rw [r j hj, q j hj]⟩
theorem own_AI.congr {a : Addr} {ty : FieldType} {n : Nat} {f g : Nat → Int32} (F : own_AI Z h a ty n f) (q : ∀ j, j < n → f j = g j) : own_AI Z h a ty n g := own_AF.congr F fun j hj => by show Value.int (f j) = .int (g j); rw [q j hj]
theorem own_AF.wr {a : Addr} {ty : FieldType} {n i : Nat} {f : Nat → Value} {v : Value} (F : own_AF Z h a ty n f) (hi : i < n) (W : Wr h h' a i v) : own_AF Z h' a ty n (own_upd f i v) := by
  obtain ⟨b, c, A, s, r⟩ := F
  refine ⟨b, _, A.same W, by rw [sz_set]; exact s, fun j hj => ?_⟩
  simp only [Cell.setSlot, own_upd, Array.getElem?_setIfInBounds]
  by_cases q : i = j
  · subst q; simp [s, hi]
  · have q' : ¬ j = i := fun e => q e.symm
    simp [q, q', r j hj]
theorem own_AI.wr {a : Addr} {ty : FieldType} {n i : Nat} {f : Nat → Int32} {x : Int32} (F : own_AI Z h a ty n f) (hi : i < n) (W : Wr h h' a i (.int x)) : own_AI Z h' a ty n (own_upd f i x) :=
  (own_AF.wr F hi W).congr fun j hj => by simp only [own_upd]; split <;> rfl
theorem own_AL.wr {a : Addr} {n i : Nat} {f : Nat → Int64} {x : Int64} (F : own_AL Z h a n f) (hi : i < n) (W : Wr h h' a i (.long x)) : own_AL Z h' a n (own_upd f i x) :=
  (own_AF.wr F hi W).congr fun j hj => by simp only [own_upd]; split <;> rfl
theorem own_idx {j : Int32} {i : Nat} (hj : j.toInt = i) : ¬ j < 0 ∧ j.toNatClampNeg = i := by
  refine ⟨by rw [Int32.lt_iff_toInt_lt, Int32.toInt_zero]; omega, ?_⟩
  have := nat_of (j := j) (by rw [Int32.lt_iff_toInt_lt, Int32.toInt_zero]; omega)
  omega
theorem own_inb {j : Int32} {i n : Nat} {cl : Cell} (hj : j.toInt = i) (hi : i < n) (hs : cl.slots.size = n) : ¬ (j < 0 ∨ cl.slots.size ≤ j.toNatClampNeg) := by
  obtain ⟨h1, h2⟩ := own_idx hj
  rintro (q | q)
  · exact h1 q
  · rw [h2, hs] at q; omega
theorem own_ldF {a : Addr} {n i : Nat} {ty : FieldType} {f : Nat → Value} {j : Int32} {v : Value} (A : own_AF Z h a ty n f) (hj : j.toInt = i) (hi : i < n) (hv : f i = v) : ∃ cl : Cell, Arr Z h a cl ty ∧ ¬ (j < 0 ∨ cl.slots.size ≤ j.toNatClampNeg) ∧ cl.slots[j.toNatClampNeg]? = some v := by
  obtain ⟨b, cl, Ar, hs, hf⟩ := A
  exact ⟨cl, Ar, own_inb hj hi hs, by rw [(own_idx hj).2, hf i hi, hv]⟩
theorem own_ldI (X : Stand p l e R s m args below meth c T locs cells slots) (hx : p.tables.exec = Jvm.exec) (hZ : Z.Warmed39 s.vm) (eT : T.heap = h) {a : Addr} {n i : Nat} {f : Nat → Int32} {j x : Int32} (A : own_AI Z h a .int n f) (hj : j.toInt = i) (hi : i < n) (hv : f i = x) {g : JFrame} (hg : g.method = m) {rest : List Value} (hs : g.stack = .int j :: .ref a :: rest) (hd : decode c.code g.pc = .ok (.iaload, 1)) :
    ∀ target, Steps p.tables e below (T.setTop { g with pc := g.pc + 1, stack := .int x :: rest }) target → Steps p.tables e below (T.setTop g) target := by
  obtain ⟨cl, Ar, h1, h2⟩ := own_ldF A hj hi (by rw [hv])
  exact X.iaload hx (by rw [eT]; exact Ar.1) (State.isArrayOf_alike hZ.alike Ar.2.1) Ar.2.2 h1 h2 hg hs hd
theorem own_ldC (X : Stand p l e R s m args below meth c T locs cells slots) (hx : p.tables.exec = Jvm.exec) (hZ : Z.Warmed39 s.vm) (eT : T.heap = h) {a : Addr} {n i : Nat} {f : Nat → Int32} {j x : Int32} (A : own_AI Z h a .char n f) (hj : j.toInt = i) (hi : i < n) (hv : f i = x) {g : JFrame} (hg : g.method = m) {rest : List Value} (hs : g.stack = .int j :: .ref a :: rest) (hd : decode c.code g.pc = .ok (.caload, 1)) :
    ∀ target, Steps p.tables e below (T.setTop { g with pc := g.pc + 1, stack := .int x :: rest }) target → Steps p.tables e below (T.setTop g) target := by
  obtain ⟨cl, Ar, h1, h2⟩ := own_ldF A hj hi (by rw [hv])
  exact X.caload hx (by rw [eT]; exact Ar.1) (State.isArrayOf_alike hZ.alike Ar.2.1) Ar.2.2 h1 h2 hg hs hd
theorem own_ldB (X : Stand p l e R s m args below meth c T locs cells slots) (hx : p.tables.exec = Jvm.exec) (hZ : Z.Warmed39 s.vm) (eT : T.heap = h) {a : Addr} {n i : Nat} {f : Nat → Int32} {j x : Int32} (A : own_AI Z h a .byte n f) (hj : j.toInt = i) (hi : i < n) (hv : f i = x) {g : JFrame} (hg : g.method = m) {rest : List Value} (hs : g.stack = .int j :: .ref a :: rest) (hd : decode c.code g.pc = .ok (.baload, 1)) :
    ∀ target, Steps p.tables e below (T.setTop { g with pc := g.pc + 1, stack := .int x :: rest }) target → Steps p.tables e below (T.setTop g) target := by
  obtain ⟨cl, Ar, h1, h2⟩ := own_ldF A hj hi (by rw [hv])
  exact X.baloadBytes hx (by rw [eT]; exact Ar.1) (State.isArrayOf_alike hZ.alike Ar.2.1) Ar.2.2 h1 h2 hg hs hd
theorem own_ldZ (X : Stand p l e R s m args below meth c T locs cells slots) (hx : p.tables.exec = Jvm.exec) (hZ : Z.Warmed39 s.vm) (eT : T.heap = h) {a : Addr} {n i : Nat} {f : Nat → Int32} {j x : Int32} (A : own_AI Z h a .boolean n f) (hj : j.toInt = i) (hi : i < n) (hv : f i = x) {g : JFrame} (hg : g.method = m) {rest : List Value} (hs : g.stack = .int j :: .ref a :: rest) (hd : decode c.code g.pc = .ok (.baload, 1)) :
    ∀ target, Steps p.tables e below (T.setTop { g with pc := g.pc + 1, stack := .int x :: rest }) target → Steps p.tables e below (T.setTop g) target := by
  obtain ⟨cl, Ar, h1, h2⟩ := own_ldF A hj hi (by rw [hv])
  exact X.baloadBooleans hx (by rw [eT]; exact Ar.1) (State.isArrayOf_alike hZ.alike Ar.2.1) Ar.2.2 h1 h2 hg hs hd
theorem own_ldJ (X : Stand p l e R s m args below meth c T locs cells slots) (hx : p.tables.exec = Jvm.exec) (hZ : Z.Warmed39 s.vm) (eT : T.heap = h) {a : Addr} {n i : Nat} {f : Nat → Int64} {j : Int32} {x : Int64} (A : own_AL Z h a n f) (hj : j.toInt = i) (hi : i < n) (hv : f i = x) {g : JFrame} (hg : g.method = m) {rest : List Value} (hs : g.stack = .int j :: .ref a :: rest) (hd : decode c.code g.pc = .ok (.laload, 1)) :
    ∀ target, Steps p.tables e below (T.setTop { g with pc := g.pc + 1, stack := .long x :: rest }) target → Steps p.tables e below (T.setTop g) target := by
  obtain ⟨cl, Ar, h1, h2⟩ := own_ldF A hj hi (by rw [hv])
  exact X.laload hx (by rw [eT]; exact Ar.1) (State.isArrayOf_alike hZ.alike Ar.2.1) Ar.2.2 h1 h2 hg hs hd
theorem own_ldR (X : Stand p l e R s m args below meth c T locs cells slots) (hx : p.tables.exec = Jvm.exec) (hZ : Z.Warmed39 s.vm) (eT : T.heap = h) {a : Addr} {n i : Nat} {ty : FieldType} {f : Nat → Value} {j : Int32} {v : Value} (hty : ty.isReference = true) (A : own_AF Z h a ty n f) (hj : j.toInt = i) (hi : i < n) (hv : f i = v) {g : JFrame} (hg : g.method = m) {rest : List Value} (hs : g.stack = .int j :: .ref a :: rest) (hd : decode c.code g.pc = .ok (.aaload, 1)) :
    ∀ target, Steps p.tables e below (T.setTop { g with pc := g.pc + 1, stack := v :: rest }) target → Steps p.tables e below (T.setTop g) target := by
  obtain ⟨cl, Ar, h1, h2⟩ := own_ldF A hj hi hv
  exact X.aaload hx (by rw [eT]; exact Ar.1) (State.isArrayOf_alike hZ.alike Ar.2.1) hty Ar.2.2 h1 h2 hg hs hd
theorem own_len (X : Stand p l e R s m args below meth c T locs cells slots) (hx : p.tables.exec = Jvm.exec) (hZ : Z.Warmed39 s.vm) (eT : T.heap = h) {a : Addr} {n : Nat} {ty : FieldType} {f : Nat → Value} {z : Int32} (A : own_AF Z h a ty n f) (hz : z.toInt = n) {g : JFrame} (hg : g.method = m) {rest : List Value} (hs : g.stack = .ref a :: rest) (hd : decode c.code g.pc = .ok (.arraylength, 1)) :
    ∀ target, Steps p.tables e below (T.setTop { g with pc := g.pc + 1, stack := .int z :: rest }) target → Steps p.tables e below (T.setTop g) target := by
  obtain ⟨b, cl, Ar, hs', hf⟩ := A
  intro target k
  refine X.arraylength hx (by rw [eT]; exact Ar.1) (State.isArrayOf_alike hZ.alike Ar.2.1) hg hs hd target ?_
  have q : cl.slots.size.toInt32 = z := by
    apply Int32.toInt_inj.mp
    rw [hs', len_toInt (by omega), hz]
  rw [q]; exact k
theorem own_stI (X : Stand p l e R s m args below meth c T locs cells slots) (hx : p.tables.exec = Jvm.exec) (hZ : Z.Warmed39 s.vm) (eT : T.heap = h) {a : Addr} {n i : Nat} {f : Nat → Int32} {j x : Int32} (A : own_AI Z h a .int n f) (hj : j.toInt = i) (hi : i < n) {g : JFrame} (hg : g.method = m) {rest : List Value} (hs : g.stack = .int x :: .int j :: .ref a :: rest) (hd : decode c.code g.pc = .ok (.iastore, 1)) :
    ∃ T' h', Stand p l e R s m args below meth c T' (locs ++ [⟨a, i⟩]) cells slots ∧ T'.heap = h' ∧ Wr h h' a i (.int x) ∧ own_AI Z h' a .int n (own_upd f i x) ∧ ∀ target, Steps p.tables e below (T'.setTop { g with pc := g.pc + 1, stack := rest }) target → Steps p.tables e below (T.setTop g) target := by
  obtain ⟨cl, Ar, h1, -⟩ := own_ldF A hj hi rfl
  obtain ⟨T', h', X', e', W, st⟩ := stI X hx hZ eT Ar h1 hg hs hd
  rw [(own_idx hj).2] at X' W
  exact ⟨T', h', X', e', W, A.wr hi W, st⟩
theorem own_stB (X : Stand p l e R s m args below meth c T locs cells slots) (hx : p.tables.exec = Jvm.exec) (hZ : Z.Warmed39 s.vm) (eT : T.heap = h) {a : Addr} {n i : Nat} {f : Nat → Int32} {j x : Int32} (A : own_AI Z h a .byte n f) (hj : j.toInt = i) (hi : i < n) {g : JFrame} (hg : g.method = m) {rest : List Value} (hs : g.stack = .int x :: .int j :: .ref a :: rest) (hd : decode c.code g.pc = .ok (.bastore, 1)) :
    ∃ T' h', Stand p l e R s m args below meth c T' (locs ++ [⟨a, i⟩]) cells slots ∧ T'.heap = h' ∧ Wr h h' a i (.int (x.toInt8.toInt32)) ∧ own_AI Z h' a .byte n (own_upd f i (x.toInt8.toInt32)) ∧ ∀ target, Steps p.tables e below (T'.setTop { g with pc := g.pc + 1, stack := rest }) target → Steps p.tables e below (T.setTop g) target := by
  obtain ⟨cl, Ar, h1, -⟩ := own_ldF A hj hi rfl
  obtain ⟨T', h', X', e', W, st⟩ := stB X hx hZ eT Ar h1 hg hs hd
  rw [(own_idx hj).2] at X' W
  exact ⟨T', h', X', e', W, A.wr hi W, st⟩
theorem own_stZ (X : Stand p l e R s m args below meth c T locs cells slots) (hx : p.tables.exec = Jvm.exec) (hZ : Z.Warmed39 s.vm) (eT : T.heap = h) {a : Addr} {n i : Nat} {f : Nat → Int32} {j x : Int32} (A : own_AI Z h a .boolean n f) (hj : j.toInt = i) (hi : i < n) {g : JFrame} (hg : g.method = m) {rest : List Value} (hs : g.stack = .int x :: .int j :: .ref a :: rest) (hd : decode c.code g.pc = .ok (.bastore, 1)) :
    ∃ T' h', Stand p l e R s m args below meth c T' (locs ++ [⟨a, i⟩]) cells slots ∧ T'.heap = h' ∧ Wr h h' a i (.int (x &&& 1)) ∧ own_AI Z h' a .boolean n (own_upd f i (x &&& 1)) ∧ ∀ target, Steps p.tables e below (T'.setTop { g with pc := g.pc + 1, stack := rest }) target → Steps p.tables e below (T.setTop g) target := by
  obtain ⟨cl, Ar, h1, -⟩ := own_ldF A hj hi rfl
  obtain ⟨T', h', X', e', W, st⟩ := stZ X hx hZ eT Ar h1 hg hs hd
  rw [(own_idx hj).2] at X' W
  exact ⟨T', h', X', e', W, A.wr hi W, st⟩
theorem own_stC (X : Stand p l e R s m args below meth c T locs cells slots) (hx : p.tables.exec = Jvm.exec) (hZ : Z.Warmed39 s.vm) (eT : T.heap = h) {a : Addr} {n i : Nat} {f : Nat → Int32} {j x : Int32} (A : own_AI Z h a .char n f) (hj : j.toInt = i) (hi : i < n) {g : JFrame} (hg : g.method = m) {rest : List Value} (hs : g.stack = .int x :: .int j :: .ref a :: rest) (hd : decode c.code g.pc = .ok (.castore, 1)) :
    ∃ T' h', Stand p l e R s m args below meth c T' (locs ++ [⟨a, i⟩]) cells slots ∧ T'.heap = h' ∧ Wr h h' a i (.int (x.toUInt32.toUInt16.toUInt32.toInt32)) ∧ own_AI Z h' a .char n (own_upd f i (x.toUInt32.toUInt16.toUInt32.toInt32)) ∧ ∀ target, Steps p.tables e below (T'.setTop { g with pc := g.pc + 1, stack := rest }) target → Steps p.tables e below (T.setTop g) target := by
  obtain ⟨cl, Ar, h1, -⟩ := own_ldF A hj hi rfl
  obtain ⟨T', h', X', e', W, st⟩ := stC X hx hZ eT Ar h1 hg hs hd
  rw [(own_idx hj).2] at X' W
  exact ⟨T', h', X', e', W, A.wr hi W, st⟩
theorem own_stJ (X : Stand p l e R s m args below meth c T locs cells slots) (hx : p.tables.exec = Jvm.exec) (hZ : Z.Warmed39 s.vm) (eT : T.heap = h) {a : Addr} {n i : Nat} {f : Nat → Int64} {j : Int32} {x : Int64} (A : own_AL Z h a n f) (hj : j.toInt = i) (hi : i < n) {g : JFrame} (hg : g.method = m) {rest : List Value} (hs : g.stack = .long x :: .int j :: .ref a :: rest) (hd : decode c.code g.pc = .ok (.lastore, 1)) :
    ∃ T' h', Stand p l e R s m args below meth c T' (locs ++ [⟨a, i⟩]) cells slots ∧ T'.heap = h' ∧ Wr h h' a i (.long x) ∧ own_AL Z h' a n (own_upd f i x) ∧ ∀ target, Steps p.tables e below (T'.setTop { g with pc := g.pc + 1, stack := rest }) target → Steps p.tables e below (T.setTop g) target := by
  obtain ⟨cl, Ar, h1, -⟩ := own_ldF A hj hi rfl
  obtain ⟨T', h', X', e', W, st⟩ := stJ X hx hZ eT Ar h1 hg hs hd
  rw [(own_idx hj).2] at X' W
  exact ⟨T', h', X', e', W, A.wr hi W, st⟩
theorem own_newF {a : Addr} {cA : ClassId} {ty : FieldType} {n : Int32} {i : Nat} (hn : n.toInt = i) (A : Arr Z h a (newA cA ty n) ty) : own_AF Z h a ty i (fun _ => defaultValue ty) := by
  obtain ⟨h1, h2⟩ := own_idx hn
  have := n.toInt_lt
  refine ⟨by omega, _, A, by rw [sz_new, h2], fun j hj => ?_⟩
  simp [newA, h2, hj]
theorem own_newI {a : Addr} {cA : ClassId} {ty : FieldType} {n : Int32} {i : Nat} (hn : n.toInt = i) (A : Arr Z h a (newA cA ty n) ty) (hd : defaultValue ty = .int 0) : own_AI Z h a ty i (fun _ => 0) :=
  (own_newF hn A).congr fun _ _ => hd
theorem own_newL {a : Addr} {cA : ClassId} {n : Int32} {i : Nat} (hn : n.toInt = i) (A : Arr Z h a (newA cA .long n) .long) : own_AL Z h a i (fun _ => 0) :=
  (own_newF hn A).congr fun _ _ => rfl
theorem own_Sta.keep {C n d : String} {v : Value} {ws : List Addr} (F : Sta Z h C n d v) (K : Keep h h' ws) (q : ∀ x ∈ ws, ∀ cl : Cell, h[x]? = some cl → cl.vm.isStatics = false) : Sta Z h' C n d v := by
  obtain ⟨cf, i, k, f, st, cell, h1, h2, h3, h4, h5, h6, h7⟩ := F
  refine ⟨cf, i, k, f, st, cell, h1, h2, h3, h4, K.2.1 st cell h5 (fun q' => ?_), h6, h7⟩
  have := q st q' cell h5
  rw [h6] at this; cases this
theorem own_selP {args : Array Value} {C : String} {y y' : MethodName} (hcls : y'.cls = y.cls) (hs : (Jvm.Cond.selects C y' y').before args s = true) (hi' : (Jvm.Cond.instanceMethod y').before args s = true) (hp : (Jvm.Cond.privateMethod y).before args s = true) (hi : (Jvm.Cond.instanceMethod y).before args s = true) (hy : y.cls ≠ "java/lang/invoke/MethodHandle" ∧ y.cls ≠ "java/lang/invoke/VarHandle") : (Jvm.Cond.selects y.cls y y).before args s = true := by
  obtain ⟨mk, methM, hnamed, -⟩ := Cond.instanceMethod_spec hi'
  obtain ⟨kr, hk, hni⟩ := notFace_of_selects hs mk hnamed
  have hc := findClass_of_methodNamed hnamed
  rw [hcls] at hc
  exact selects_self_of_private hc hk hni (Cond.privateMethod_at hp) hi hy
end Own

theorem own_fldeq {args : Array Value} {s : State} {t : Term} {x : Addr} {C n d : String} {k : Int32} (h : (Jvm.Cond.eq (.field t C n d) (.int k)).value args s none s [] = some true) (ht : t.eval args s none [] s = some (.ref x)) : Fld s s.heap x C n d (.int k) := by
  obtain ⟨y, h1, h2⟩ := Cond.eq_one (beq_iff_eq.mpr h : (Jvm.Cond.eq (.field t C n d) (.int k)).holds args s none s [] = true)
  have e : y = .int k := (Option.some.inj (show some (Value.int k) = some y from h2)).symm
  subst e
  exact Fld.start ((fld_at ht).symm.trans h1)
theorem own_fldeqL {args : Array Value} {s : State} {t : Term} {x : Addr} {C n d : String} {k : Int64} (h : (Jvm.Cond.eq (.field t C n d) (.long k)).value args s none s [] = some true) (ht : t.eval args s none [] s = some (.ref x)) : Fld s s.heap x C n d (.long k) := by
  obtain ⟨y, h1, h2⟩ := Cond.eq_one (beq_iff_eq.mpr h : (Jvm.Cond.eq (.field t C n d) (.long k)).holds args s none s [] = true)
  have e : y = .long k := (Option.some.inj (show some (Value.long k) = some y from h2)).symm
  subst e
  exact Fld.start ((fld_at ht).symm.trans h1)

theorem d1_0 : decode prog_25_method_7_code 0 = .ok (.aload_n 0, 1) := by decide +kernel
theorem d1_1 : decode prog_25_method_7_code 1 = .ok (.getfield 42, 3) := by decide +kernel
theorem d1_4 : decode prog_25_method_7_code 4 = .ok (.ifCond .eq 7, 3) := by decide +kernel
theorem d1_7 : decode prog_25_method_7_code 7 = .ok (.lload_n 1, 1) := by decide +kernel
theorem d1_8 : decode prog_25_method_7_code 8 = .ok (.goto 4, 3) := by decide +kernel
theorem d1_11 : decode prog_25_method_7_code 11 = .ok (.lconst 0, 1) := by decide +kernel
theorem d1_12 : decode prog_25_method_7_code 12 = .ok (.lreturn, 1) := by decide +kernel
theorem pn_1 : plainName "com/example/grendel/grendel/model/NodeKind" = true := by first | (simp [plainName, overriddenIn]; done) | decide +kernel
theorem ef_1 (m : MethodId) (x0 : Addr) (x1 : Int64) : entryFrame m #[(.ref x0), (.long x1)] 3 = mkF m 0 #[.val (.ref x0), .val (.long x1), .second] [] := by first | (simp [entryFrame, mkF, argsToLocals, Value.category]; done) | rfl
def own_eo (q : Int64) (b : Int32) : Int64 := (if b = (0 : Int32) then (0 : Int64) else q)
theorem own_eq_own_eo (q : Int64) (b : Int32) : own_eo q b = (if b = (0 : Int32) then (0 : Int64) else q) := rfl
def Q1 (Z : State) (a : Addr) (q : Int64) (b : Int32) (h0 : Heap) (n0 : Nat) (v : Option Value) (h : Heap) (L : List Loc) : Prop := v = some (.long (own_eo q b)) ∧ Fr n0 L ∧ h = h0
set_option maxRecDepth 65536 in
set_option maxHeartbeats 40000000 in
theorem rm1 (l : Launch) (Z : State) (a0 : Array Value) (hw : ∀ d ∈ tables_1, d.before a0 Z = true) (ws : List Jvm.Cond) (a : Addr) (q : Int64) (b : Int32) (h0 : Heap) (n0 : Nat) (F_a_ephemeral : Fld Z h0 a "com/example/grendel/grendel/model/NodeKind" "ephemeral" "Z" (.int b)) :
    MetFree l (⟨"com/example/grendel/grendel/model/NodeKind", "ephemeralOwner", "(J)J"⟩ : MethodName) (head1 (Jvm.Cond.code (⟨"com/example/grendel/grendel/model/NodeKind", "ephemeralOwner", "(J)J"⟩ : MethodName) prog_25_method_7_code 3 (some .long) :: ws) ({ frames := 0, cells := 0, slots := 0, locals := 0 } : Room)) (fun aa UU => aa = #[(.ref a), (.long q)] ∧ Z.Warmed39 UU.vm ∧ UU.heap = h0) (fun _ _ _ _ _ => True) (fun _ UU oo UV => ∃ vv LL, oo = .returned vv ∧ Q1 Z a q b h0 n0 vv UV.heap LL ∧ FrameEnd UU oo UV LL ({ frames := 0, cells := 0, slots := 0, locals := 0 } : Room).cells ({ frames := 0, cells := 0, slots := 0, locals := 0 } : Room).slots) := by
  refine MetFree.of_bodySF (plainFor_of_name pn_1) hisR ?_
  intro p e s m args below meth c s₁ Bd hml0 hP hK
  obtain ⟨rfl, hZ, hh⟩ := hP
  have hx := Bd.exec
  have hby := Bd.bytes
  have hml : c.maxLocals = 3 := hml0
  have hown : s.vm.findClass "com/example/grendel/grendel/model/NodeKind" = some m.cls := findClass_of_methodNamed Bd.named
  have hnm := (name_of_methodNamed Bd.named Bd.method).1
  have X0 : Stand p l e ({ frames := 0, cells := 0, slots := 0, locals := 0 } : Room) s m #[(.ref a), (.long q)] below meth c s₁ [] 0 0 := Stand.of_body Bd
  have e0 : s₁.heap = h0 := by rw [← hh, Bd.state]; rfl
  have N0 := Fr.nil n0
  have k0 : ∀ t, Steps p.tables e below (s₁.setTop (mkF m 0 #[.val (.ref a), .val (.long q), .second] [])) t → Steps p.tables e below (s₁.setTop (entryFrame m #[(.ref a), (.long q)] 3)) t := fun t k => castTop (ef_1 m a q) k
  obtain ⟨T1, X1, e1, st1⟩ := getF X0 hx hZ hown (host := "") (Or.inl (hw _ (List.mem_of_getElem? (i := 9) rfl))) Via.refl e0 F_a_ephemeral (g := (mkF m 1 #[.val (.ref a), .val (.long q), .second] [(.ref a)])) rfl rfl (hb hby d1_1)
  have k2 : ∀ t, Steps p.tables e below (T1.setTop (mkF m 4 #[.val (.ref a), .val (.long q), .second] [(.int b)])) t → Steps p.tables e below (s₁.setTop (entryFrame m #[(.ref a), (.long q)] 3)) t := by
    intro t kt
    refine k0 t ?_
    refine XS.aloadN X0.here hx rfl (hb hby d1_0) rfl rfl ?_
    show Steps p.tables e below (s₁.setTop (mkF m 1 #[.val (.ref a), .val (.long q), .second] [(.ref a)])) _
    refine st1 _ ?_
    show Steps p.tables e below (T1.setTop (mkF m 4 #[.val (.ref a), .val (.long q), .second] [(.int b)])) _
    exact kt
  by_cases hc4_3 : b = (0 : Int32)
  · have k4 : ∀ t, Steps p.tables e below (T1.setTop (mkF m 12 #[.val (.ref a), .val (.long q), .second] [(.long (0 : Int64))])) t → Steps p.tables e below (s₁.setTop (entryFrame m #[(.ref a), (.long q)] 3)) t := by
      intro t kt
      refine k2 t ?_
      refine XS.ifYes X1.here hx rfl (pc0 := 4) (pc' := 11) rfl (hb hby d1_4) rfl ((if0 _ _).trans (teq hc4_3).1) (by decide) (by decide) ?_
      show Steps p.tables e below (T1.setTop (mkF m 11 #[.val (.ref a), .val (.long q), .second] [])) _
      refine XS.lconst X1.here hx rfl (hb hby d1_11) ?_
      show Steps p.tables e below (T1.setTop (mkF m 12 #[.val (.ref a), .val (.long q), .second] [(.long (0 : Int64))])) _
      exact kt
    obtain ⟨fs, hr, hrun, hended, hW, hsame⟩ := X1.leave (v := some (.long (0 : Int64))) (fun h => by rw [Bd.returns] at h; cases h)
    refine ⟨_, _, k4 _ (retOut X1 hx Bd.returns rfl (Or.inr (Or.inl ⟨rfl, rfl, _, rfl⟩)) (hb hby d1_12) hr), hrun, hended, _, _, rfl, ?_, ⟨_, rfl⟩, hW, hsame.mono (by decide) (by decide)⟩
    show Q1 Z a q b h0 n0 _ T1.heap _
    rw [e1]
    exact ⟨(by rw [own_eq_own_eo]; rw [if_pos hc4_3]), N0, rfl⟩
  · have k5 : ∀ t, Steps p.tables e below (T1.setTop (mkF m 12 #[.val (.ref a), .val (.long q), .second] [(.long q)])) t → Steps p.tables e below (s₁.setTop (entryFrame m #[(.ref a), (.long q)] 3)) t := by
      intro t kt
      refine k2 t ?_
      refine XS.ifNo X1.here hx rfl (hb hby d1_4) rfl ((if0 _ _).trans (feq hc4_3).1) ?_
      show Steps p.tables e below (T1.setTop (mkF m 7 #[.val (.ref a), .val (.long q), .second] [])) _
      refine XS.lloadN X1.here hx rfl (hb hby d1_7) rfl ?_
      show Steps p.tables e below (T1.setTop (mkF m 8 #[.val (.ref a), .val (.long q), .second] [(.long q)])) _
      refine XS.goto X1.here hx rfl (pc0 := 8) (pc' := 12) rfl (hb hby d1_8) (by decide) (by decide) ?_
      show Steps p.tables e below (T1.setTop (mkF m 12 #[.val (.ref a), .val (.long q), .second] [(.long q)])) _
      exact kt
    obtain ⟨fs, hr, hrun, hended, hW, hsame⟩ := X1.leave (v := some (.long q)) (fun h => by rw [Bd.returns] at h; cases h)
    refine ⟨_, _, k5 _ (retOut X1 hx Bd.returns rfl (Or.inr (Or.inl ⟨rfl, rfl, _, rfl⟩)) (hb hby d1_12) hr), hrun, hended, _, _, rfl, ?_, ⟨_, rfl⟩, hW, hsame.mono (by decide) (by decide)⟩
    show Q1 Z a q b h0 n0 _ T1.heap _
    rw [e1]
    exact ⟨(by rw [own_eq_own_eo]; rw [if_neg hc4_3]), N0, rfl⟩
theorem pd_0 : parseMethodDescriptor "(J)J" = some ⟨[.long], some .long⟩ := by decide +kernel
theorem pn_0 : plainName "com/example/grendel/grendel/model/NodeKindEphemeralOwnerPinLaw" = true := by first | (simp [plainName, overriddenIn]; done) | decide +kernel
theorem ef_0 (m : MethodId) (x0 : Int32) (x1 : Int64) : entryFrame m #[(.int x0), (.long x1)] maxLocals = mkF m 0 #[.val (.int x0), .val (.long x1), .second, .unset, .unset, .unset, .unset, .unset] [] := by first | (simp [entryFrame, mkF, argsToLocals, Value.category, maxLocals]; done) | rfl
def Q0 (Z : State) (p0 : Int32) (q1 : Int64) (x0 : Addr) (x1 : Addr) (x2 : Addr) (x3 : Addr) (x4 : Addr) (h0 : Heap) (n0 : Nat) (v : Option Value) (h : Heap) (L : List Loc) : Prop := v = some (.int 1) ∧ Fr n0 L
set_option maxRecDepth 65536 in
set_option maxHeartbeats 40000000 in
theorem rm0 (l : Launch) (Z : State) (a0 : Array Value) (hw : ∀ d ∈ tables_1, d.before a0 Z = true) (ws : List Jvm.Cond) (p0 : Int32) (q1 : Int64) (x0 : Addr) (x1 : Addr) (x2 : Addr) (x3 : Addr) (x4 : Addr) (h0 : Heap) (n0 : Nat) (Z0 : n0 ≤ h0.size) (S_x0 : Sta Z h0 "com/example/grendel/grendel/model/NodeKind" "PERSISTENT" "Lcom/example/grendel/grendel/model/NodeKind;" (.ref x0)) (E_x0 : Exa Z h0 x0 "com/example/grendel/grendel/model/NodeKind") (F_x0 : Fld Z h0 x0 "com/example/grendel/grendel/model/NodeKind" "ephemeral" "Z" (.int (0 : Int32))) (S_x1 : Sta Z h0 "com/example/grendel/grendel/model/NodeKind" "EPHEMERAL" "Lcom/example/grendel/grendel/model/NodeKind;" (.ref x1)) (E_x1 : Exa Z h0 x1 "com/example/grendel/grendel/model/NodeKind") (F_x1 : Fld Z h0 x1 "com/example/grendel/grendel/model/NodeKind" "ephemeral" "Z" (.int (1 : Int32))) (S_x2 : Sta Z h0 "com/example/grendel/grendel/model/NodeKind" "CONTAINER" "Lcom/example/grendel/grendel/model/NodeKind;" (.ref x2)) (E_x2 : Exa Z h0 x2 "com/example/grendel/grendel/model/NodeKind") (F_x2 : Fld Z h0 x2 "com/example/grendel/grendel/model/NodeKind" "ephemeral" "Z" (.int (0 : Int32))) (S_x3 : Sta Z h0 "com/example/grendel/grendel/model/NodeKind" "EPHEMERAL_SEQUENTIAL" "Lcom/example/grendel/grendel/model/NodeKind;" (.ref x3)) (E_x3 : Exa Z h0 x3 "com/example/grendel/grendel/model/NodeKind") (F_x3 : Fld Z h0 x3 "com/example/grendel/grendel/model/NodeKind" "ephemeral" "Z" (.int (1 : Int32))) (S_x4 : Sta Z h0 "com/example/grendel/grendel/model/NodeKind" "PERSISTENT_SEQUENTIAL" "Lcom/example/grendel/grendel/model/NodeKind;" (.ref x4)) (E_x4 : Exa Z h0 x4 "com/example/grendel/grendel/model/NodeKind") (F_x4 : Fld Z h0 x4 "com/example/grendel/grendel/model/NodeKind" "ephemeral" "Z" (.int (0 : Int32))) :
    MetFree l x (head1 (Jvm.Cond.code x code maxLocals ret :: ws) room_1) (fun aa UU => aa = #[(.int p0), (.long q1)] ∧ Z.Warmed39 UU.vm ∧ UU.heap = h0) (fun _ _ _ _ _ => True) (fun _ UU oo UV => ∃ vv LL, oo = .returned vv ∧ Q0 Z p0 q1 x0 x1 x2 x3 x4 h0 n0 vv UV.heap LL ∧ FrameEnd UU oo UV LL room_1.cells room_1.slots) := by
  refine MetFree.of_bodySF (plainFor_of_name pn_0) hisR ?_
  intro p e s m args below meth c s₁ Bd hml0 hP hK
  obtain ⟨rfl, hZ, hh⟩ := hP
  have hx := Bd.exec
  have hby := Bd.bytes
  have hml : c.maxLocals = 8 := hml0
  have hown : s.vm.findClass "com/example/grendel/grendel/model/NodeKindEphemeralOwnerPinLaw" = some m.cls := findClass_of_methodNamed Bd.named
  have hnm := (name_of_methodNamed Bd.named Bd.method).1
  have X0 : Stand p l e room_1 s m #[(.int p0), (.long q1)] below meth c s₁ [] 0 0 := Stand.of_body Bd
  have e0 : s₁.heap = h0 := by rw [← hh, Bd.state]; rfl
  have N0 := Fr.nil n0
  have k0 : ∀ t, Steps p.tables e below (s₁.setTop (mkF m 0 #[.val (.int p0), .val (.long q1), .second, .unset, .unset, .unset, .unset, .unset] [])) t → Steps p.tables e below (s₁.setTop (entryFrame m #[(.int p0), (.long q1)] maxLocals)) t := fun t k => castTop (ef_0 m p0 q1) k
  have k6 : ∀ t, Steps p.tables e below (s₁.setTop (mkF m 6 #[.val (.int p0), .val (.long q1), .second, .unset, .unset, .unset, .unset, .unset] [(.int ((p0 &&& (2147483647 : Int32)) % (5 : Int32)))])) t → Steps p.tables e below (s₁.setTop (entryFrame m #[(.int p0), (.long q1)] maxLocals)) t := by
    intro t kt
    refine k0 t ?_
    refine XS.iloadN X0.here hx rfl (hb hby at_0) rfl ?_
    show Steps p.tables e below (s₁.setTop (mkF m 1 #[.val (.int p0), .val (.long q1), .second, .unset, .unset, .unset, .unset, .unset] [(.int p0)])) _
    refine X0.ldcInt hx hown (mvT hZ (hw _ (List.mem_of_getElem? (i := 0) rfl))) (g := (mkF m 1 #[.val (.int p0), .val (.long q1), .second, .unset, .unset, .unset, .unset, .unset] [(.int p0)])) rfl (hb hby at_1) _ ?_
    show Steps p.tables e below (s₁.setTop (mkF m 3 #[.val (.int p0), .val (.long q1), .second, .unset, .unset, .unset, .unset, .unset] [(.int (2147483647 : Int32)), (.int p0)])) _
    refine XS.iand X0.here hx rfl (hb hby at_3) rfl ?_
    show Steps p.tables e below (s₁.setTop (mkF m 4 #[.val (.int p0), .val (.long q1), .second, .unset, .unset, .unset, .unset, .unset] [(.int (p0 &&& (2147483647 : Int32)))])) _
    refine XS.iconst X0.here hx rfl (hb hby at_4) ?_
    show Steps p.tables e below (s₁.setTop (mkF m 5 #[.val (.int p0), .val (.long q1), .second, .unset, .unset, .unset, .unset, .unset] [(.int (5 : Int32)), (.int (p0 &&& (2147483647 : Int32)))])) _
    refine iremM X0 hx rfl (hb hby at_5) rfl (by decide) ?_
    show Steps p.tables e below (s₁.setTop (mkF m 6 #[.val (.int p0), .val (.long q1), .second, .unset, .unset, .unset, .unset, .unset] [(.int ((p0 &&& (2147483647 : Int32)) % (5 : Int32)))])) _
    exact kt
  obtain ⟨v7, hv7⟩ : ∃ z : Int32, z = ((p0 &&& (2147483647 : Int32)) % (5 : Int32)) := ⟨_, rfl⟩
  rw [← hv7] at k6
  have k8 : ∀ t, Steps p.tables e below (s₁.setTop (mkF m 8 #[.val (.int p0), .val (.long q1), .second, .val (.int v7), .unset, .unset, .unset, .unset] [(.int v7)])) t → Steps p.tables e below (s₁.setTop (entryFrame m #[(.int p0), (.long q1)] maxLocals)) t := by
    intro t kt
    refine k6 t ?_
    refine XS.istoreN X0.here hx rfl (hb hby at_6) rfl (l' := #[.val (.int p0), .val (.long q1), .second, .val (.int v7), .unset, .unset, .unset, .unset]) rfl ?_
    show Steps p.tables e below (s₁.setTop (mkF m 7 #[.val (.int p0), .val (.long q1), .second, .val (.int v7), .unset, .unset, .unset, .unset] [])) _
    refine XS.iloadN X0.here hx rfl (hb hby at_7) rfl ?_
    show Steps p.tables e below (s₁.setTop (mkF m 8 #[.val (.int p0), .val (.long q1), .second, .val (.int v7), .unset, .unset, .unset, .unset] [(.int v7)])) _
    exact kt
  by_cases hc8_9 : v7 = (0 : Int32)
  · obtain ⟨T10, X10, e10, st10⟩ := getS2 X0 hx hZ hown (host := "") (Or.inl (hw _ (List.mem_of_getElem? (i := 1) rfl))) Via.refl e0 S_x0 (g := (mkF m 11 #[.val (.int p0), .val (.long q1), .second, .val (.int v7), .unset, .unset, .unset, .unset] [])) rfl (hb hby at_11)
    obtain ⟨cq11, kq11, q11a, q11b, q11c⟩ := isOf hZ e10 E_x0
    obtain ⟨_, _, ⟨T11, L11, kc11, nc11⟩, -, X11, ⟨Lc11, hQ11, l11, y11, z11⟩, st11⟩ := X10.virtualBack hx (y := (⟨"com/example/grendel/grendel/model/NodeKind", "ephemeralOwner", "(J)J"⟩ : MethodName)) (z := (⟨"com/example/grendel/grendel/model/NodeKind", "ephemeralOwner", "(J)J"⟩ : MethodName)) hown (mvT hZ (hw _ (List.mem_of_getElem? (i := 4) rfl))) (mvT hZ (hw _ (List.mem_of_getElem? (i := 5) rfl))) (notFace_of_selects (args := #[]) (mvT hZ (hw _ (List.mem_of_getElem? (i := 7) rfl)))) (mvT hZ (hw _ (List.mem_of_getElem? (i := 7) rfl))) (mvT hZ (hw _ (List.mem_of_getElem? (i := 6) rfl))) (by decide) (backOf (W := 0) (rm1 l Z a0 hw [] x0 q1 (0 : Int32) h0 n0 F_x0) hZ (hw _ (List.mem_of_getElem? (i := 8) rfl)) (hw _ (List.mem_of_getElem? (i := 2) rfl)) (by decide) (by decide)) q11a q11c (g := (mkF m 93 #[.val (.int p0), .val (.long q1), .second, .val (.int v7), .val (.ref x0), .val (.int (0 : Int32)), .val (.long (0 : Int64)), .second] [(.long q1), (.ref x0)])) rfl (by rw [hml]; rfl) (Steps.refl _) (argsL := [(.long q1)]) (rest := []) (lenOf pd_0 rfl) rfl (by show 2 * 0 + _ ≤ _; exact Nat.le_of_eq rfl) (hb hby at_93) (fun _ _ => ⟨rfl, e10, (by decide : 0 + 0 ≤ _), (by decide : 0 + 0 ≤ _)⟩)
    dsimp only [Pt.U, Pt.locs, Pt.cells, Pt.slots] at X11 l11 y11 z11 st11 hQ11
    subst l11 y11 z11
    obtain ⟨rfl, Nq11, eq11⟩ := hQ11
    have N11 := Fr.app N0 Nq11
    have k12 : ∀ t, Steps p.tables e below (T11.setTop (mkF m 96 #[.val (.int p0), .val (.long q1), .second, .val (.int v7), .val (.ref x0), .val (.int (0 : Int32)), .val (.long (0 : Int64)), .second] [(.long (own_eo q1 (0 : Int32)))])) t → Steps p.tables e below (s₁.setTop (entryFrame m #[(.int p0), (.long q1)] maxLocals)) t := by
      intro t kt
      refine k8 t ?_
      refine XS.ifNo X0.here hx rfl (hb hby at_8) rfl ((if0 _ _).trans (teq hc8_9).2) ?_
      show Steps p.tables e below (s₁.setTop (mkF m 11 #[.val (.int p0), .val (.long q1), .second, .val (.int v7), .unset, .unset, .unset, .unset] [])) _
      refine st10 _ ?_
      show Steps p.tables e below (T10.setTop (mkF m 14 #[.val (.int p0), .val (.long q1), .second, .val (.int v7), .unset, .unset, .unset, .unset] [(.ref x0)])) _
      refine XS.astore X10.here hx rfl (hb hby at_14) rfl rfl (l' := #[.val (.int p0), .val (.long q1), .second, .val (.int v7), .val (.ref x0), .unset, .unset, .unset]) rfl ?_
      show Steps p.tables e below (T10.setTop (mkF m 16 #[.val (.int p0), .val (.long q1), .second, .val (.int v7), .val (.ref x0), .unset, .unset, .unset] [])) _
      refine XS.iconst X10.here hx rfl (hb hby at_16) ?_
      show Steps p.tables e below (T10.setTop (mkF m 17 #[.val (.int p0), .val (.long q1), .second, .val (.int v7), .val (.ref x0), .unset, .unset, .unset] [(.int (0 : Int32))])) _
      refine XS.istore X10.here hx rfl (hb hby at_17) rfl (l' := #[.val (.int p0), .val (.long q1), .second, .val (.int v7), .val (.ref x0), .val (.int (0 : Int32)), .unset, .unset]) rfl ?_
      show Steps p.tables e below (T10.setTop (mkF m 19 #[.val (.int p0), .val (.long q1), .second, .val (.int v7), .val (.ref x0), .val (.int (0 : Int32)), .unset, .unset] [])) _
      refine XS.goto X10.here hx rfl (pc0 := 19) (pc' := 78) rfl (hb hby at_19) (by decide) (by decide) ?_
      show Steps p.tables e below (T10.setTop (mkF m 78 #[.val (.int p0), .val (.long q1), .second, .val (.int v7), .val (.ref x0), .val (.int (0 : Int32)), .unset, .unset] [])) _
      refine XS.iload X10.here hx rfl (hb hby at_78) rfl ?_
      show Steps p.tables e below (T10.setTop (mkF m 80 #[.val (.int p0), .val (.long q1), .second, .val (.int v7), .val (.ref x0), .val (.int (0 : Int32)), .unset, .unset] [(.int (0 : Int32))])) _
      refine XS.ifYes X10.here hx rfl (pc0 := 80) (pc' := 87) rfl (hb hby at_80) rfl ((if0 _ _).trans (teq (by decide : (0 : Int32) = (0 : Int32))).1) (by decide) (by decide) ?_
      show Steps p.tables e below (T10.setTop (mkF m 87 #[.val (.int p0), .val (.long q1), .second, .val (.int v7), .val (.ref x0), .val (.int (0 : Int32)), .unset, .unset] [])) _
      refine XS.lconst X10.here hx rfl (hb hby at_87) ?_
      show Steps p.tables e below (T10.setTop (mkF m 88 #[.val (.int p0), .val (.long q1), .second, .val (.int v7), .val (.ref x0), .val (.int (0 : Int32)), .unset, .unset] [(.long (0 : Int64))])) _
      refine XS.lstore X10.here hx rfl (hb hby at_88) rfl (l' := #[.val (.int p0), .val (.long q1), .second, .val (.int v7), .val (.ref x0), .val (.int (0 : Int32)), .val (.long (0 : Int64)), .second]) rfl ?_
      show Steps p.tables e below (T10.setTop (mkF m 90 #[.val (.int p0), .val (.long q1), .second, .val (.int v7), .val (.ref x0), .val (.int (0 : Int32)), .val (.long (0 : Int64)), .second] [])) _
      refine XS.aload X10.here hx rfl (hb hby at_90) rfl rfl ?_
      show Steps p.tables e below (T10.setTop (mkF m 92 #[.val (.int p0), .val (.long q1), .second, .val (.int v7), .val (.ref x0), .val (.int (0 : Int32)), .val (.long (0 : Int64)), .second] [(.ref x0)])) _
      refine XS.lloadN X10.here hx rfl (hb hby at_92) rfl ?_
      show Steps p.tables e below (T10.setTop (mkF m 93 #[.val (.int p0), .val (.long q1), .second, .val (.int v7), .val (.ref x0), .val (.int (0 : Int32)), .val (.long (0 : Int64)), .second] [(.long q1), (.ref x0)])) _
      refine st11.trans ?_
      show Steps p.tables e below (T11.setTop (mkF m 96 #[.val (.int p0), .val (.long q1), .second, .val (.int v7), .val (.ref x0), .val (.int (0 : Int32)), .val (.long (0 : Int64)), .second] [(.long (own_eo q1 (0 : Int32)))])) _
      exact kt
    obtain ⟨r13, hr13⟩ : ∃ z : Int64, z = (own_eo q1 (0 : Int32)) := ⟨_, rfl⟩
    rw [← hr13] at k12
    have hc99_14 : r13 = (0 : Int64) := (by rw [hr13]; rfl)
    have k15 : ∀ t, Steps p.tables e below (T11.setTop (mkF m 107 #[.val (.int p0), .val (.long q1), .second, .val (.int v7), .val (.ref x0), .val (.int (0 : Int32)), .val (.long (0 : Int64)), .second] [(.int (1 : Int32))])) t → Steps p.tables e below (s₁.setTop (entryFrame m #[(.int p0), (.long q1)] maxLocals)) t := by
      intro t kt
      refine k12 t ?_
      show Steps p.tables e below (T11.setTop (mkF m 96 #[.val (.int p0), .val (.long q1), .second, .val (.int v7), .val (.ref x0), .val (.int (0 : Int32)), .val (.long (0 : Int64)), .second] [(.long r13)])) _
      refine XS.lload X11.here hx rfl (hb hby at_96) rfl ?_
      show Steps p.tables e below (T11.setTop (mkF m 98 #[.val (.int p0), .val (.long q1), .second, .val (.int v7), .val (.ref x0), .val (.int (0 : Int32)), .val (.long (0 : Int64)), .second] [(.long (0 : Int64)), (.long r13)])) _
      refine XS.lcmp X11.here hx rfl (hb hby at_98) rfl ?_
      show Steps p.tables e below (T11.setTop (mkF m 99 #[.val (.int p0), .val (.long q1), .second, .val (.int v7), .val (.ref x0), .val (.int (0 : Int32)), .val (.long (0 : Int64)), .second] [(.int (lcmpW r13 (0 : Int64)))])) _
      refine XS.ifNo X11.here hx rfl (hb hby at_99) rfl ((if0 _ _).trans (teq ((show ((lcmpW r13 (0 : Int64)) = 0) ↔ (r13 = (0 : Int64)) from lw_eq r13 (0 : Int64)).mpr hc99_14)).2) ?_
      show Steps p.tables e below (T11.setTop (mkF m 102 #[.val (.int p0), .val (.long q1), .second, .val (.int v7), .val (.ref x0), .val (.int (0 : Int32)), .val (.long (0 : Int64)), .second] [])) _
      refine XS.iconst X11.here hx rfl (hb hby at_102) ?_
      show Steps p.tables e below (T11.setTop (mkF m 103 #[.val (.int p0), .val (.long q1), .second, .val (.int v7), .val (.ref x0), .val (.int (0 : Int32)), .val (.long (0 : Int64)), .second] [(.int (1 : Int32))])) _
      refine XS.goto X11.here hx rfl (pc0 := 103) (pc' := 107) rfl (hb hby at_103) (by decide) (by decide) ?_
      show Steps p.tables e below (T11.setTop (mkF m 107 #[.val (.int p0), .val (.long q1), .second, .val (.int v7), .val (.ref x0), .val (.int (0 : Int32)), .val (.long (0 : Int64)), .second] [(.int (1 : Int32))])) _
      exact kt
    obtain ⟨fs, hr, hrun, hended, hW, hsame⟩ := X11.leave (v := some (.int (1 : Int32))) (fun h => by rw [Bd.returns] at h; cases h)
    refine ⟨_, _, k15 _ (retN X11 hx (t := .boolean) Bd.returns (by simp) (hb hby at_107) hr), hrun, hended, _, _, rfl, ?_, ⟨_, rfl⟩, hW, hsame.mono (by decide) (by decide)⟩
    show Q0 Z p0 q1 x0 x1 x2 x3 x4 h0 n0 _ T11.heap _
    rw [eq11]
    exact ⟨rfl, N11⟩
  · have k16 : ∀ t, Steps p.tables e below (s₁.setTop (mkF m 24 #[.val (.int p0), .val (.long q1), .second, .val (.int v7), .unset, .unset, .unset, .unset] [(.int (1 : Int32)), (.int v7)])) t → Steps p.tables e below (s₁.setTop (entryFrame m #[(.int p0), (.long q1)] maxLocals)) t := by
      intro t kt
      refine k8 t ?_
      refine XS.ifYes X0.here hx rfl (pc0 := 8) (pc' := 22) rfl (hb hby at_8) rfl ((if0 _ _).trans (feq hc8_9).2) (by decide) (by decide) ?_
      show Steps p.tables e below (s₁.setTop (mkF m 22 #[.val (.int p0), .val (.long q1), .second, .val (.int v7), .unset, .unset, .unset, .unset] [])) _
      refine XS.iloadN X0.here hx rfl (hb hby at_22) rfl ?_
      show Steps p.tables e below (s₁.setTop (mkF m 23 #[.val (.int p0), .val (.long q1), .second, .val (.int v7), .unset, .unset, .unset, .unset] [(.int v7)])) _
      refine XS.iconst X0.here hx rfl (hb hby at_23) ?_
      show Steps p.tables e below (s₁.setTop (mkF m 24 #[.val (.int p0), .val (.long q1), .second, .val (.int v7), .unset, .unset, .unset, .unset] [(.int (1 : Int32)), (.int v7)])) _
      exact kt
    by_cases hc24_17 : v7 = (1 : Int32)
    · obtain ⟨T18, X18, e18, st18⟩ := getS2 X0 hx hZ hown (host := "") (Or.inl (hw _ (List.mem_of_getElem? (i := 11) rfl))) Via.refl e0 S_x1 (g := (mkF m 27 #[.val (.int p0), .val (.long q1), .second, .val (.int v7), .unset, .unset, .unset, .unset] [])) rfl (hb hby at_27)
      obtain ⟨cq19, kq19, q19a, q19b, q19c⟩ := isOf hZ e18 E_x1
      obtain ⟨_, _, ⟨T19, L19, kc19, nc19⟩, -, X19, ⟨Lc19, hQ19, l19, y19, z19⟩, st19⟩ := X18.virtualBack hx (y := (⟨"com/example/grendel/grendel/model/NodeKind", "ephemeralOwner", "(J)J"⟩ : MethodName)) (z := (⟨"com/example/grendel/grendel/model/NodeKind", "ephemeralOwner", "(J)J"⟩ : MethodName)) hown (mvT hZ (hw _ (List.mem_of_getElem? (i := 4) rfl))) (mvT hZ (hw _ (List.mem_of_getElem? (i := 5) rfl))) (notFace_of_selects (args := #[]) (mvT hZ (hw _ (List.mem_of_getElem? (i := 7) rfl)))) (mvT hZ (hw _ (List.mem_of_getElem? (i := 7) rfl))) (mvT hZ (hw _ (List.mem_of_getElem? (i := 6) rfl))) (by decide) (backOf (W := 0) (rm1 l Z a0 hw [] x1 q1 (1 : Int32) h0 n0 F_x1) hZ (hw _ (List.mem_of_getElem? (i := 8) rfl)) (hw _ (List.mem_of_getElem? (i := 2) rfl)) (by decide) (by decide)) q19a q19c (g := (mkF m 93 #[.val (.int p0), .val (.long q1), .second, .val (.int v7), .val (.ref x1), .val (.int (1 : Int32)), .val (.long q1), .second] [(.long q1), (.ref x1)])) rfl (by rw [hml]; rfl) (Steps.refl _) (argsL := [(.long q1)]) (rest := []) (lenOf pd_0 rfl) rfl (by show 2 * 0 + _ ≤ _; exact Nat.le_of_eq rfl) (hb hby at_93) (fun _ _ => ⟨rfl, e18, (by decide : 0 + 0 ≤ _), (by decide : 0 + 0 ≤ _)⟩)
      dsimp only [Pt.U, Pt.locs, Pt.cells, Pt.slots] at X19 l19 y19 z19 st19 hQ19
      subst l19 y19 z19
      obtain ⟨rfl, Nq19, eq19⟩ := hQ19
      have N19 := Fr.app N0 Nq19
      have k20 : ∀ t, Steps p.tables e below (T19.setTop (mkF m 96 #[.val (.int p0), .val (.long q1), .second, .val (.int v7), .val (.ref x1), .val (.int (1 : Int32)), .val (.long q1), .second] [(.long (own_eo q1 (1 : Int32)))])) t → Steps p.tables e below (s₁.setTop (entryFrame m #[(.int p0), (.long q1)] maxLocals)) t := by
        intro t kt
        refine k16 t ?_
        refine XS.icmpNo X0.here hx rfl (hb hby at_24) rfl (teq hc24_17).2 ?_
        show Steps p.tables e below (s₁.setTop (mkF m 27 #[.val (.int p0), .val (.long q1), .second, .val (.int v7), .unset, .unset, .unset, .unset] [])) _
        refine st18 _ ?_
        show Steps p.tables e below (T18.setTop (mkF m 30 #[.val (.int p0), .val (.long q1), .second, .val (.int v7), .unset, .unset, .unset, .unset] [(.ref x1)])) _
        refine XS.astore X18.here hx rfl (hb hby at_30) rfl rfl (l' := #[.val (.int p0), .val (.long q1), .second, .val (.int v7), .val (.ref x1), .unset, .unset, .unset]) rfl ?_
        show Steps p.tables e below (T18.setTop (mkF m 32 #[.val (.int p0), .val (.long q1), .second, .val (.int v7), .val (.ref x1), .unset, .unset, .unset] [])) _
        refine XS.iconst X18.here hx rfl (hb hby at_32) ?_
        show Steps p.tables e below (T18.setTop (mkF m 33 #[.val (.int p0), .val (.long q1), .second, .val (.int v7), .val (.ref x1), .unset, .unset, .unset] [(.int (1 : Int32))])) _
        refine XS.istore X18.here hx rfl (hb hby at_33) rfl (l' := #[.val (.int p0), .val (.long q1), .second, .val (.int v7), .val (.ref x1), .val (.int (1 : Int32)), .unset, .unset]) rfl ?_
        show Steps p.tables e below (T18.setTop (mkF m 35 #[.val (.int p0), .val (.long q1), .second, .val (.int v7), .val (.ref x1), .val (.int (1 : Int32)), .unset, .unset] [])) _
        refine XS.goto X18.here hx rfl (pc0 := 35) (pc' := 78) rfl (hb hby at_35) (by decide) (by decide) ?_
        show Steps p.tables e below (T18.setTop (mkF m 78 #[.val (.int p0), .val (.long q1), .second, .val (.int v7), .val (.ref x1), .val (.int (1 : Int32)), .unset, .unset] [])) _
        refine XS.iload X18.here hx rfl (hb hby at_78) rfl ?_
        show Steps p.tables e below (T18.setTop (mkF m 80 #[.val (.int p0), .val (.long q1), .second, .val (.int v7), .val (.ref x1), .val (.int (1 : Int32)), .unset, .unset] [(.int (1 : Int32))])) _
        refine XS.ifNo X18.here hx rfl (hb hby at_80) rfl ((if0 _ _).trans (feq (by decide : ¬ ((1 : Int32) = (0 : Int32)))).1) ?_
        show Steps p.tables e below (T18.setTop (mkF m 83 #[.val (.int p0), .val (.long q1), .second, .val (.int v7), .val (.ref x1), .val (.int (1 : Int32)), .unset, .unset] [])) _
        refine XS.lloadN X18.here hx rfl (hb hby at_83) rfl ?_
        show Steps p.tables e below (T18.setTop (mkF m 84 #[.val (.int p0), .val (.long q1), .second, .val (.int v7), .val (.ref x1), .val (.int (1 : Int32)), .unset, .unset] [(.long q1)])) _
        refine XS.goto X18.here hx rfl (pc0 := 84) (pc' := 88) rfl (hb hby at_84) (by decide) (by decide) ?_
        show Steps p.tables e below (T18.setTop (mkF m 88 #[.val (.int p0), .val (.long q1), .second, .val (.int v7), .val (.ref x1), .val (.int (1 : Int32)), .unset, .unset] [(.long q1)])) _
        refine XS.lstore X18.here hx rfl (hb hby at_88) rfl (l' := #[.val (.int p0), .val (.long q1), .second, .val (.int v7), .val (.ref x1), .val (.int (1 : Int32)), .val (.long q1), .second]) rfl ?_
        show Steps p.tables e below (T18.setTop (mkF m 90 #[.val (.int p0), .val (.long q1), .second, .val (.int v7), .val (.ref x1), .val (.int (1 : Int32)), .val (.long q1), .second] [])) _
        refine XS.aload X18.here hx rfl (hb hby at_90) rfl rfl ?_
        show Steps p.tables e below (T18.setTop (mkF m 92 #[.val (.int p0), .val (.long q1), .second, .val (.int v7), .val (.ref x1), .val (.int (1 : Int32)), .val (.long q1), .second] [(.ref x1)])) _
        refine XS.lloadN X18.here hx rfl (hb hby at_92) rfl ?_
        show Steps p.tables e below (T18.setTop (mkF m 93 #[.val (.int p0), .val (.long q1), .second, .val (.int v7), .val (.ref x1), .val (.int (1 : Int32)), .val (.long q1), .second] [(.long q1), (.ref x1)])) _
        refine st19.trans ?_
        show Steps p.tables e below (T19.setTop (mkF m 96 #[.val (.int p0), .val (.long q1), .second, .val (.int v7), .val (.ref x1), .val (.int (1 : Int32)), .val (.long q1), .second] [(.long (own_eo q1 (1 : Int32)))])) _
        exact kt
      obtain ⟨r21, hr21⟩ : ∃ z : Int64, z = (own_eo q1 (1 : Int32)) := ⟨_, rfl⟩
      rw [← hr21] at k20
      have hc99_22 : r21 = q1 := (by rw [hr21]; rfl)
      have k23 : ∀ t, Steps p.tables e below (T19.setTop (mkF m 107 #[.val (.int p0), .val (.long q1), .second, .val (.int v7), .val (.ref x1), .val (.int (1 : Int32)), .val (.long q1), .second] [(.int (1 : Int32))])) t → Steps p.tables e below (s₁.setTop (entryFrame m #[(.int p0), (.long q1)] maxLocals)) t := by
        intro t kt
        refine k20 t ?_
        show Steps p.tables e below (T19.setTop (mkF m 96 #[.val (.int p0), .val (.long q1), .second, .val (.int v7), .val (.ref x1), .val (.int (1 : Int32)), .val (.long q1), .second] [(.long r21)])) _
        refine XS.lload X19.here hx rfl (hb hby at_96) rfl ?_
        show Steps p.tables e below (T19.setTop (mkF m 98 #[.val (.int p0), .val (.long q1), .second, .val (.int v7), .val (.ref x1), .val (.int (1 : Int32)), .val (.long q1), .second] [(.long q1), (.long r21)])) _
        refine XS.lcmp X19.here hx rfl (hb hby at_98) rfl ?_
        show Steps p.tables e below (T19.setTop (mkF m 99 #[.val (.int p0), .val (.long q1), .second, .val (.int v7), .val (.ref x1), .val (.int (1 : Int32)), .val (.long q1), .second] [(.int (lcmpW r21 q1))])) _
        refine XS.ifNo X19.here hx rfl (hb hby at_99) rfl ((if0 _ _).trans (teq ((show ((lcmpW r21 q1) = 0) ↔ (r21 = q1) from lw_eq r21 q1).mpr hc99_22)).2) ?_
        show Steps p.tables e below (T19.setTop (mkF m 102 #[.val (.int p0), .val (.long q1), .second, .val (.int v7), .val (.ref x1), .val (.int (1 : Int32)), .val (.long q1), .second] [])) _
        refine XS.iconst X19.here hx rfl (hb hby at_102) ?_
        show Steps p.tables e below (T19.setTop (mkF m 103 #[.val (.int p0), .val (.long q1), .second, .val (.int v7), .val (.ref x1), .val (.int (1 : Int32)), .val (.long q1), .second] [(.int (1 : Int32))])) _
        refine XS.goto X19.here hx rfl (pc0 := 103) (pc' := 107) rfl (hb hby at_103) (by decide) (by decide) ?_
        show Steps p.tables e below (T19.setTop (mkF m 107 #[.val (.int p0), .val (.long q1), .second, .val (.int v7), .val (.ref x1), .val (.int (1 : Int32)), .val (.long q1), .second] [(.int (1 : Int32))])) _
        exact kt
      obtain ⟨fs, hr, hrun, hended, hW, hsame⟩ := X19.leave (v := some (.int (1 : Int32))) (fun h => by rw [Bd.returns] at h; cases h)
      refine ⟨_, _, k23 _ (retN X19 hx (t := .boolean) Bd.returns (by simp) (hb hby at_107) hr), hrun, hended, _, _, rfl, ?_, ⟨_, rfl⟩, hW, hsame.mono (by decide) (by decide)⟩
      show Q0 Z p0 q1 x0 x1 x2 x3 x4 h0 n0 _ T19.heap _
      rw [eq19]
      exact ⟨rfl, N19⟩
    · have k24 : ∀ t, Steps p.tables e below (s₁.setTop (mkF m 40 #[.val (.int p0), .val (.long q1), .second, .val (.int v7), .unset, .unset, .unset, .unset] [(.int (2 : Int32)), (.int v7)])) t → Steps p.tables e below (s₁.setTop (entryFrame m #[(.int p0), (.long q1)] maxLocals)) t := by
        intro t kt
        refine k16 t ?_
        refine XS.icmpYes X0.here hx rfl (pc0 := 24) (pc' := 38) rfl (hb hby at_24) rfl (feq hc24_17).2 (by decide) (by decide) ?_
        show Steps p.tables e below (s₁.setTop (mkF m 38 #[.val (.int p0), .val (.long q1), .second, .val (.int v7), .unset, .unset, .unset, .unset] [])) _
        refine XS.iloadN X0.here hx rfl (hb hby at_38) rfl ?_
        show Steps p.tables e below (s₁.setTop (mkF m 39 #[.val (.int p0), .val (.long q1), .second, .val (.int v7), .unset, .unset, .unset, .unset] [(.int v7)])) _
        refine XS.iconst X0.here hx rfl (hb hby at_39) ?_
        show Steps p.tables e below (s₁.setTop (mkF m 40 #[.val (.int p0), .val (.long q1), .second, .val (.int v7), .unset, .unset, .unset, .unset] [(.int (2 : Int32)), (.int v7)])) _
        exact kt
      by_cases hc40_25 : v7 = (2 : Int32)
      · obtain ⟨T26, X26, e26, st26⟩ := getS2 X0 hx hZ hown (host := "") (Or.inl (hw _ (List.mem_of_getElem? (i := 17) rfl))) Via.refl e0 S_x4 (g := (mkF m 43 #[.val (.int p0), .val (.long q1), .second, .val (.int v7), .unset, .unset, .unset, .unset] [])) rfl (hb hby at_43)
        obtain ⟨cq27, kq27, q27a, q27b, q27c⟩ := isOf hZ e26 E_x4
        obtain ⟨_, _, ⟨T27, L27, kc27, nc27⟩, -, X27, ⟨Lc27, hQ27, l27, y27, z27⟩, st27⟩ := X26.virtualBack hx (y := (⟨"com/example/grendel/grendel/model/NodeKind", "ephemeralOwner", "(J)J"⟩ : MethodName)) (z := (⟨"com/example/grendel/grendel/model/NodeKind", "ephemeralOwner", "(J)J"⟩ : MethodName)) hown (mvT hZ (hw _ (List.mem_of_getElem? (i := 4) rfl))) (mvT hZ (hw _ (List.mem_of_getElem? (i := 5) rfl))) (notFace_of_selects (args := #[]) (mvT hZ (hw _ (List.mem_of_getElem? (i := 7) rfl)))) (mvT hZ (hw _ (List.mem_of_getElem? (i := 7) rfl))) (mvT hZ (hw _ (List.mem_of_getElem? (i := 6) rfl))) (by decide) (backOf (W := 0) (rm1 l Z a0 hw [] x4 q1 (0 : Int32) h0 n0 F_x4) hZ (hw _ (List.mem_of_getElem? (i := 8) rfl)) (hw _ (List.mem_of_getElem? (i := 2) rfl)) (by decide) (by decide)) q27a q27c (g := (mkF m 93 #[.val (.int p0), .val (.long q1), .second, .val (.int v7), .val (.ref x4), .val (.int (0 : Int32)), .val (.long (0 : Int64)), .second] [(.long q1), (.ref x4)])) rfl (by rw [hml]; rfl) (Steps.refl _) (argsL := [(.long q1)]) (rest := []) (lenOf pd_0 rfl) rfl (by show 2 * 0 + _ ≤ _; exact Nat.le_of_eq rfl) (hb hby at_93) (fun _ _ => ⟨rfl, e26, (by decide : 0 + 0 ≤ _), (by decide : 0 + 0 ≤ _)⟩)
        dsimp only [Pt.U, Pt.locs, Pt.cells, Pt.slots] at X27 l27 y27 z27 st27 hQ27
        subst l27 y27 z27
        obtain ⟨rfl, Nq27, eq27⟩ := hQ27
        have N27 := Fr.app N0 Nq27
        have k28 : ∀ t, Steps p.tables e below (T27.setTop (mkF m 96 #[.val (.int p0), .val (.long q1), .second, .val (.int v7), .val (.ref x4), .val (.int (0 : Int32)), .val (.long (0 : Int64)), .second] [(.long (own_eo q1 (0 : Int32)))])) t → Steps p.tables e below (s₁.setTop (entryFrame m #[(.int p0), (.long q1)] maxLocals)) t := by
          intro t kt
          refine k24 t ?_
          refine XS.icmpNo X0.here hx rfl (hb hby at_40) rfl (teq hc40_25).2 ?_
          show Steps p.tables e below (s₁.setTop (mkF m 43 #[.val (.int p0), .val (.long q1), .second, .val (.int v7), .unset, .unset, .unset, .unset] [])) _
          refine st26 _ ?_
          show Steps p.tables e below (T26.setTop (mkF m 46 #[.val (.int p0), .val (.long q1), .second, .val (.int v7), .unset, .unset, .unset, .unset] [(.ref x4)])) _
          refine XS.astore X26.here hx rfl (hb hby at_46) rfl rfl (l' := #[.val (.int p0), .val (.long q1), .second, .val (.int v7), .val (.ref x4), .unset, .unset, .unset]) rfl ?_
          show Steps p.tables e below (T26.setTop (mkF m 48 #[.val (.int p0), .val (.long q1), .second, .val (.int v7), .val (.ref x4), .unset, .unset, .unset] [])) _
          refine XS.iconst X26.here hx rfl (hb hby at_48) ?_
          show Steps p.tables e below (T26.setTop (mkF m 49 #[.val (.int p0), .val (.long q1), .second, .val (.int v7), .val (.ref x4), .unset, .unset, .unset] [(.int (0 : Int32))])) _
          refine XS.istore X26.here hx rfl (hb hby at_49) rfl (l' := #[.val (.int p0), .val (.long q1), .second, .val (.int v7), .val (.ref x4), .val (.int (0 : Int32)), .unset, .unset]) rfl ?_
          show Steps p.tables e below (T26.setTop (mkF m 51 #[.val (.int p0), .val (.long q1), .second, .val (.int v7), .val (.ref x4), .val (.int (0 : Int32)), .unset, .unset] [])) _
          refine XS.goto X26.here hx rfl (pc0 := 51) (pc' := 78) rfl (hb hby at_51) (by decide) (by decide) ?_
          show Steps p.tables e below (T26.setTop (mkF m 78 #[.val (.int p0), .val (.long q1), .second, .val (.int v7), .val (.ref x4), .val (.int (0 : Int32)), .unset, .unset] [])) _
          refine XS.iload X26.here hx rfl (hb hby at_78) rfl ?_
          show Steps p.tables e below (T26.setTop (mkF m 80 #[.val (.int p0), .val (.long q1), .second, .val (.int v7), .val (.ref x4), .val (.int (0 : Int32)), .unset, .unset] [(.int (0 : Int32))])) _
          refine XS.ifYes X26.here hx rfl (pc0 := 80) (pc' := 87) rfl (hb hby at_80) rfl ((if0 _ _).trans (teq (by decide : (0 : Int32) = (0 : Int32))).1) (by decide) (by decide) ?_
          show Steps p.tables e below (T26.setTop (mkF m 87 #[.val (.int p0), .val (.long q1), .second, .val (.int v7), .val (.ref x4), .val (.int (0 : Int32)), .unset, .unset] [])) _
          refine XS.lconst X26.here hx rfl (hb hby at_87) ?_
          show Steps p.tables e below (T26.setTop (mkF m 88 #[.val (.int p0), .val (.long q1), .second, .val (.int v7), .val (.ref x4), .val (.int (0 : Int32)), .unset, .unset] [(.long (0 : Int64))])) _
          refine XS.lstore X26.here hx rfl (hb hby at_88) rfl (l' := #[.val (.int p0), .val (.long q1), .second, .val (.int v7), .val (.ref x4), .val (.int (0 : Int32)), .val (.long (0 : Int64)), .second]) rfl ?_
          show Steps p.tables e below (T26.setTop (mkF m 90 #[.val (.int p0), .val (.long q1), .second, .val (.int v7), .val (.ref x4), .val (.int (0 : Int32)), .val (.long (0 : Int64)), .second] [])) _
          refine XS.aload X26.here hx rfl (hb hby at_90) rfl rfl ?_
          show Steps p.tables e below (T26.setTop (mkF m 92 #[.val (.int p0), .val (.long q1), .second, .val (.int v7), .val (.ref x4), .val (.int (0 : Int32)), .val (.long (0 : Int64)), .second] [(.ref x4)])) _
          refine XS.lloadN X26.here hx rfl (hb hby at_92) rfl ?_
          show Steps p.tables e below (T26.setTop (mkF m 93 #[.val (.int p0), .val (.long q1), .second, .val (.int v7), .val (.ref x4), .val (.int (0 : Int32)), .val (.long (0 : Int64)), .second] [(.long q1), (.ref x4)])) _
          refine st27.trans ?_
          show Steps p.tables e below (T27.setTop (mkF m 96 #[.val (.int p0), .val (.long q1), .second, .val (.int v7), .val (.ref x4), .val (.int (0 : Int32)), .val (.long (0 : Int64)), .second] [(.long (own_eo q1 (0 : Int32)))])) _
          exact kt
        obtain ⟨r29, hr29⟩ : ∃ z : Int64, z = (own_eo q1 (0 : Int32)) := ⟨_, rfl⟩
        rw [← hr29] at k28
        have hc99_30 : r29 = (0 : Int64) := (by rw [hr29]; rfl)
        have k31 : ∀ t, Steps p.tables e below (T27.setTop (mkF m 107 #[.val (.int p0), .val (.long q1), .second, .val (.int v7), .val (.ref x4), .val (.int (0 : Int32)), .val (.long (0 : Int64)), .second] [(.int (1 : Int32))])) t → Steps p.tables e below (s₁.setTop (entryFrame m #[(.int p0), (.long q1)] maxLocals)) t := by
          intro t kt
          refine k28 t ?_
          show Steps p.tables e below (T27.setTop (mkF m 96 #[.val (.int p0), .val (.long q1), .second, .val (.int v7), .val (.ref x4), .val (.int (0 : Int32)), .val (.long (0 : Int64)), .second] [(.long r29)])) _
          refine XS.lload X27.here hx rfl (hb hby at_96) rfl ?_
          show Steps p.tables e below (T27.setTop (mkF m 98 #[.val (.int p0), .val (.long q1), .second, .val (.int v7), .val (.ref x4), .val (.int (0 : Int32)), .val (.long (0 : Int64)), .second] [(.long (0 : Int64)), (.long r29)])) _
          refine XS.lcmp X27.here hx rfl (hb hby at_98) rfl ?_
          show Steps p.tables e below (T27.setTop (mkF m 99 #[.val (.int p0), .val (.long q1), .second, .val (.int v7), .val (.ref x4), .val (.int (0 : Int32)), .val (.long (0 : Int64)), .second] [(.int (lcmpW r29 (0 : Int64)))])) _
          refine XS.ifNo X27.here hx rfl (hb hby at_99) rfl ((if0 _ _).trans (teq ((show ((lcmpW r29 (0 : Int64)) = 0) ↔ (r29 = (0 : Int64)) from lw_eq r29 (0 : Int64)).mpr hc99_30)).2) ?_
          show Steps p.tables e below (T27.setTop (mkF m 102 #[.val (.int p0), .val (.long q1), .second, .val (.int v7), .val (.ref x4), .val (.int (0 : Int32)), .val (.long (0 : Int64)), .second] [])) _
          refine XS.iconst X27.here hx rfl (hb hby at_102) ?_
          show Steps p.tables e below (T27.setTop (mkF m 103 #[.val (.int p0), .val (.long q1), .second, .val (.int v7), .val (.ref x4), .val (.int (0 : Int32)), .val (.long (0 : Int64)), .second] [(.int (1 : Int32))])) _
          refine XS.goto X27.here hx rfl (pc0 := 103) (pc' := 107) rfl (hb hby at_103) (by decide) (by decide) ?_
          show Steps p.tables e below (T27.setTop (mkF m 107 #[.val (.int p0), .val (.long q1), .second, .val (.int v7), .val (.ref x4), .val (.int (0 : Int32)), .val (.long (0 : Int64)), .second] [(.int (1 : Int32))])) _
          exact kt
        obtain ⟨fs, hr, hrun, hended, hW, hsame⟩ := X27.leave (v := some (.int (1 : Int32))) (fun h => by rw [Bd.returns] at h; cases h)
        refine ⟨_, _, k31 _ (retN X27 hx (t := .boolean) Bd.returns (by simp) (hb hby at_107) hr), hrun, hended, _, _, rfl, ?_, ⟨_, rfl⟩, hW, hsame.mono (by decide) (by decide)⟩
        show Q0 Z p0 q1 x0 x1 x2 x3 x4 h0 n0 _ T27.heap _
        rw [eq27]
        exact ⟨rfl, N27⟩
      · have k32 : ∀ t, Steps p.tables e below (s₁.setTop (mkF m 56 #[.val (.int p0), .val (.long q1), .second, .val (.int v7), .unset, .unset, .unset, .unset] [(.int (3 : Int32)), (.int v7)])) t → Steps p.tables e below (s₁.setTop (entryFrame m #[(.int p0), (.long q1)] maxLocals)) t := by
          intro t kt
          refine k24 t ?_
          refine XS.icmpYes X0.here hx rfl (pc0 := 40) (pc' := 54) rfl (hb hby at_40) rfl (feq hc40_25).2 (by decide) (by decide) ?_
          show Steps p.tables e below (s₁.setTop (mkF m 54 #[.val (.int p0), .val (.long q1), .second, .val (.int v7), .unset, .unset, .unset, .unset] [])) _
          refine XS.iloadN X0.here hx rfl (hb hby at_54) rfl ?_
          show Steps p.tables e below (s₁.setTop (mkF m 55 #[.val (.int p0), .val (.long q1), .second, .val (.int v7), .unset, .unset, .unset, .unset] [(.int v7)])) _
          refine XS.iconst X0.here hx rfl (hb hby at_55) ?_
          show Steps p.tables e below (s₁.setTop (mkF m 56 #[.val (.int p0), .val (.long q1), .second, .val (.int v7), .unset, .unset, .unset, .unset] [(.int (3 : Int32)), (.int v7)])) _
          exact kt
        by_cases hc56_33 : v7 = (3 : Int32)
        · obtain ⟨T34, X34, e34, st34⟩ := getS2 X0 hx hZ hown (host := "") (Or.inl (hw _ (List.mem_of_getElem? (i := 15) rfl))) Via.refl e0 S_x3 (g := (mkF m 59 #[.val (.int p0), .val (.long q1), .second, .val (.int v7), .unset, .unset, .unset, .unset] [])) rfl (hb hby at_59)
          obtain ⟨cq35, kq35, q35a, q35b, q35c⟩ := isOf hZ e34 E_x3
          obtain ⟨_, _, ⟨T35, L35, kc35, nc35⟩, -, X35, ⟨Lc35, hQ35, l35, y35, z35⟩, st35⟩ := X34.virtualBack hx (y := (⟨"com/example/grendel/grendel/model/NodeKind", "ephemeralOwner", "(J)J"⟩ : MethodName)) (z := (⟨"com/example/grendel/grendel/model/NodeKind", "ephemeralOwner", "(J)J"⟩ : MethodName)) hown (mvT hZ (hw _ (List.mem_of_getElem? (i := 4) rfl))) (mvT hZ (hw _ (List.mem_of_getElem? (i := 5) rfl))) (notFace_of_selects (args := #[]) (mvT hZ (hw _ (List.mem_of_getElem? (i := 7) rfl)))) (mvT hZ (hw _ (List.mem_of_getElem? (i := 7) rfl))) (mvT hZ (hw _ (List.mem_of_getElem? (i := 6) rfl))) (by decide) (backOf (W := 0) (rm1 l Z a0 hw [] x3 q1 (1 : Int32) h0 n0 F_x3) hZ (hw _ (List.mem_of_getElem? (i := 8) rfl)) (hw _ (List.mem_of_getElem? (i := 2) rfl)) (by decide) (by decide)) q35a q35c (g := (mkF m 93 #[.val (.int p0), .val (.long q1), .second, .val (.int v7), .val (.ref x3), .val (.int (1 : Int32)), .val (.long q1), .second] [(.long q1), (.ref x3)])) rfl (by rw [hml]; rfl) (Steps.refl _) (argsL := [(.long q1)]) (rest := []) (lenOf pd_0 rfl) rfl (by show 2 * 0 + _ ≤ _; exact Nat.le_of_eq rfl) (hb hby at_93) (fun _ _ => ⟨rfl, e34, (by decide : 0 + 0 ≤ _), (by decide : 0 + 0 ≤ _)⟩)
          dsimp only [Pt.U, Pt.locs, Pt.cells, Pt.slots] at X35 l35 y35 z35 st35 hQ35
          subst l35 y35 z35
          obtain ⟨rfl, Nq35, eq35⟩ := hQ35
          have N35 := Fr.app N0 Nq35
          have k36 : ∀ t, Steps p.tables e below (T35.setTop (mkF m 96 #[.val (.int p0), .val (.long q1), .second, .val (.int v7), .val (.ref x3), .val (.int (1 : Int32)), .val (.long q1), .second] [(.long (own_eo q1 (1 : Int32)))])) t → Steps p.tables e below (s₁.setTop (entryFrame m #[(.int p0), (.long q1)] maxLocals)) t := by
            intro t kt
            refine k32 t ?_
            refine XS.icmpNo X0.here hx rfl (hb hby at_56) rfl (teq hc56_33).2 ?_
            show Steps p.tables e below (s₁.setTop (mkF m 59 #[.val (.int p0), .val (.long q1), .second, .val (.int v7), .unset, .unset, .unset, .unset] [])) _
            refine st34 _ ?_
            show Steps p.tables e below (T34.setTop (mkF m 62 #[.val (.int p0), .val (.long q1), .second, .val (.int v7), .unset, .unset, .unset, .unset] [(.ref x3)])) _
            refine XS.astore X34.here hx rfl (hb hby at_62) rfl rfl (l' := #[.val (.int p0), .val (.long q1), .second, .val (.int v7), .val (.ref x3), .unset, .unset, .unset]) rfl ?_
            show Steps p.tables e below (T34.setTop (mkF m 64 #[.val (.int p0), .val (.long q1), .second, .val (.int v7), .val (.ref x3), .unset, .unset, .unset] [])) _
            refine XS.iconst X34.here hx rfl (hb hby at_64) ?_
            show Steps p.tables e below (T34.setTop (mkF m 65 #[.val (.int p0), .val (.long q1), .second, .val (.int v7), .val (.ref x3), .unset, .unset, .unset] [(.int (1 : Int32))])) _
            refine XS.istore X34.here hx rfl (hb hby at_65) rfl (l' := #[.val (.int p0), .val (.long q1), .second, .val (.int v7), .val (.ref x3), .val (.int (1 : Int32)), .unset, .unset]) rfl ?_
            show Steps p.tables e below (T34.setTop (mkF m 67 #[.val (.int p0), .val (.long q1), .second, .val (.int v7), .val (.ref x3), .val (.int (1 : Int32)), .unset, .unset] [])) _
            refine XS.goto X34.here hx rfl (pc0 := 67) (pc' := 78) rfl (hb hby at_67) (by decide) (by decide) ?_
            show Steps p.tables e below (T34.setTop (mkF m 78 #[.val (.int p0), .val (.long q1), .second, .val (.int v7), .val (.ref x3), .val (.int (1 : Int32)), .unset, .unset] [])) _
            refine XS.iload X34.here hx rfl (hb hby at_78) rfl ?_
            show Steps p.tables e below (T34.setTop (mkF m 80 #[.val (.int p0), .val (.long q1), .second, .val (.int v7), .val (.ref x3), .val (.int (1 : Int32)), .unset, .unset] [(.int (1 : Int32))])) _
            refine XS.ifNo X34.here hx rfl (hb hby at_80) rfl ((if0 _ _).trans (feq (by decide : ¬ ((1 : Int32) = (0 : Int32)))).1) ?_
            show Steps p.tables e below (T34.setTop (mkF m 83 #[.val (.int p0), .val (.long q1), .second, .val (.int v7), .val (.ref x3), .val (.int (1 : Int32)), .unset, .unset] [])) _
            refine XS.lloadN X34.here hx rfl (hb hby at_83) rfl ?_
            show Steps p.tables e below (T34.setTop (mkF m 84 #[.val (.int p0), .val (.long q1), .second, .val (.int v7), .val (.ref x3), .val (.int (1 : Int32)), .unset, .unset] [(.long q1)])) _
            refine XS.goto X34.here hx rfl (pc0 := 84) (pc' := 88) rfl (hb hby at_84) (by decide) (by decide) ?_
            show Steps p.tables e below (T34.setTop (mkF m 88 #[.val (.int p0), .val (.long q1), .second, .val (.int v7), .val (.ref x3), .val (.int (1 : Int32)), .unset, .unset] [(.long q1)])) _
            refine XS.lstore X34.here hx rfl (hb hby at_88) rfl (l' := #[.val (.int p0), .val (.long q1), .second, .val (.int v7), .val (.ref x3), .val (.int (1 : Int32)), .val (.long q1), .second]) rfl ?_
            show Steps p.tables e below (T34.setTop (mkF m 90 #[.val (.int p0), .val (.long q1), .second, .val (.int v7), .val (.ref x3), .val (.int (1 : Int32)), .val (.long q1), .second] [])) _
            refine XS.aload X34.here hx rfl (hb hby at_90) rfl rfl ?_
            show Steps p.tables e below (T34.setTop (mkF m 92 #[.val (.int p0), .val (.long q1), .second, .val (.int v7), .val (.ref x3), .val (.int (1 : Int32)), .val (.long q1), .second] [(.ref x3)])) _
            refine XS.lloadN X34.here hx rfl (hb hby at_92) rfl ?_
            show Steps p.tables e below (T34.setTop (mkF m 93 #[.val (.int p0), .val (.long q1), .second, .val (.int v7), .val (.ref x3), .val (.int (1 : Int32)), .val (.long q1), .second] [(.long q1), (.ref x3)])) _
            refine st35.trans ?_
            show Steps p.tables e below (T35.setTop (mkF m 96 #[.val (.int p0), .val (.long q1), .second, .val (.int v7), .val (.ref x3), .val (.int (1 : Int32)), .val (.long q1), .second] [(.long (own_eo q1 (1 : Int32)))])) _
            exact kt
          obtain ⟨r37, hr37⟩ : ∃ z : Int64, z = (own_eo q1 (1 : Int32)) := ⟨_, rfl⟩
          rw [← hr37] at k36
          have hc99_38 : r37 = q1 := (by rw [hr37]; rfl)
          have k39 : ∀ t, Steps p.tables e below (T35.setTop (mkF m 107 #[.val (.int p0), .val (.long q1), .second, .val (.int v7), .val (.ref x3), .val (.int (1 : Int32)), .val (.long q1), .second] [(.int (1 : Int32))])) t → Steps p.tables e below (s₁.setTop (entryFrame m #[(.int p0), (.long q1)] maxLocals)) t := by
            intro t kt
            refine k36 t ?_
            show Steps p.tables e below (T35.setTop (mkF m 96 #[.val (.int p0), .val (.long q1), .second, .val (.int v7), .val (.ref x3), .val (.int (1 : Int32)), .val (.long q1), .second] [(.long r37)])) _
            refine XS.lload X35.here hx rfl (hb hby at_96) rfl ?_
            show Steps p.tables e below (T35.setTop (mkF m 98 #[.val (.int p0), .val (.long q1), .second, .val (.int v7), .val (.ref x3), .val (.int (1 : Int32)), .val (.long q1), .second] [(.long q1), (.long r37)])) _
            refine XS.lcmp X35.here hx rfl (hb hby at_98) rfl ?_
            show Steps p.tables e below (T35.setTop (mkF m 99 #[.val (.int p0), .val (.long q1), .second, .val (.int v7), .val (.ref x3), .val (.int (1 : Int32)), .val (.long q1), .second] [(.int (lcmpW r37 q1))])) _
            refine XS.ifNo X35.here hx rfl (hb hby at_99) rfl ((if0 _ _).trans (teq ((show ((lcmpW r37 q1) = 0) ↔ (r37 = q1) from lw_eq r37 q1).mpr hc99_38)).2) ?_
            show Steps p.tables e below (T35.setTop (mkF m 102 #[.val (.int p0), .val (.long q1), .second, .val (.int v7), .val (.ref x3), .val (.int (1 : Int32)), .val (.long q1), .second] [])) _
            refine XS.iconst X35.here hx rfl (hb hby at_102) ?_
            show Steps p.tables e below (T35.setTop (mkF m 103 #[.val (.int p0), .val (.long q1), .second, .val (.int v7), .val (.ref x3), .val (.int (1 : Int32)), .val (.long q1), .second] [(.int (1 : Int32))])) _
            refine XS.goto X35.here hx rfl (pc0 := 103) (pc' := 107) rfl (hb hby at_103) (by decide) (by decide) ?_
            show Steps p.tables e below (T35.setTop (mkF m 107 #[.val (.int p0), .val (.long q1), .second, .val (.int v7), .val (.ref x3), .val (.int (1 : Int32)), .val (.long q1), .second] [(.int (1 : Int32))])) _
            exact kt
          obtain ⟨fs, hr, hrun, hended, hW, hsame⟩ := X35.leave (v := some (.int (1 : Int32))) (fun h => by rw [Bd.returns] at h; cases h)
          refine ⟨_, _, k39 _ (retN X35 hx (t := .boolean) Bd.returns (by simp) (hb hby at_107) hr), hrun, hended, _, _, rfl, ?_, ⟨_, rfl⟩, hW, hsame.mono (by decide) (by decide)⟩
          show Q0 Z p0 q1 x0 x1 x2 x3 x4 h0 n0 _ T35.heap _
          rw [eq35]
          exact ⟨rfl, N35⟩
        · obtain ⟨T40, X40, e40, st40⟩ := getS2 X0 hx hZ hown (host := "") (Or.inl (hw _ (List.mem_of_getElem? (i := 13) rfl))) Via.refl e0 S_x2 (g := (mkF m 70 #[.val (.int p0), .val (.long q1), .second, .val (.int v7), .unset, .unset, .unset, .unset] [])) rfl (hb hby at_70)
          obtain ⟨cq41, kq41, q41a, q41b, q41c⟩ := isOf hZ e40 E_x2
          obtain ⟨_, _, ⟨T41, L41, kc41, nc41⟩, -, X41, ⟨Lc41, hQ41, l41, y41, z41⟩, st41⟩ := X40.virtualBack hx (y := (⟨"com/example/grendel/grendel/model/NodeKind", "ephemeralOwner", "(J)J"⟩ : MethodName)) (z := (⟨"com/example/grendel/grendel/model/NodeKind", "ephemeralOwner", "(J)J"⟩ : MethodName)) hown (mvT hZ (hw _ (List.mem_of_getElem? (i := 4) rfl))) (mvT hZ (hw _ (List.mem_of_getElem? (i := 5) rfl))) (notFace_of_selects (args := #[]) (mvT hZ (hw _ (List.mem_of_getElem? (i := 7) rfl)))) (mvT hZ (hw _ (List.mem_of_getElem? (i := 7) rfl))) (mvT hZ (hw _ (List.mem_of_getElem? (i := 6) rfl))) (by decide) (backOf (W := 0) (rm1 l Z a0 hw [] x2 q1 (0 : Int32) h0 n0 F_x2) hZ (hw _ (List.mem_of_getElem? (i := 8) rfl)) (hw _ (List.mem_of_getElem? (i := 2) rfl)) (by decide) (by decide)) q41a q41c (g := (mkF m 93 #[.val (.int p0), .val (.long q1), .second, .val (.int v7), .val (.ref x2), .val (.int (0 : Int32)), .val (.long (0 : Int64)), .second] [(.long q1), (.ref x2)])) rfl (by rw [hml]; rfl) (Steps.refl _) (argsL := [(.long q1)]) (rest := []) (lenOf pd_0 rfl) rfl (by show 2 * 0 + _ ≤ _; exact Nat.le_of_eq rfl) (hb hby at_93) (fun _ _ => ⟨rfl, e40, (by decide : 0 + 0 ≤ _), (by decide : 0 + 0 ≤ _)⟩)
          dsimp only [Pt.U, Pt.locs, Pt.cells, Pt.slots] at X41 l41 y41 z41 st41 hQ41
          subst l41 y41 z41
          obtain ⟨rfl, Nq41, eq41⟩ := hQ41
          have N41 := Fr.app N0 Nq41
          have k42 : ∀ t, Steps p.tables e below (T41.setTop (mkF m 96 #[.val (.int p0), .val (.long q1), .second, .val (.int v7), .val (.ref x2), .val (.int (0 : Int32)), .val (.long (0 : Int64)), .second] [(.long (own_eo q1 (0 : Int32)))])) t → Steps p.tables e below (s₁.setTop (entryFrame m #[(.int p0), (.long q1)] maxLocals)) t := by
            intro t kt
            refine k32 t ?_
            refine XS.icmpYes X0.here hx rfl (pc0 := 56) (pc' := 70) rfl (hb hby at_56) rfl (feq hc56_33).2 (by decide) (by decide) ?_
            show Steps p.tables e below (s₁.setTop (mkF m 70 #[.val (.int p0), .val (.long q1), .second, .val (.int v7), .unset, .unset, .unset, .unset] [])) _
            refine st40 _ ?_
            show Steps p.tables e below (T40.setTop (mkF m 73 #[.val (.int p0), .val (.long q1), .second, .val (.int v7), .unset, .unset, .unset, .unset] [(.ref x2)])) _
            refine XS.astore X40.here hx rfl (hb hby at_73) rfl rfl (l' := #[.val (.int p0), .val (.long q1), .second, .val (.int v7), .val (.ref x2), .unset, .unset, .unset]) rfl ?_
            show Steps p.tables e below (T40.setTop (mkF m 75 #[.val (.int p0), .val (.long q1), .second, .val (.int v7), .val (.ref x2), .unset, .unset, .unset] [])) _
            refine XS.iconst X40.here hx rfl (hb hby at_75) ?_
            show Steps p.tables e below (T40.setTop (mkF m 76 #[.val (.int p0), .val (.long q1), .second, .val (.int v7), .val (.ref x2), .unset, .unset, .unset] [(.int (0 : Int32))])) _
            refine XS.istore X40.here hx rfl (hb hby at_76) rfl (l' := #[.val (.int p0), .val (.long q1), .second, .val (.int v7), .val (.ref x2), .val (.int (0 : Int32)), .unset, .unset]) rfl ?_
            show Steps p.tables e below (T40.setTop (mkF m 78 #[.val (.int p0), .val (.long q1), .second, .val (.int v7), .val (.ref x2), .val (.int (0 : Int32)), .unset, .unset] [])) _
            refine XS.iload X40.here hx rfl (hb hby at_78) rfl ?_
            show Steps p.tables e below (T40.setTop (mkF m 80 #[.val (.int p0), .val (.long q1), .second, .val (.int v7), .val (.ref x2), .val (.int (0 : Int32)), .unset, .unset] [(.int (0 : Int32))])) _
            refine XS.ifYes X40.here hx rfl (pc0 := 80) (pc' := 87) rfl (hb hby at_80) rfl ((if0 _ _).trans (teq (by decide : (0 : Int32) = (0 : Int32))).1) (by decide) (by decide) ?_
            show Steps p.tables e below (T40.setTop (mkF m 87 #[.val (.int p0), .val (.long q1), .second, .val (.int v7), .val (.ref x2), .val (.int (0 : Int32)), .unset, .unset] [])) _
            refine XS.lconst X40.here hx rfl (hb hby at_87) ?_
            show Steps p.tables e below (T40.setTop (mkF m 88 #[.val (.int p0), .val (.long q1), .second, .val (.int v7), .val (.ref x2), .val (.int (0 : Int32)), .unset, .unset] [(.long (0 : Int64))])) _
            refine XS.lstore X40.here hx rfl (hb hby at_88) rfl (l' := #[.val (.int p0), .val (.long q1), .second, .val (.int v7), .val (.ref x2), .val (.int (0 : Int32)), .val (.long (0 : Int64)), .second]) rfl ?_
            show Steps p.tables e below (T40.setTop (mkF m 90 #[.val (.int p0), .val (.long q1), .second, .val (.int v7), .val (.ref x2), .val (.int (0 : Int32)), .val (.long (0 : Int64)), .second] [])) _
            refine XS.aload X40.here hx rfl (hb hby at_90) rfl rfl ?_
            show Steps p.tables e below (T40.setTop (mkF m 92 #[.val (.int p0), .val (.long q1), .second, .val (.int v7), .val (.ref x2), .val (.int (0 : Int32)), .val (.long (0 : Int64)), .second] [(.ref x2)])) _
            refine XS.lloadN X40.here hx rfl (hb hby at_92) rfl ?_
            show Steps p.tables e below (T40.setTop (mkF m 93 #[.val (.int p0), .val (.long q1), .second, .val (.int v7), .val (.ref x2), .val (.int (0 : Int32)), .val (.long (0 : Int64)), .second] [(.long q1), (.ref x2)])) _
            refine st41.trans ?_
            show Steps p.tables e below (T41.setTop (mkF m 96 #[.val (.int p0), .val (.long q1), .second, .val (.int v7), .val (.ref x2), .val (.int (0 : Int32)), .val (.long (0 : Int64)), .second] [(.long (own_eo q1 (0 : Int32)))])) _
            exact kt
          obtain ⟨r43, hr43⟩ : ∃ z : Int64, z = (own_eo q1 (0 : Int32)) := ⟨_, rfl⟩
          rw [← hr43] at k42
          have hc99_44 : r43 = (0 : Int64) := (by rw [hr43]; rfl)
          have k45 : ∀ t, Steps p.tables e below (T41.setTop (mkF m 107 #[.val (.int p0), .val (.long q1), .second, .val (.int v7), .val (.ref x2), .val (.int (0 : Int32)), .val (.long (0 : Int64)), .second] [(.int (1 : Int32))])) t → Steps p.tables e below (s₁.setTop (entryFrame m #[(.int p0), (.long q1)] maxLocals)) t := by
            intro t kt
            refine k42 t ?_
            show Steps p.tables e below (T41.setTop (mkF m 96 #[.val (.int p0), .val (.long q1), .second, .val (.int v7), .val (.ref x2), .val (.int (0 : Int32)), .val (.long (0 : Int64)), .second] [(.long r43)])) _
            refine XS.lload X41.here hx rfl (hb hby at_96) rfl ?_
            show Steps p.tables e below (T41.setTop (mkF m 98 #[.val (.int p0), .val (.long q1), .second, .val (.int v7), .val (.ref x2), .val (.int (0 : Int32)), .val (.long (0 : Int64)), .second] [(.long (0 : Int64)), (.long r43)])) _
            refine XS.lcmp X41.here hx rfl (hb hby at_98) rfl ?_
            show Steps p.tables e below (T41.setTop (mkF m 99 #[.val (.int p0), .val (.long q1), .second, .val (.int v7), .val (.ref x2), .val (.int (0 : Int32)), .val (.long (0 : Int64)), .second] [(.int (lcmpW r43 (0 : Int64)))])) _
            refine XS.ifNo X41.here hx rfl (hb hby at_99) rfl ((if0 _ _).trans (teq ((show ((lcmpW r43 (0 : Int64)) = 0) ↔ (r43 = (0 : Int64)) from lw_eq r43 (0 : Int64)).mpr hc99_44)).2) ?_
            show Steps p.tables e below (T41.setTop (mkF m 102 #[.val (.int p0), .val (.long q1), .second, .val (.int v7), .val (.ref x2), .val (.int (0 : Int32)), .val (.long (0 : Int64)), .second] [])) _
            refine XS.iconst X41.here hx rfl (hb hby at_102) ?_
            show Steps p.tables e below (T41.setTop (mkF m 103 #[.val (.int p0), .val (.long q1), .second, .val (.int v7), .val (.ref x2), .val (.int (0 : Int32)), .val (.long (0 : Int64)), .second] [(.int (1 : Int32))])) _
            refine XS.goto X41.here hx rfl (pc0 := 103) (pc' := 107) rfl (hb hby at_103) (by decide) (by decide) ?_
            show Steps p.tables e below (T41.setTop (mkF m 107 #[.val (.int p0), .val (.long q1), .second, .val (.int v7), .val (.ref x2), .val (.int (0 : Int32)), .val (.long (0 : Int64)), .second] [(.int (1 : Int32))])) _
            exact kt
          obtain ⟨fs, hr, hrun, hended, hW, hsame⟩ := X41.leave (v := some (.int (1 : Int32))) (fun h => by rw [Bd.returns] at h; cases h)
          refine ⟨_, _, k45 _ (retN X41 hx (t := .boolean) Bd.returns (by simp) (hb hby at_107) hr), hrun, hended, _, _, rfl, ?_, ⟨_, rfl⟩, hW, hsame.mono (by decide) (by decide)⟩
          show Q0 Z p0 q1 x0 x1 x2 x3 x4 h0 n0 _ T41.heap _
          rw [eq41]
          exact ⟨rfl, N41⟩
set_option maxRecDepth 65536 in
set_option maxHeartbeats 40000000 in
theorem comes_1 {Post : Tables → Env → Array Value → State → Outcome → State → Prop} (hpost : ∀ tb e args s v u, (limb_1_1.after args s (.returned v) u = true ∧ limb_1_2.after args s (.returned v) u = true ∧ True) → FrameEnd s (.returned v) u (Jvm.fieldLocs frame_1_writes args s ++ Jvm.arrayLocs frame_1_arrays args s ++ Jvm.staticLocs frame_1_statics s) 0 0 → Post tb e args s (.returned v) u) :
    ArmFor flags0 classFile x code maxLocals ret World_1 tables_1 room_1 Calls_1 rest_1 Pre_1 Post := by
  intro l hfl _ _ p e ha hc hk s m args below hf hA hF happ hP
  obtain ⟨hcalls, hrest, hpre⟩ := hP
  obtain ⟨-, -, -, hnamed, -, -, -, hat⟩ := (Spec.applies_iff hf).mp happ
  obtain ⟨hg, hn⟩ := and_e (Cond.before_iff.mp (show (Jvm.Cond.and given_1 narrow_1).before args s = true from hpre))
  have hcount := (and_e hg).1
  have hgs0 := (and_e hg).2
  have hi0 := (and_e hgs0).1
  have hgs1 := (and_e hgs0).2
  have hi1 := hgs1
  obtain ⟨w0, w1, rfl⟩ : ∃ w0 w1 : Value, args = #[w0, w1] := by
    have hs : args.size = 2 := by simpa [Cond.value, given_1] using hcount
    obtain ⟨L⟩ := args
    match L, hs with
    | [w0, w1], _ => exact ⟨w0, w1, rfl⟩
  have hw := fun d (hd : d ∈ tables_1) => atoms_spec (ws := Jvm.Cond.code x code maxLocals ret :: tables_1) hat d (List.mem_cons_of_mem _ hd)
  have hfit : Fit s := fun {y c} hc i hi => by
    obtain ⟨ha, rfl⟩ := Array.getElem?_eq_some_iff.mp hc
    have q := List.all_eq_true.mp ((Array.all_eq_true_iff_forall_mem.mp hF) _ (Array.getElem_mem ha)) i (List.mem_range.mpr hi)
    simpa [Array.getElem?_eq_getElem hi] using q
  obtain ⟨i0, ei0⟩ := is_v hi0
  obtain rfl : w0 = (.int i0) := Option.some.inj ei0
  obtain ⟨i1, ei1⟩ := isL_v hi1
  obtain rfl : w1 = (.long i1) := Option.some.inj ei1
  obtain ⟨ha0, hb0⟩ := and_e hn
  obtain ⟨hc0, hd0⟩ := and_e hb0
  obtain ⟨x0, ev0⟩ := exa_v ha0
  have A0 := Exa.start ev0 ha0
  have B0 := Sta.start ev0 (Or.inr ⟨(hw _ (List.mem_of_getElem? (i := 2) rfl)), (hw _ (List.mem_of_getElem? (i := 3) rfl))⟩)
  have G0 := own_fldeq hc0 ev0
  obtain ⟨ha1, hb1⟩ := and_e hd0
  obtain ⟨hc1, hd1⟩ := and_e hb1
  obtain ⟨x1, ev1⟩ := exa_v ha1
  have A1 := Exa.start ev1 ha1
  have B1 := Sta.start ev1 (Or.inr ⟨(hw _ (List.mem_of_getElem? (i := 2) rfl)), (hw _ (List.mem_of_getElem? (i := 12) rfl))⟩)
  have G1 := own_fldeq hc1 ev1
  obtain ⟨ha2, hb2⟩ := and_e hd1
  obtain ⟨hc2, hd2⟩ := and_e hb2
  obtain ⟨x2, ev2⟩ := exa_v ha2
  have A2 := Exa.start ev2 ha2
  have B2 := Sta.start ev2 (Or.inr ⟨(hw _ (List.mem_of_getElem? (i := 2) rfl)), (hw _ (List.mem_of_getElem? (i := 14) rfl))⟩)
  have G2 := own_fldeq hc2 ev2
  obtain ⟨ha3, hb3⟩ := and_e hd2
  obtain ⟨hc3, hd3⟩ := and_e hb3
  obtain ⟨x3, ev3⟩ := exa_v ha3
  have A3 := Exa.start ev3 ha3
  have B3 := Sta.start ev3 (Or.inr ⟨(hw _ (List.mem_of_getElem? (i := 2) rfl)), (hw _ (List.mem_of_getElem? (i := 16) rfl))⟩)
  have G3 := own_fldeq hc3 ev3
  obtain ⟨ha4, hb4⟩ := and_e hd3
  obtain ⟨x4, ev4⟩ := exa_v ha4
  have A4 := Exa.start ev4 ha4
  have B4 := Sta.start ev4 (Or.inr ⟨(hw _ (List.mem_of_getElem? (i := 2) rfl)), (hw _ (List.mem_of_getElem? (i := 18) rfl))⟩)
  have G4 := own_fldeq hb4 ev4
  obtain ⟨n, o, h1, h2, h3, _, L, rfl, ⟨rfl, N⟩, hq⟩ := rm0 l s _ hw tables_1 i0 i1 x0 x1 x2 x3 x4 s.heap s.heap.size (Nat.le_refl _) B0 A0 G0 B1 A1 G1 B2 A2 G2 B3 A3 G3 B4 A4 G4 p e ha hc hk s m _ below hf ((Spec.applies_iff_loose hf).mp happ).1 ⟨rfl, State.Warmed39.refl s, rfl⟩ trivial
  refine ⟨n, _, h1, h2, h3, hpost _ _ _ _ _ _ ⟨Cond.after_iff.mpr rfl, Cond.after_iff.mpr (eq_i res_at (Term.int_eval (1)) rfl), trivial⟩ ⟨hq.1, hq.2.1, (hq.2.2.sift fun y hy => Or.inr (N y hy)).mono (by decide) (by decide)⟩⟩
theorem main_1_1 : Claimed_1_1 := comes_1 fun _ _ _ _ _ _ h hF => ⟨h.1, hF⟩
theorem main_1_2 : Claimed_1_2 := comes_1 fun _ _ _ _ _ _ h hF => ⟨h.2.1, hF⟩
end Jvm.Pilot.@@N@@
namespace Jvm.Pilot.@@N@@
open Jvm Jvm.ClassFile Sem Op Lib Jvm.Free Jvm.Stand Jvm.Pilot.@@N@@.Jvm.D
/-! MADE BY PROGRAM (witnessworld.py) out of the Statement's table words and the real class files: 12 classes; the members and pool entries that the words name. The judged class is class 1, her method 1. -/
namespace start1
open Jvm.ClassFile
def u (s : String) : CpInfo := .utf8 (stringToUtf16 s)
/-- a pool by its gaps: so many unusable entries, then the entry; so many at the end -/
def gap : Nat → List CpInfo → List CpInfo
  | 0, r => r
  | n + 1, r => .unusable :: gap n r
def poolList (es : List (Nat × CpInfo)) (last : Nat) : List CpInfo := es.foldr (fun e r => gap e.1 (e.2 :: r)) (gap last [])
def pool (es : List (Nat × CpInfo)) (last : Nat) : Array CpInfo := ⟨poolList es last⟩
def fileOf (pool : Array CpInfo) (this : Nat) (attrs : Array Attribute := #[]) (ms : Array MethodInfo := #[]) (fl : Nat := 33) (sup : Nat := 0) (ifs : Array Nat := #[]) (fds : Array FieldInfo := #[]) : ClassFile where
  minorVersion := 0
  majorVersion := 65
  constantPool := pool
  accessFlags := fl
  thisClass := this
  superClass := sup
  interfaces := ifs
  fields := fds
  methods := ms
  attributes := attrs
def plain (name : String) (sup : Option ClassId) : Class where
  name := name
  kind := .ordinary
  loader := none
  accessFlags := 33
  super := sup
  interfaces := #[]
  cf := none
  fields := #[]
  methods := #[]
  instanceTypes := #[]
  staticTypes := #[]
  resolved := #[]
  callSites := []
  init := .initialized
  statics := none
  mirror := none

def pool0 : Array CpInfo := pool [(5, u "<init>"), (0, u "()V"), (1, .class_ 10), (1, u "java/lang/Object")] 113

def k0m0 : Method := { name := "<init>", desc := "()V", sig := { parameters := [], returnType := none }, accessFlags := 1, code := none }
/-- java/lang/Object -/
def k0 : Class := { plain "java/lang/Object" none with
  accessFlags := 33
  interfaces := #[]
  cf := some (fileOf pool0 8 #[] #[{ accessFlags := 1, nameIndex := 5, descriptorIndex := 6, attributes := #[] }] 33 0 #[] #[])
  fields := #[]
  methods := #[k0m0]
  instanceTypes := #[]
  staticTypes := #[]
  resolved := Array.replicate 124 none
  statics := none }

def pool1 : Array CpInfo := pool [(2, .class_ 4), (1, u "java/lang/Object"), (0, u "<init>"), (0, u "()V"), (0, .integer 2147483647), (0, .fieldref 9 10), (0, .class_ 11), (0, .nameAndType 12 13), (0, u "com/example/grendel/grendel/model/NodeKind"), (0, u "PERSISTENT"), (0, u "Lcom/example/grendel/grendel/model/NodeKind;"), (0, .fieldref 9 15), (0, .nameAndType 16 13), (0, u "EPHEMERAL"), (0, .fieldref 9 18), (0, .nameAndType 19 13), (0, u "PERSISTENT_SEQUENTIAL"), (0, .fieldref 9 21), (0, .nameAndType 22 13), (0, u "EPHEMERAL_SEQUENTIAL"), (0, .fieldref 9 24), (0, .nameAndType 25 13), (0, u "CONTAINER"), (0, .methodref 9 27), (0, .nameAndType 28 29), (0, u "ephemeralOwner"), (0, u "(J)J"), (0, .class_ 31), (0, u "com/example/grendel/grendel/model/NodeKindEphemeralOwnerPinLaw"), (2, u "law"), (0, u "(IJ)Z")] 3

def k1m0 : Method := { name := "<init>", desc := "()V", sig := { parameters := [], returnType := none }, accessFlags := 2, code := none }
def k1c1 : Code := { maxStack := 4, maxLocals := 8, code := code, exceptionTable := #[], attributes := #[] }
def k1m1 : Method := { name := "law", desc := "(IJ)Z", sig := { parameters := [.int, .long], returnType := some .boolean }, accessFlags := 9, code := some k1c1 }
/-- com/example/grendel/grendel/model/NodeKindEphemeralOwnerPinLaw -/
def k1 : Class := { plain "com/example/grendel/grendel/model/NodeKindEphemeralOwnerPinLaw" (some 0) with
  accessFlags := 49
  interfaces := #[]
  cf := some (fileOf pool1 30 #[] #[{ accessFlags := 2, nameIndex := 5, descriptorIndex := 6, attributes := #[] }, { accessFlags := 9, nameIndex := 34, descriptorIndex := 35, attributes := #[] }] 49 2 #[] #[])
  fields := #[]
  methods := #[k1m0, k1m1]
  instanceTypes := #[]
  staticTypes := #[]
  resolved := Array.replicate 39 none
  statics := none }

def pool2 : Array CpInfo := pool [(1, .class_ 2), (0, u "java/lang/constant/Constable"), (0, .class_ 4), (0, u "java/lang/Object")] 6

/-- java/lang/constant/Constable -/
def k2 : Class := { plain "java/lang/constant/Constable" (some 0) with
  accessFlags := 1537
  interfaces := #[]
  cf := some (fileOf pool2 1 #[] #[] 1537 3 #[] #[])
  fields := #[]
  methods := #[]
  instanceTypes := #[]
  staticTypes := #[]
  resolved := Array.replicate 11 none
  statics := none }

def pool3 : Array CpInfo := pool [(1, .class_ 2), (0, u "java/lang/Comparable"), (0, .class_ 4), (0, u "java/lang/Object")] 7

/-- java/lang/Comparable -/
def k3 : Class := { plain "java/lang/Comparable" (some 0) with
  accessFlags := 1537
  interfaces := #[]
  cf := some (fileOf pool3 1 #[] #[] 1537 3 #[] #[])
  fields := #[]
  methods := #[]
  instanceTypes := #[]
  staticTypes := #[]
  resolved := Array.replicate 12 none
  statics := none }

def pool4 : Array CpInfo := pool [(1, .class_ 2), (0, u "java/io/Serializable"), (0, .class_ 4), (0, u "java/lang/Object")] 2

/-- java/io/Serializable -/
def k4 : Class := { plain "java/io/Serializable" (some 0) with
  accessFlags := 1537
  interfaces := #[]
  cf := some (fileOf pool4 1 #[] #[] 1537 3 #[] #[])
  fields := #[]
  methods := #[]
  instanceTypes := #[]
  staticTypes := #[]
  resolved := Array.replicate 7 none
  statics := none }

def pool5 : Array CpInfo := pool [(2, .class_ 4), (1, u "java/lang/Enum"), (0, u "name"), (0, u "Ljava/lang/String;"), (2, u "ordinal"), (0, u "I"), (1, .class_ 14), (1, u "java/lang/Object"), (4, u "hash"), (86, .class_ 108), (1, u "java/lang/Enum$EnumDesc"), (2, .class_ 112), (0, u "java/lang/constant/Constable"), (0, .class_ 114), (0, u "java/lang/Comparable"), (0, .class_ 116), (0, u "java/io/Serializable")] 87

/-- java/lang/Enum -/
def k5 : Class := { plain "java/lang/Enum" (some 0) with
  accessFlags := 1057
  interfaces := #[2, 3, 4]
  cf := some (fileOf pool5 2 #[.nestMembers #[106]] #[] 1057 12 #[111, 113, 115] #[{ accessFlags := 18, nameIndex := 5, descriptorIndex := 6, attributes := #[] }, { accessFlags := 18, nameIndex := 9, descriptorIndex := 10, attributes := #[] }, { accessFlags := 2, nameIndex := 19, descriptorIndex := 10, attributes := #[] }])
  fields := #[{ name := "name", type := (.object "java/lang/String"), accessFlags := 18, slot := 0, constantValue := 0 }, { name := "ordinal", type := .int, accessFlags := 18, slot := 1, constantValue := 0 }, { name := "hash", type := .int, accessFlags := 2, slot := 2, constantValue := 0 }]
  methods := #[]
  instanceTypes := #[(.object "java/lang/String"), .int, .int]
  staticTypes := #[]
  resolved := Array.replicate 204 none
  statics := none }

def pool6 : Array CpInfo := pool [(1, .class_ 2), (0, u "com/example/grendel/grendel/model/NodeKind"), (2, u "PERSISTENT"), (0, u "Lcom/example/grendel/grendel/model/NodeKind;"), (2, u "EPHEMERAL"), (2, u "PERSISTENT_SEQUENTIAL"), (2, u "EPHEMERAL_SEQUENTIAL"), (2, u "CONTAINER"), (2, u "$VALUES"), (0, u "[Lcom/example/grendel/grendel/model/NodeKind;"), (6, .class_ 31), (1, u "java/lang/Enum"), (8, u "flags"), (0, u "I"), (0, .fieldref 1 43), (0, .nameAndType 44 45), (0, u "ephemeral"), (0, u "Z"), (2, u "sequential"), (4, u "BY_FLAGS"), (0, u "Ljava/util/Map;"), (22, u "(J)J"), (68, u "SEQUENCE_DIGITS"), (12, u "ephemeralOwner")] 38

def k6c0 : Code := { maxStack := 2, maxLocals := 3, code := prog_25_method_7_code, exceptionTable := #[], attributes := #[] }
def k6m0 : Method := { name := "ephemeralOwner", desc := "(J)J", sig := { parameters := [.long], returnType := some .long }, accessFlags := 1, code := some k6c0 }
/-- com/example/grendel/grendel/model/NodeKind -/
def k6 : Class := { plain "com/example/grendel/grendel/model/NodeKind" (some 5) with
  accessFlags := 16433
  interfaces := #[]
  cf := some (fileOf pool6 1 #[] #[{ accessFlags := 1, nameIndex := 159, descriptorIndex := 77, attributes := #[] }] 16433 29 #[] #[{ accessFlags := 16409, nameIndex := 5, descriptorIndex := 6, attributes := #[] }, { accessFlags := 16409, nameIndex := 9, descriptorIndex := 6, attributes := #[] }, { accessFlags := 16409, nameIndex := 12, descriptorIndex := 6, attributes := #[] }, { accessFlags := 16409, nameIndex := 15, descriptorIndex := 6, attributes := #[] }, { accessFlags := 16409, nameIndex := 18, descriptorIndex := 6, attributes := #[] }, { accessFlags := 26, nameIndex := 146, descriptorIndex := 41, attributes := #[] }, { accessFlags := 26, nameIndex := 53, descriptorIndex := 54, attributes := #[] }, { accessFlags := 18, nameIndex := 40, descriptorIndex := 41, attributes := #[] }, { accessFlags := 18, nameIndex := 44, descriptorIndex := 45, attributes := #[] }, { accessFlags := 18, nameIndex := 48, descriptorIndex := 45, attributes := #[] }, { accessFlags := 4122, nameIndex := 21, descriptorIndex := 22, attributes := #[] }])
  fields := #[{ name := "PERSISTENT", type := (.object "com/example/grendel/grendel/model/NodeKind"), accessFlags := 16409, slot := 0, constantValue := 0 }, { name := "EPHEMERAL", type := (.object "com/example/grendel/grendel/model/NodeKind"), accessFlags := 16409, slot := 1, constantValue := 0 }, { name := "PERSISTENT_SEQUENTIAL", type := (.object "com/example/grendel/grendel/model/NodeKind"), accessFlags := 16409, slot := 2, constantValue := 0 }, { name := "EPHEMERAL_SEQUENTIAL", type := (.object "com/example/grendel/grendel/model/NodeKind"), accessFlags := 16409, slot := 3, constantValue := 0 }, { name := "CONTAINER", type := (.object "com/example/grendel/grendel/model/NodeKind"), accessFlags := 16409, slot := 4, constantValue := 0 }, { name := "SEQUENCE_DIGITS", type := .int, accessFlags := 26, slot := 5, constantValue := 0 }, { name := "BY_FLAGS", type := (.object "java/util/Map"), accessFlags := 26, slot := 6, constantValue := 0 }, { name := "flags", type := .int, accessFlags := 18, slot := 3, constantValue := 0 }, { name := "ephemeral", type := .boolean, accessFlags := 18, slot := 4, constantValue := 0 }, { name := "sequential", type := .boolean, accessFlags := 18, slot := 5, constantValue := 0 }, { name := "$VALUES", type := (.array (.object "com/example/grendel/grendel/model/NodeKind")), accessFlags := 4122, slot := 7, constantValue := 0 }]
  methods := #[k6m0]
  instanceTypes := #[(.object "java/lang/String"), .int, .int, .int, .boolean, .boolean]
  staticTypes := #[(.object "com/example/grendel/grendel/model/NodeKind"), (.object "com/example/grendel/grendel/model/NodeKind"), (.object "com/example/grendel/grendel/model/NodeKind"), (.object "com/example/grendel/grendel/model/NodeKind"), (.object "com/example/grendel/grendel/model/NodeKind"), .int, (.object "java/util/Map"), (.array (.object "com/example/grendel/grendel/model/NodeKind"))]
  resolved := Array.replicate 198 none
  statics := some 0 }

def pool7 : Array CpInfo := pool [(1, u "java/lang/Cloneable"), (0, .class_ 1), (0, u "java/lang/Object"), (0, .class_ 3)] 3

/-- java/lang/Cloneable -/
def k7 : Class := { plain "java/lang/Cloneable" (some 0) with
  accessFlags := 1537
  interfaces := #[]
  cf := some (fileOf pool7 2 #[] #[] 1537 4 #[] #[])
  fields := #[]
  methods := #[]
  instanceTypes := #[]
  staticTypes := #[]
  resolved := Array.replicate 8 none
  statics := none }

/-- the primitive byte -/
def k8 : Class := { plain "byte" none with kind := .primitive 'B', accessFlags := 0x411 }
/-- [B -/
def k9 : Class := { plain "[B" (some 0) with kind := .array 8 .byte, interfaces := #[7, 4], accessFlags := 1041 }

/-- the primitive int -/
def k10 : Class := { plain "int" none with kind := .primitive 'I', accessFlags := 0x411 }
/-- [I -/
def k11 : Class := { plain "[I" (some 0) with kind := .array 10 .int, interfaces := #[7, 4], accessFlags := 1041 }

def heap : Heap := #[{ cls := 6, slots := #[.ref 1, .ref 2, .ref 5, .ref 4, .ref 3, .int 0, .null, .null], vm := .statics 6 },
  { cls := 6, slots := #[.null, .int 0, .int 0, .int 0, .int 0, .int 0], vm := .none },
  { cls := 6, slots := #[.null, .int 1, .int 0, .int 0, .int 1, .int 0], vm := .none },
  { cls := 6, slots := #[.null, .int 2, .int 0, .int 0, .int 0, .int 0], vm := .none },
  { cls := 6, slots := #[.null, .int 3, .int 0, .int 0, .int 1, .int 0], vm := .none },
  { cls := 6, slots := #[.null, .int 4, .int 0, .int 0, .int 0, .int 0], vm := .none }]
def classes : Array Class := #[k0, k1, k2, k3, k4, k5, k6, k7, k8, k9, k10, k11]
def interned : List (Array UInt16 × Addr) := []
def slotsUsed : Nat := 38
def theMethod : MethodId := ⟨1, 1⟩
def args0 : Array Value := #[.int 5, .long 7]
def aboutOver (below : List Frame) : State where
  vm := { classes := classes, interned := interned.toArray }
  heap := heap
  slotsUsed := slotsUsed
  threads := #[{ frames := .invoking theMethod args0 :: below }]
def below0 : List Frame := [.native { method := ⟨0, 0⟩, args := #[] }]
def about1 : State := aboutOver below0
def p0 : Program := .bare "" "" ""
def e0 : Env := launch0.env 0 0 0
theorem w_frames : about1.frames = Frame.invoking theMethod args0 :: below0 := rfl
set_option maxRecDepth 65536 in
theorem w_args : argsFit about1.vm theMethod args0 = true := by decide +kernel
set_option maxRecDepth 65536 in
theorem w_heap : heapFits about1 = true := by decide +kernel
set_option maxRecDepth 65536 in
theorem w_runnable : about1.curStatus? = some .runnable := by decide +kernel
set_option maxRecDepth 65536 in
theorem w_alone : about1.alone = true := by decide +kernel
set_option maxRecDepth 65536 in
theorem w_named : about1.methodNamed? x = some theMethod := by decide +kernel
set_option maxRecDepth 65536 in
theorem w_hears : about1.hears theMethod below0 = true := by decide +kernel
set_option maxRecDepth 65536 in
theorem w_ripe : about1.ripe theMethod args0 below0 = true := by decide +kernel
theorem w_running : about1.status = .running := rfl
set_option maxRecDepth 65536 in
theorem w_room : about1.hasRoom e0.platform room_1 = true :=
  launch0.hasRoom_least _ room_1 (by decide +kernel) (by decide +kernel) (by decide +kernel) (by decide +kernel) (by decide +kernel) (by decide +kernel)
theorem allAtoms_all (ts : List Jvm.Cond) (a : Array Jvm.Value) (st : Jvm.State) : (allAtoms ts).before a st = ts.all (fun c => c.before a st) := by
  induction ts with
  | nil => rfl
  | cons c t ih =>
    show (Jvm.Cond.and c (allAtoms t)).before a st = _
    rw [Jvm.Cond.before_and, ih, List.all_cons]
def words1 : List Jvm.Cond := Jvm.Cond.code x code maxLocals ret :: tables_1
/-- a 'code' word, met by the world's own term for the bytes: nothing is compared byte by byte -/
theorem code_word {y : MethodName} {bytes : ByteArray} {mx : Nat} {rt : Option FieldType} {a : Array Value} {s : State} {m : MethodId} {meth : Method} {c : Code} (h1 : s.methodNamed? y = some m) (h2 : s.vm.method? m = some meth) (h3 : meth.code = some c) (h4 : c.code = bytes)
    (h5 : (c.maxLocals == mx && c.exceptionTable.isEmpty && decide (c.maxStack ≤ mostOperands) && decide (meth.sig.returnType = rt) && !meth.locks && decide (parseMethodDescriptor y.desc = some meth.sig)) = true) : (Jvm.Cond.code y bytes mx rt).before a s = true := by
  simp only [Bool.and_eq_true, beq_iff_eq, Bool.not_eq_true', decide_eq_true_eq] at h5
  obtain ⟨⟨⟨⟨⟨g1, g2⟩, g3⟩, g4⟩, g5⟩, g6⟩ := h5
  simp [Cond.before, Cond.holds, Cond.value, h1, h2, h3, h4, g1, g2, g3, g4, g5, g6]
def isCode : Jvm.Cond → Bool
  | .code _ _ _ _ => true
  | _ => false
theorem all_split {L : List Jvm.Cond} {P : Jvm.Cond → Bool} (h1 : L.all (fun c => isCode c || P c) = true) (h2 : ∀ c ∈ L.filter isCode, P c = true) : L.all P = true := by
  refine List.all_eq_true.mpr fun c hc => ?_
  have h := List.all_eq_true.mp h1 c hc
  rcases Bool.eq_false_or_eq_true (isCode c) with hi | hi
  · exact h2 c (List.mem_filter.mpr ⟨hc, hi⟩)
  · simpa [hi] using h
set_option maxRecDepth 65536 in
theorem w_c0 : (Jvm.Cond.code x code maxLocals ret).before args0 about1 = true := code_word (m := ⟨1, 1⟩) (meth := k1m1) (c := k1c1) (by decide +kernel) rfl rfl rfl (by decide +kernel)
set_option maxRecDepth 65536 in
theorem w_c1 : (Jvm.Cond.code ({ cls := "com/example/grendel/grendel/model/NodeKind", name := "ephemeralOwner", desc := "(J)J" } : Jvm.MethodName) prog_25_method_7_code (3 : Nat) (Option.some Jvm.ClassFile.FieldType.long)).before args0 about1 = true := code_word (m := ⟨6, 0⟩) (meth := k6m0) (c := k6c0) (by decide +kernel) rfl rfl rfl (by decide +kernel)
def codes1 : List Jvm.Cond := [Jvm.Cond.code x code maxLocals ret, Jvm.Cond.code ({ cls := "com/example/grendel/grendel/model/NodeKind", name := "ephemeralOwner", desc := "(J)J" } : Jvm.MethodName) prog_25_method_7_code (3 : Nat) (Option.some Jvm.ClassFile.FieldType.long)]
set_option maxRecDepth 65536 in
theorem codes_eq : words1.filter isCode = codes1 := rfl
theorem w_codes : ∀ c ∈ words1.filter isCode, c.before args0 about1 = true := by
  rw [codes_eq]
  intro c hc
  simp only [codes1, List.mem_cons, List.not_mem_nil, or_false] at hc
  rcases hc with rfl | rfl
  · exact w_c0
  · exact w_c1
set_option maxRecDepth 65536 in
theorem w_t1 : words1.all (fun c => isCode c || c.before args0 about1) = true := by decide +kernel
theorem w_tables : (allAtoms (Jvm.Cond.code x code maxLocals ret :: tables_1)).before args0 about1 = true := by
  rw [allAtoms_all]
  show words1.all (fun c => c.before args0 about1) = true
  refine all_split ?_ w_codes
  rw [w_t1]
set_option maxRecDepth 65536 in
theorem w_case : (Jvm.Cond.and given_1 narrow_1).before args0 about1 = true := by decide +kernel
theorem w_applies : (headSpec (Jvm.Cond.code x code maxLocals ret :: tables_1) room_1).applies x e0.platform about1 = true :=
  (Spec.applies_iff w_frames).mpr ⟨w_running, w_runnable, w_alone, w_named, w_hears, w_ripe, w_room, w_tables⟩
theorem atStart : AtStart classFile x code maxLocals ret World_1 tables_1 room_1 Calls_1 rest_1 Pre_1 launch0 p0 e0 about1 theMethod args0 below0 :=
  ⟨lists_1, trivial, launch0.admits_env _ _ _, launch0.least_env, fairChoices_fair.cas, fairChoices_fair.clock, w_frames, w_args, w_heap, w_applies, trivial, trivial, w_case⟩
end start1
theorem witness_1 : WitnessClaimed_1 := ⟨start1.p0, start1.e0, start1.about1, start1.theMethod, start1.args0, start1.below0, start1.atStart⟩
end Jvm.Pilot.@@N@@
