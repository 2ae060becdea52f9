import JvmDerived
import JvmDerived.Pilot.@@N@@Statement
import JvmDerived.Pilot.@@N@@Code
set_option linter.unusedVariables false
set_option linter.unusedSimpArgs false
namespace Jvm.RoadKit
open Sem ClassFile Op Lib Jvm.Stand Jvm.Free Jvm.LawKit
section New
variable {p : Program} {l : Launch} {e : Env} {R : Room} {s : State} {m : MethodId} {args : Array Value} {below : List Frame} {meth : Method} {c : Code} {T : State} {locs : List Loc} {cells slots : Nat}
theorem retI (X : Stand p l e R s m args below meth c T locs cells slots) (hx : p.tables.exec = Jvm.exec) {pc : Nat} {Ls : Array Slot} {z : Int32} {rest : List Value} (hret : meth.sig.returnType = some .int) (hd : decode c.code pc = .ok (.ireturn, 1)) {fs : List Frame}
    (hl : ∀ (f : JFrame) (acts : List Action), f.method = m → f.locked = none → f.entered = [] → (doReturn e (T.setTop f) acts (some (.int z))).1 = T.setFrames fs) : Steps p.tables e below (T.setTop (mkF m pc Ls (.int z :: rest))) (T.setFrames fs) := by
  have hm' : T.vm.method? m = some meth := X.method'
  have hn : narrow .int (.int z) = .int z := rfl
  show Steps p.tables e below (T.setTop { method := m, pc := pc, locals := Ls, stack := _ :: rest, locked := none }) _
  jvm_step X.here [X.here.top, hx, hd, hm', hret, hn]
  first | (intro acts; rw [hl _ acts rfl rfl rfl]) | rw [hl _ _ rfl rfl rfl]
  exact Steps.refl _
end New
end Jvm.RoadKit
namespace Jvm.Pilot.@@N@@
open Jvm Jvm.ClassFile Sem Op Lib Jvm.Free Jvm.Stand Jvm.LawKit Jvm.RoadKit Bundle Jvm.Pilot.@@N@@.Jvm.D
section Own
variable {p : Program} {l : Launch} {e : Env} {R : Room} {s : State} {m : MethodId} {args : Array Value} {below : List Frame} {meth : Method} {c : Code} {T : State} {locs : List Loc} {cells slots : Nat} {Z : State} {a0 : Array Value} {h h' : Heap}
/-- an array of n places, whose j-th holds f j -/
def own_AF (Z : State) (h : Heap) (a : Addr) (ty : FieldType) (n : Nat) (f : Nat → Value) : Prop := n < 2147483648 ∧ ∃ c : Cell, Arr Z h a c ty ∧ c.slots.size = n ∧ ∀ j, j < n → c.slots[j]? = some (f j)
/-- an array of ints, bytes, chars, booleans -/
def own_AI (Z : State) (h : Heap) (a : Addr) (ty : FieldType) (n : Nat) (f : Nat → Int32) : Prop := own_AF Z h a ty n (fun j => .int (f j))
def own_AL (Z : State) (h : Heap) (a : Addr) (n : Nat) (f : Nat → Int64) : Prop := own_AF Z h a .long n (fun j => .long (f j))
def own_upd {α : Type} (f : Nat → α) (i : Nat) (x : α) : Nat → α := fun j => if j = i then x else f j
theorem own_AF.lt {a : Addr} {ty : FieldType} {n : Nat} {f : Nat → Value} (F : own_AF Z h a ty n f) : a < h.size := by obtain ⟨_, c, A, -⟩ := F; exact A.lt
theorem own_AI.lt {a : Addr} {ty : FieldType} {n : Nat} {f : Nat → Int32} (F : own_AI Z h a ty n f) : a < h.size := own_AF.lt F
theorem own_AL.lt {a : Addr} {n : Nat} {f : Nat → Int64} (F : own_AL Z h a n f) : a < h.size := own_AF.lt F
theorem own_AF.keep {a : Addr} {ty : FieldType} {n : Nat} {f : Nat → Value} {ws : List Addr} (F : own_AF Z h a ty n f) (K : Keep h h' ws) (q : a ∉ ws) : own_AF Z h' a ty n f := by
  obtain ⟨b, c, A, r⟩ := F; exact ⟨b, c, ⟨K.2.1 a c A.1 q, A.2⟩, r⟩
theorem own_AI.keep {a : Addr} {ty : FieldType} {n : Nat} {f : Nat → Int32} {ws : List Addr} (F : own_AI Z h a ty n f) (K : Keep h h' ws) (q : a ∉ ws) : own_AI Z h' a ty n f := own_AF.keep F K q
theorem own_AL.keep {a : Addr} {n : Nat} {f : Nat → Int64} {ws : List Addr} (F : own_AL Z h a n f) (K : Keep h h' ws) (q : a ∉ ws) : own_AL Z h' a n f := own_AF.keep F K q
theorem own_AF.congr {a : Addr} {ty : FieldType} {n : Nat} {f g : Nat → Value} (F : own_AF Z h a ty n f) (q : ∀ j, j < n → f j = g j) : own_AF Z h a ty n g := by
  obtain ⟨b, c, A, s, r⟩ := F; exact ⟨b, c, A, s, fun j hj => by rw [r j hj, q j hj]⟩
theorem own_AI.congr {a : Addr} {ty : FieldType} {n : Nat} {f g : Nat → Int32} (F : own_AI Z h a ty n f) (q : ∀ j, j < n → f j = g j) : own_AI Z h a ty n g := own_AF.congr F fun j hj => by show Value.int (f j) = .int (g j); rw [q j hj]
theorem own_AF.wr {a : Addr} {ty : FieldType} {n i : Nat} {f : Nat → Value} {v : Value} (F : own_AF Z h a ty n f) (hi : i < n) (W : Wr h h' a i v) : own_AF Z h' a ty n (own_upd f i v) := by
  obtain ⟨b, c, A, s, r⟩ := F
  refine ⟨b, _, A.same W, by rw [sz_set]; exact s, fun j hj => ?_⟩
  simp only [Cell.setSlot, own_upd, Array.getElem?_setIfInBounds]
  by_cases q : i = j
  · subst q; simp [s, hi]
  · have q' : ¬ j = i := fun e => q e.symm
    simp [q, q', r j hj]
theorem own_AI.wr {a : Addr} {ty : FieldType} {n i : Nat} {f : Nat → Int32} {x : Int32} (F : own_AI Z h a ty n f) (hi : i < n) (W : Wr h h' a i (.int x)) : own_AI Z h' a ty n (own_upd f i x) :=
  (own_AF.wr F hi W).congr fun j hj => by simp only [own_upd]; split <;> rfl
theorem own_AL.wr {a : Addr} {n i : Nat} {f : Nat → Int64} {x : Int64} (F : own_AL Z h a n f) (hi : i < n) (W : Wr h h' a i (.long x)) : own_AL Z h' a n (own_upd f i x) :=
  (own_AF.wr F hi W).congr fun j hj => by simp only [own_upd]; split <;> rfl
theorem own_idx {j : Int32} {i : Nat} (hj : j.toInt = i) : ¬ j < 0 ∧ j.toNatClampNeg = i := by
  refine ⟨by rw [Int32.lt_iff_toInt_lt, Int32.toInt_zero]; omega, ?_⟩
  have := nat_of (j := j) (by rw [Int32.lt_iff_toInt_lt, Int32.toInt_zero]; omega)
  omega
theorem own_inb {j : Int32} {i n : Nat} {cl : Cell} (hj : j.toInt = i) (hi : i < n) (hs : cl.slots.size = n) : ¬ (j < 0 ∨ cl.slots.size ≤ j.toNatClampNeg) := by
  obtain ⟨h1, h2⟩ := own_idx hj
  rintro (q | q)
  · exact h1 q
  · rw [h2, hs] at q; omega
theorem own_ldF {a : Addr} {n i : Nat} {ty : FieldType} {f : Nat → Value} {j : Int32} {v : Value} (A : own_AF Z h a ty n f) (hj : j.toInt = i) (hi : i < n) (hv : f i = v) : ∃ cl : Cell, Arr Z h a cl ty ∧ ¬ (j < 0 ∨ cl.slots.size ≤ j.toNatClampNeg) ∧ cl.slots[j.toNatClampNeg]? = some v := by
  obtain ⟨b, cl, Ar, hs, hf⟩ := A
  exact ⟨cl, Ar, own_inb hj hi hs, by rw [(own_idx hj).2, hf i hi, hv]⟩
theorem own_ldI (X : Stand p l e R s m args below meth c T locs cells slots) (hx : p.tables.exec = Jvm.exec) (hZ : Z.Warmed39 s.vm) (eT : T.heap = h) {a : Addr} {n i : Nat} {f : Nat → Int32} {j x : Int32} (A : own_AI Z h a .int n f) (hj : j.toInt = i) (hi : i < n) (hv : f i = x) {g : JFrame} (hg : g.method = m) {rest : List Value} (hs : g.stack = .int j :: .ref a :: rest) (hd : decode c.code g.pc = .ok (.iaload, 1)) :
    ∀ target, Steps p.tables e below (T.setTop { g with pc := g.pc + 1, stack := .int x :: rest }) target → Steps p.tables e below (T.setTop g) target := by
  obtain ⟨cl, Ar, h1, h2⟩ := own_ldF A hj hi (by rw [hv])
  exact X.iaload hx (by rw [eT]; exact Ar.1) (State.isArrayOf_alike hZ.alike Ar.2.1) Ar.2.2 h1 h2 hg hs hd
theorem own_ldC (X : Stand p l e R s m args below meth c T locs cells slots) (hx : p.tables.exec = Jvm.exec) (hZ : Z.Warmed39 s.vm) (eT : T.heap = h) {a : Addr} {n i : Nat} {f : Nat → Int32} {j x : Int32} (A : own_AI Z h a .char n f) (hj : j.toInt = i) (hi : i < n) (hv : f i = x) {g : JFrame} (hg : g.method = m) {rest : List Value} (hs : g.stack = .int j :: .ref a :: rest) (hd : decode c.code g.pc = .ok (.caload, 1)) :
    ∀ target, Steps p.tables e below (T.setTop { g with pc := g.pc + 1, stack := .int x :: rest }) target → Steps p.tables e below (T.setTop g) target := by
  obtain ⟨cl, Ar, h1, h2⟩ := own_ldF A hj hi (by rw [hv])
  exact X.caload hx (by rw [eT]; exact Ar.1) (State.isArrayOf_alike hZ.alike Ar.2.1) Ar.2.2 h1 h2 hg hs hd
theorem own_ldB (X : Stand p l e R s m args below meth c T locs cells slots) (hx : p.tables.exec = Jvm.exec) (hZ : Z.Warmed39 s.vm) (eT : T.heap = h) {a : Addr} {n i : Nat} {f : Nat → Int32} {j x : Int32} (A : own_AI Z h a .byte n f) (hj : j.toInt = i) (hi : i < n) (hv : f i = x) {g : JFrame} (hg : g.method = m) {rest : List Value} (hs : g.stack = .int j :: .ref a :: rest) (hd : decode c.code g.pc = .ok (.baload, 1)) :
    ∀ target, Steps p.tables e below (T.setTop { g with pc := g.pc + 1, stack := .int x :: rest }) target → Steps p.tables e below (T.setTop g) target := by
  obtain ⟨cl, Ar, h1, h2⟩ := own_ldF A hj hi (by rw [hv])
  exact X.baloadBytes hx (by rw [eT]; exact Ar.1) (State.isArrayOf_alike hZ.alike Ar.2.1) Ar.2.2 h1 h2 hg hs hd
theorem own_ldZ (X : Stand p l e R s m args below meth c T locs cells slots) (hx : p.tables.exec = Jvm.exec) (hZ : Z.Warmed39 s.vm) (eT : T.heap = h) {a : Addr} {n i : Nat} {f : Nat → Int32} {j x : Int32} (A : own_AI Z h a .boolean n f) (hj : j.toInt = i) (hi : i < n) (hv : f i = x) {g : JFrame} (hg : g.method = m) {rest : List Value} (hs : g.stack = .int j :: .ref a :: rest) (hd : decode c.code g.pc = .ok (.baload, 1)) :
    ∀ target, Steps p.tables e below (T.setTop { g with pc := g.pc + 1, stack := .int x :: rest }) target → Steps p.tables e below (T.setTop g) target := by
  obtain ⟨cl, Ar, h1, h2⟩ := own_ldF A hj hi (by rw [hv])
  exact X.baloadBooleans hx (by rw [eT]; exact Ar.1) (State.isArrayOf_alike hZ.alike Ar.2.1) Ar.2.2 h1 h2 hg hs hd
theorem own_ldJ (X : Stand p l e R s m args below meth c T locs cells slots) (hx : p.tables.exec = Jvm.exec) (hZ : Z.Warmed39 s.vm) (eT : T.heap = h) {a : Addr} {n i : Nat} {f : Nat → Int64} {j : Int32} {x : Int64} (A : own_AL Z h a n f) (hj : j.toInt = i) (hi : i < n) (hv : f i = x) {g : JFrame} (hg : g.method = m) {rest : List Value} (hs : g.stack = .int j :: .ref a :: rest) (hd : decode c.code g.pc = .ok (.laload, 1)) :
    ∀ target, Steps p.tables e below (T.setTop { g with pc := g.pc + 1, stack := .long x :: rest }) target → Steps p.tables e below (T.setTop g) target := by
  obtain ⟨cl, Ar, h1, h2⟩ := own_ldF A hj hi (by rw [hv])
  exact X.laload hx (by rw [eT]; exact Ar.1) (State.isArrayOf_alike hZ.alike Ar.2.1) Ar.2.2 h1 h2 hg hs hd
theorem own_ldR (X : Stand p l e R s m args below meth c T locs cells slots) (hx : p.tables.exec = Jvm.exec) (hZ : Z.Warmed39 s.vm) (eT : T.heap = h) {a : Addr} {n i : Nat} {ty : FieldType} {f : Nat → Value} {j : Int32} {v : Value} (hty : ty.isReference = true) (A : own_AF Z h a ty n f) (hj : j.toInt = i) (hi : i < n) (hv : f i = v) {g : JFrame} (hg : g.method = m) {rest : List Value} (hs : g.stack = .int j :: .ref a :: rest) (hd : decode c.code g.pc = .ok (.aaload, 1)) :
    ∀ target, Steps p.tables e below (T.setTop { g with pc := g.pc + 1, stack := v :: rest }) target → Steps p.tables e below (T.setTop g) target := by
  obtain ⟨cl, Ar, h1, h2⟩ := own_ldF A hj hi hv
  exact X.aaload hx (by rw [eT]; exact Ar.1) (State.isArrayOf_alike hZ.alike Ar.2.1) hty Ar.2.2 h1 h2 hg hs hd
theorem own_len (X : Stand p l e R s m args below meth c T locs cells slots) (hx : p.tables.exec = Jvm.exec) (hZ : Z.Warmed39 s.vm) (eT : T.heap = h) {a : Addr} {n : Nat} {ty : FieldType} {f : Nat → Value} {z : Int32} (A : own_AF Z h a ty n f) (hz : z.toInt = n) {g : JFrame} (hg : g.method = m) {rest : List Value} (hs : g.stack = .ref a :: rest) (hd : decode c.code g.pc = .ok (.arraylength, 1)) :
    ∀ target, Steps p.tables e below (T.setTop { g with pc := g.pc + 1, stack := .int z :: rest }) target → Steps p.tables e below (T.setTop g) target := by
  obtain ⟨b, cl, Ar, hs', hf⟩ := A
  intro target k
  refine X.arraylength hx (by rw [eT]; exact Ar.1) (State.isArrayOf_alike hZ.alike Ar.2.1) hg hs hd target ?_
  have q : cl.slots.size.toInt32 = z := by
    apply Int32.toInt_inj.mp
    rw [hs', len_toInt (by omega), hz]
  rw [q]; exact k
theorem own_stI (X : Stand p l e R s m args below meth c T locs cells slots) (hx : p.tables.exec = Jvm.exec) (hZ : Z.Warmed39 s.vm) (eT : T.heap = h) {a : Addr} {n i : Nat} {f : Nat → Int32} {j x : Int32} (A : own_AI Z h a .int n f) (hj : j.toInt = i) (hi : i < n) {g : JFrame} (hg : g.method = m) {rest : List Value} (hs : g.stack = .int x :: .int j :: .ref a :: rest) (hd : decode c.code g.pc = .ok (.iastore, 1)) :
    ∃ T' h', Stand p l e R s m args below meth c T' (locs ++ [⟨a, i⟩]) cells slots ∧ T'.heap = h' ∧ Wr h h' a i (.int x) ∧ own_AI Z h' a .int n (own_upd f i x) ∧ ∀ target, Steps p.tables e below (T'.setTop { g with pc := g.pc + 1, stack := rest }) target → Steps p.tables e below (T.setTop g) target := by
  obtain ⟨cl, Ar, h1, -⟩ := own_ldF A hj hi rfl
  obtain ⟨T', h', X', e', W, st⟩ := stI X hx hZ eT Ar h1 hg hs hd
  rw [(own_idx hj).2] at X' W
  exact ⟨T', h', X', e', W, A.wr hi W, st⟩
theorem own_stB (X : Stand p l e R s m args below meth c T locs cells slots) (hx : p.tables.exec = Jvm.exec) (hZ : Z.Warmed39 s.vm) (eT : T.heap = h) {a : Addr} {n i : Nat} {f : Nat → Int32} {j x : Int32} (A : own_AI Z h a .byte n f) (hj : j.toInt = i) (hi : i < n) {g : JFrame} (hg : g.method = m) {rest : List Value} (hs : g.stack = .int x :: .int j :: .ref a :: rest) (hd : decode c.code g.pc = .ok (.bastore, 1)) :
    ∃ T' h', Stand p l e R s m args below meth c T' (locs ++ [⟨a, i⟩]) cells slots ∧ T'.heap = h' ∧ Wr h h' a i (.int (x.toInt8.toInt32)) ∧ own_AI Z h' a .byte n (own_upd f i (x.toInt8.toInt32)) ∧ ∀ target, Steps p.tables e below (T'.setTop { g with pc := g.pc + 1, stack := rest }) target → Steps p.tables e below (T.setTop g) target := by
  obtain ⟨cl, Ar, h1, -⟩ := own_ldF A hj hi rfl
  obtain ⟨T', h', X', e', W, st⟩ := stB X hx hZ eT Ar h1 hg hs hd
  rw [(own_idx hj).2] at X' W
  exact ⟨T', h', X', e', W, A.wr hi W, st⟩
theorem own_stZ (X : Stand p l e R s m args below meth c T locs cells slots) (hx : p.tables.exec = Jvm.exec) (hZ : Z.Warmed39 s.vm) (eT : T.heap = h) {a : Addr} {n i : Nat} {f : Nat → Int32} {j x : Int32} (A : own_AI Z h a .boolean n f) (hj : j.toInt = i) (hi : i < n) {g : JFrame} (hg : g.method = m) {rest : List Value} (hs : g.stack = .int x :: .int j :: .ref a :: rest) (hd : decode c.code g.pc = .ok (.bastore, 1)) :
    ∃ T' h', Stand p l e R s m args below meth c T' (locs ++ [⟨a, i⟩]) cells slots ∧ T'.heap = h' ∧ Wr h h' a i (.int (x &&& 1)) ∧ own_AI Z h' a .boolean n (own_upd f i (x &&& 1)) ∧ ∀ target, Steps p.tables e below (T'.setTop { g with pc := g.pc + 1, stack := rest }) target → Steps p.tables e below (T.setTop g) target := by
  obtain ⟨cl, Ar, h1, -⟩ := own_ldF A hj hi rfl
  obtain ⟨T', h', X', e', W, st⟩ := stZ X hx hZ eT Ar h1 hg hs hd
  rw [(own_idx hj).2] at X' W
  exact ⟨T', h', X', e', W, A.wr hi W, st⟩
theorem own_stC (X : Stand p l e R s m args below meth c T locs cells slots) (hx : p.tables.exec = Jvm.exec) (hZ : Z.Warmed39 s.vm) (eT : T.heap = h) {a : Addr} {n i : Nat} {f : Nat → Int32} {j x : Int32} (A : own_AI Z h a .char n f) (hj : j.toInt = i) (hi : i < n) {g : JFrame} (hg : g.method = m) {rest : List Value} (hs : g.stack = .int x :: .int j :: .ref a :: rest) (hd : decode c.code g.pc = .ok (.castore, 1)) :
    ∃ T' h', Stand p l e R s m args below meth c T' (locs ++ [⟨a, i⟩]) cells slots ∧ T'.heap = h' ∧ Wr h h' a i (.int (x.toUInt32.toUInt16.toUInt32.toInt32)) ∧ own_AI Z h' a .char n (own_upd f i (x.toUInt32.toUInt16.toUInt32.toInt32)) ∧ ∀ target, Steps p.tables e below (T'.setTop { g with pc := g.pc + 1, stack := rest }) target → Steps p.tables e below (T.setTop g) target := by
  obtain ⟨cl, Ar, h1, -⟩ := own_ldF A hj hi rfl
  obtain ⟨T', h', X', e', W, st⟩ := stC X hx hZ eT Ar h1 hg hs hd
  rw [(own_idx hj).2] at X' W
  exact ⟨T', h', X', e', W, A.wr hi W, st⟩
theorem own_stJ (X : Stand p l e R s m args below meth c T locs cells slots) (hx : p.tables.exec = Jvm.exec) (hZ : Z.Warmed39 s.vm) (eT : T.heap = h) {a : Addr} {n i : Nat} {f : Nat → Int64} {j : Int32} {x : Int64} (A : own_AL Z h a n f) (hj : j.toInt = i) (hi : i < n) {g : JFrame} (hg : g.method = m) {rest : List Value} (hs : g.stack = .long x :: .int j :: .ref a :: rest) (hd : decode c.code g.pc = .ok (.lastore, 1)) :
    ∃ T' h', Stand p l e R s m args below meth c T' (locs ++ [⟨a, i⟩]) cells slots ∧ T'.heap = h' ∧ Wr h h' a i (.long x) ∧ own_AL Z h' a n (own_upd f i x) ∧ ∀ target, Steps p.tables e below (T'.setTop { g with pc := g.pc + 1, stack := rest }) target → Steps p.tables e below (T.setTop g) target := by
  obtain ⟨cl, Ar, h1, -⟩ := own_ldF A hj hi rfl
  obtain ⟨T', h', X', e', W, st⟩ := stJ X hx hZ eT Ar h1 hg hs hd
  rw [(own_idx hj).2] at X' W
  exact ⟨T', h', X', e', W, A.wr hi W, st⟩
theorem own_newF {a : Addr} {cA : ClassId} {ty : FieldType} {n : Int32} {i : Nat} (hn : n.toInt = i) (A : Arr Z h a (newA cA ty n) ty) : own_AF Z h a ty i (fun _ => defaultValue ty) := by
  obtain ⟨h1, h2⟩ := own_idx hn
  have := n.toInt_lt
  refine ⟨by omega, _, A, by rw [sz_new, h2], fun j hj => ?_⟩
  simp [newA, h2, hj]
theorem own_newI {a : Addr} {cA : ClassId} {ty : FieldType} {n : Int32} {i : Nat} (hn : n.toInt = i) (A : Arr Z h a (newA cA ty n) ty) (hd : defaultValue ty = .int 0) : own_AI Z h a ty i (fun _ => 0) :=
  (own_newF hn A).congr fun _ _ => hd
theorem own_newL {a : Addr} {cA : ClassId} {n : Int32} {i : Nat} (hn : n.toInt = i) (A : Arr Z h a (newA cA .long n) .long) : own_AL Z h a i (fun _ => 0) :=
  (own_newF hn A).congr fun _ _ => rfl
theorem own_Sta.keep {C n d : String} {v : Value} {ws : List Addr} (F : Sta Z h C n d v) (K : Keep h h' ws) (q : ∀ x ∈ ws, ∀ cl : Cell, h[x]? = some cl → cl.vm.isStatics = false) : Sta Z h' C n d v := by
  obtain ⟨cf, i, k, f, st, cell, h1, h2, h3, h4, h5, h6, h7⟩ := F
  refine ⟨cf, i, k, f, st, cell, h1, h2, h3, h4, K.2.1 st cell h5 (fun q' => ?_), h6, h7⟩
  have := q st q' cell h5
  rw [h6] at this; cases this
theorem own_selP {args : Array Value} {C : String} {y y' : MethodName} (hcls : y'.cls = y.cls) (hs : (Jvm.Cond.selects C y' y').before args s = true) (hi' : (Jvm.Cond.instanceMethod y').before args s = true) (hp : (Jvm.Cond.privateMethod y).before args s = true) (hi : (Jvm.Cond.instanceMethod y).before args s = true) (hy : y.cls ≠ "java/lang/invoke/MethodHandle" ∧ y.cls ≠ "java/lang/invoke/VarHandle") : (Jvm.Cond.selects y.cls y y).before args s = true := by
  obtain ⟨mk, methM, hnamed, -⟩ := Cond.instanceMethod_spec hi'
  obtain ⟨kr, hk, hni⟩ := notFace_of_selects hs mk hnamed
  have hc := findClass_of_methodNamed hnamed
  rw [hcls] at hc
  exact selects_self_of_private hc hk hni (Cond.privateMethod_at hp) hi hy
end Own

theorem own_fldeq {args : Array Value} {s : State} {t : Term} {x : Addr} {C n d : String} {k : Int32} (h : (Jvm.Cond.eq (.field t C n d) (.int k)).value args s none s [] = some true) (ht : t.eval args s none [] s = some (.ref x)) : Fld s s.heap x C n d (.int k) := by
  obtain ⟨y, h1, h2⟩ := Cond.eq_one (beq_iff_eq.mpr h : (Jvm.Cond.eq (.field t C n d) (.int k)).holds args s none s [] = true)
  have e : y = .int k := (Option.some.inj (show some (Value.int k) = some y from h2)).symm
  subst e
  exact Fld.start ((fld_at ht).symm.trans h1)
theorem own_fldeqL {args : Array Value} {s : State} {t : Term} {x : Addr} {C n d : String} {k : Int64} (h : (Jvm.Cond.eq (.field t C n d) (.long k)).value args s none s [] = some true) (ht : t.eval args s none [] s = some (.ref x)) : Fld s s.heap x C n d (.long k) := by
  obtain ⟨y, h1, h2⟩ := Cond.eq_one (beq_iff_eq.mpr h : (Jvm.Cond.eq (.field t C n d) (.long k)).holds args s none s [] = true)
  have e : y = .long k := (Option.some.inj (show some (Value.long k) = some y from h2)).symm
  subst e
  exact Fld.start ((fld_at ht).symm.trans h1)

theorem d11_0 : decode jdk_29_method_65_code 0 = .ok (.iload_n 0, 1) := by decide +kernel
theorem d11_1 : decode jdk_29_method_65_code 1 = .ok (.iload_n 1, 1) := by decide +kernel
theorem d11_2 : decode jdk_29_method_65_code 2 = .ok (.if_icmp .lt 7, 3) := by decide +kernel
theorem d11_5 : decode jdk_29_method_65_code 5 = .ok (.iload_n 0, 1) := by decide +kernel
theorem d11_6 : decode jdk_29_method_65_code 6 = .ok (.goto 4, 3) := by decide +kernel
theorem d11_9 : decode jdk_29_method_65_code 9 = .ok (.iload_n 1, 1) := by decide +kernel
theorem d11_10 : decode jdk_29_method_65_code 10 = .ok (.ireturn, 1) := by decide +kernel
theorem ef_11 (m : MethodId) (x0 : Int32) (x1 : Int32) : entryFrame m #[(.int x0), (.int x1)] 2 = mkF m 0 #[.val (.int x0), .val (.int x1)] [] := by first | (simp [entryFrame, mkF, argsToLocals, Value.category]; done) | rfl
def own_max (p0 : Int32) (p1 : Int32) : Int32 := (if p0 < p1 then p1 else p0)
theorem own_eq_own_max (p0 : Int32) (p1 : Int32) : own_max p0 p1 = (if p0 < p1 then p1 else p0) := rfl
def Q11 (Z : State) (p0 : Int32) (p1 : Int32) (h0 : Heap) (n0 : Nat) (rv_ : Option Value) (h : Heap) (LL_ : List Loc) : Prop := rv_ = some (.int (own_max p0 p1)) ∧ Fr n0 LL_ ∧ h = h0
set_option maxRecDepth 65536 in
set_option maxHeartbeats 40000000 in
theorem rm11 (l : Launch) (Z : State) (a0 : Array Value) (hw : ∀ d ∈ tables_1, d.before a0 Z = true) (ws : List Jvm.Cond) (p0 : Int32) (p1 : Int32) (h0 : Heap) (n0 : Nat) :
    MetFree l (⟨"java/lang/Math", "max", "(II)I"⟩ : MethodName) (head1 (Jvm.Cond.code (⟨"java/lang/Math", "max", "(II)I"⟩ : MethodName) jdk_29_method_65_code 2 (some .int) :: ws) ({ frames := 0, cells := 0, slots := 0, locals := 0 } : Room)) (fun aa UU => aa = #[(.int p0), (.int p1)] ∧ Z.Warmed39 UU.vm ∧ UU.heap = h0) (fun _ _ _ _ _ => True) (fun _ UU oo UV => ∃ vv LL, oo = .returned vv ∧ Q11 Z p0 p1 h0 n0 vv UV.heap LL ∧ FrameEnd UU oo UV LL ({ frames := 0, cells := 0, slots := 0, locals := 0 } : Room).cells ({ frames := 0, cells := 0, slots := 0, locals := 0 } : Room).slots) := by
  refine MetFree.of_bodySF (Jvm.Free.JP.mathPlain rfl (by decide +kernel)) hisR ?_
  intro p e s m args below meth c s₁ Bd hml0 hP hK
  obtain ⟨rfl, hZ, hh⟩ := hP
  have hx := Bd.exec
  have hby := Bd.bytes
  have hml : c.maxLocals = 2 := hml0
  have hown : s.vm.findClass "java/lang/Math" = some m.cls := findClass_of_methodNamed Bd.named
  have hnm := (name_of_methodNamed Bd.named Bd.method).1
  have X0 : Stand p l e ({ frames := 0, cells := 0, slots := 0, locals := 0 } : Room) s m #[(.int p0), (.int p1)] below meth c s₁ [] 0 0 := Stand.of_body Bd
  have e0 : s₁.heap = h0 := by rw [← hh, Bd.state]; rfl
  have N0 := Fr.nil n0
  have k0 : ∀ tg_, Steps p.tables e below (s₁.setTop (mkF m 0 #[.val (.int p0), .val (.int p1)] [])) tg_ → Steps p.tables e below (s₁.setTop (entryFrame m #[(.int p0), (.int p1)] 2)) tg_ := fun tg_ k => castTop (ef_11 m p0 p1) k
  have k1 : ∀ tg_, Steps p.tables e below (s₁.setTop (mkF m 2 #[.val (.int p0), .val (.int p1)] [(.int p1), (.int p0)])) tg_ → Steps p.tables e below (s₁.setTop (entryFrame m #[(.int p0), (.int p1)] 2)) tg_ := by
    intro tg_ kt
    refine k0 tg_ ?_
    refine XS.iloadN X0.here hx rfl (hb hby d11_0) rfl ?_
    show Steps p.tables e below (s₁.setTop (mkF m 1 #[.val (.int p0), .val (.int p1)] [(.int p0)])) _
    refine XS.iloadN X0.here hx rfl (hb hby d11_1) rfl ?_
    show Steps p.tables e below (s₁.setTop (mkF m 2 #[.val (.int p0), .val (.int p1)] [(.int p1), (.int p0)])) _
    exact kt
  by_cases hc2_2 : p0 < p1
  · have k3 : ∀ tg_, Steps p.tables e below (s₁.setTop (mkF m 10 #[.val (.int p0), .val (.int p1)] [(.int p1)])) tg_ → Steps p.tables e below (s₁.setTop (entryFrame m #[(.int p0), (.int p1)] 2)) tg_ := by
      intro tg_ kt
      refine k1 tg_ ?_
      refine XS.icmpYes X0.here hx rfl (pc0 := 2) (pc' := 9) rfl (hb hby d11_2) rfl (tlt hc2_2).1 (by decide) (by decide) ?_
      show Steps p.tables e below (s₁.setTop (mkF m 9 #[.val (.int p0), .val (.int p1)] [])) _
      refine XS.iloadN X0.here hx rfl (hb hby d11_9) rfl ?_
      show Steps p.tables e below (s₁.setTop (mkF m 10 #[.val (.int p0), .val (.int p1)] [(.int p1)])) _
      exact kt
    obtain ⟨fs, hr, hrun, hended, hW, hsame⟩ := X0.leave (v := some (.int p1)) (fun h => by rw [Bd.returns] at h; cases h)
    refine ⟨_, _, k3 _ (retI X0 hx Bd.returns (hb hby d11_10) hr), hrun, hended, _, _, rfl, ?_, ⟨_, rfl⟩, hW, hsame.mono (by decide) (by decide)⟩
    show Q11 Z p0 p1 h0 n0 _ s₁.heap _
    rw [e0]
    exact ⟨(by rw [own_eq_own_max]; rw [if_pos hc2_2]), N0, rfl⟩
  · have k4 : ∀ tg_, Steps p.tables e below (s₁.setTop (mkF m 10 #[.val (.int p0), .val (.int p1)] [(.int p0)])) tg_ → Steps p.tables e below (s₁.setTop (entryFrame m #[(.int p0), (.int p1)] 2)) tg_ := by
      intro tg_ kt
      refine k1 tg_ ?_
      refine XS.icmpNo X0.here hx rfl (hb hby d11_2) rfl (flt hc2_2).1 ?_
      show Steps p.tables e below (s₁.setTop (mkF m 5 #[.val (.int p0), .val (.int p1)] [])) _
      refine XS.iloadN X0.here hx rfl (hb hby d11_5) rfl ?_
      show Steps p.tables e below (s₁.setTop (mkF m 6 #[.val (.int p0), .val (.int p1)] [(.int p0)])) _
      refine XS.goto X0.here hx rfl (pc0 := 6) (pc' := 10) rfl (hb hby d11_6) (by decide) (by decide) ?_
      show Steps p.tables e below (s₁.setTop (mkF m 10 #[.val (.int p0), .val (.int p1)] [(.int p0)])) _
      exact kt
    obtain ⟨fs, hr, hrun, hended, hW, hsame⟩ := X0.leave (v := some (.int p0)) (fun h => by rw [Bd.returns] at h; cases h)
    refine ⟨_, _, k4 _ (retI X0 hx Bd.returns (hb hby d11_10) hr), hrun, hended, _, _, rfl, ?_, ⟨_, rfl⟩, hW, hsame.mono (by decide) (by decide)⟩
    show Q11 Z p0 p1 h0 n0 _ s₁.heap _
    rw [e0]
    exact ⟨(by rw [own_eq_own_max]; rw [if_neg hc2_2]), N0, rfl⟩
theorem d12_0 : decode jdk_29_method_69_code 0 = .ok (.iload_n 0, 1) := by decide +kernel
theorem d12_1 : decode jdk_29_method_69_code 1 = .ok (.iload_n 1, 1) := by decide +kernel
theorem d12_2 : decode jdk_29_method_69_code 2 = .ok (.if_icmp .gt 7, 3) := by decide +kernel
theorem d12_5 : decode jdk_29_method_69_code 5 = .ok (.iload_n 0, 1) := by decide +kernel
theorem d12_6 : decode jdk_29_method_69_code 6 = .ok (.goto 4, 3) := by decide +kernel
theorem d12_9 : decode jdk_29_method_69_code 9 = .ok (.iload_n 1, 1) := by decide +kernel
theorem d12_10 : decode jdk_29_method_69_code 10 = .ok (.ireturn, 1) := by decide +kernel
theorem ef_12 (m : MethodId) (x0 : Int32) (x1 : Int32) : entryFrame m #[(.int x0), (.int x1)] 2 = mkF m 0 #[.val (.int x0), .val (.int x1)] [] := by first | (simp [entryFrame, mkF, argsToLocals, Value.category]; done) | rfl
def own_min (p0 : Int32) (p1 : Int32) : Int32 := (if p1 < p0 then p1 else p0)
theorem own_eq_own_min (p0 : Int32) (p1 : Int32) : own_min p0 p1 = (if p1 < p0 then p1 else p0) := rfl
def Q12 (Z : State) (p0 : Int32) (p1 : Int32) (h0 : Heap) (n0 : Nat) (rv_ : Option Value) (h : Heap) (LL_ : List Loc) : Prop := rv_ = some (.int (own_min p0 p1)) ∧ Fr n0 LL_ ∧ h = h0
set_option maxRecDepth 65536 in
set_option maxHeartbeats 40000000 in
theorem rm12 (l : Launch) (Z : State) (a0 : Array Value) (hw : ∀ d ∈ tables_1, d.before a0 Z = true) (ws : List Jvm.Cond) (p0 : Int32) (p1 : Int32) (h0 : Heap) (n0 : Nat) :
    MetFree l (⟨"java/lang/Math", "min", "(II)I"⟩ : MethodName) (head1 (Jvm.Cond.code (⟨"java/lang/Math", "min", "(II)I"⟩ : MethodName) jdk_29_method_69_code 2 (some .int) :: ws) ({ frames := 0, cells := 0, slots := 0, locals := 0 } : Room)) (fun aa UU => aa = #[(.int p0), (.int p1)] ∧ Z.Warmed39 UU.vm ∧ UU.heap = h0) (fun _ _ _ _ _ => True) (fun _ UU oo UV => ∃ vv LL, oo = .returned vv ∧ Q12 Z p0 p1 h0 n0 vv UV.heap LL ∧ FrameEnd UU oo UV LL ({ frames := 0, cells := 0, slots := 0, locals := 0 } : Room).cells ({ frames := 0, cells := 0, slots := 0, locals := 0 } : Room).slots) := by
  refine MetFree.of_bodySF (Jvm.Free.JP.mathPlain rfl (by decide +kernel)) hisR ?_
  intro p e s m args below meth c s₁ Bd hml0 hP hK
  obtain ⟨rfl, hZ, hh⟩ := hP
  have hx := Bd.exec
  have hby := Bd.bytes
  have hml : c.maxLocals = 2 := hml0
  have hown : s.vm.findClass "java/lang/Math" = some m.cls := findClass_of_methodNamed Bd.named
  have hnm := (name_of_methodNamed Bd.named Bd.method).1
  have X0 : Stand p l e ({ frames := 0, cells := 0, slots := 0, locals := 0 } : Room) s m #[(.int p0), (.int p1)] below meth c s₁ [] 0 0 := Stand.of_body Bd
  have e0 : s₁.heap = h0 := by rw [← hh, Bd.state]; rfl
  have N0 := Fr.nil n0
  have k0 : ∀ tg_, Steps p.tables e below (s₁.setTop (mkF m 0 #[.val (.int p0), .val (.int p1)] [])) tg_ → Steps p.tables e below (s₁.setTop (entryFrame m #[(.int p0), (.int p1)] 2)) tg_ := fun tg_ k => castTop (ef_12 m p0 p1) k
  have k5 : ∀ tg_, Steps p.tables e below (s₁.setTop (mkF m 2 #[.val (.int p0), .val (.int p1)] [(.int p1), (.int p0)])) tg_ → Steps p.tables e below (s₁.setTop (entryFrame m #[(.int p0), (.int p1)] 2)) tg_ := by
    intro tg_ kt
    refine k0 tg_ ?_
    refine XS.iloadN X0.here hx rfl (hb hby d12_0) rfl ?_
    show Steps p.tables e below (s₁.setTop (mkF m 1 #[.val (.int p0), .val (.int p1)] [(.int p0)])) _
    refine XS.iloadN X0.here hx rfl (hb hby d12_1) rfl ?_
    show Steps p.tables e below (s₁.setTop (mkF m 2 #[.val (.int p0), .val (.int p1)] [(.int p1), (.int p0)])) _
    exact kt
  by_cases hc2_6 : p1 < p0
  · have k7 : ∀ tg_, Steps p.tables e below (s₁.setTop (mkF m 10 #[.val (.int p0), .val (.int p1)] [(.int p1)])) tg_ → Steps p.tables e below (s₁.setTop (entryFrame m #[(.int p0), (.int p1)] 2)) tg_ := by
      intro tg_ kt
      refine k5 tg_ ?_
      refine XS.icmpYes X0.here hx rfl (pc0 := 2) (pc' := 9) rfl (hb hby d12_2) rfl (tlt hc2_6).2.2.1 (by decide) (by decide) ?_
      show Steps p.tables e below (s₁.setTop (mkF m 9 #[.val (.int p0), .val (.int p1)] [])) _
      refine XS.iloadN X0.here hx rfl (hb hby d12_9) rfl ?_
      show Steps p.tables e below (s₁.setTop (mkF m 10 #[.val (.int p0), .val (.int p1)] [(.int p1)])) _
      exact kt
    obtain ⟨fs, hr, hrun, hended, hW, hsame⟩ := X0.leave (v := some (.int p1)) (fun h => by rw [Bd.returns] at h; cases h)
    refine ⟨_, _, k7 _ (retI X0 hx Bd.returns (hb hby d12_10) hr), hrun, hended, _, _, rfl, ?_, ⟨_, rfl⟩, hW, hsame.mono (by decide) (by decide)⟩
    show Q12 Z p0 p1 h0 n0 _ s₁.heap _
    rw [e0]
    exact ⟨(by rw [own_eq_own_min]; rw [if_pos hc2_6]), N0, rfl⟩
  · have k8 : ∀ tg_, Steps p.tables e below (s₁.setTop (mkF m 10 #[.val (.int p0), .val (.int p1)] [(.int p0)])) tg_ → Steps p.tables e below (s₁.setTop (entryFrame m #[(.int p0), (.int p1)] 2)) tg_ := by
      intro tg_ kt
      refine k5 tg_ ?_
      refine XS.icmpNo X0.here hx rfl (hb hby d12_2) rfl (flt hc2_6).2.2.1 ?_
      show Steps p.tables e below (s₁.setTop (mkF m 5 #[.val (.int p0), .val (.int p1)] [])) _
      refine XS.iloadN X0.here hx rfl (hb hby d12_5) rfl ?_
      show Steps p.tables e below (s₁.setTop (mkF m 6 #[.val (.int p0), .val (.int p1)] [(.int p0)])) _
      refine XS.goto X0.here hx rfl (pc0 := 6) (pc' := 10) rfl (hb hby d12_6) (by decide) (by decide) ?_
      show Steps p.tables e below (s₁.setTop (mkF m 10 #[.val (.int p0), .val (.int p1)] [(.int p0)])) _
      exact kt
    obtain ⟨fs, hr, hrun, hended, hW, hsame⟩ := X0.leave (v := some (.int p0)) (fun h => by rw [Bd.returns] at h; cases h)
    refine ⟨_, _, k8 _ (retI X0 hx Bd.returns (hb hby d12_10) hr), hrun, hended, _, _, rfl, ?_, ⟨_, rfl⟩, hW, hsame.mono (by decide) (by decide)⟩
    show Q12 Z p0 p1 h0 n0 _ s₁.heap _
    rw [e0]
    exact ⟨(by rw [own_eq_own_min]; rw [if_neg hc2_6]), N0, rfl⟩
theorem d10_0 : decode jdk_43_method_4_code 0 = .ok (.iload_n 0, 1) := by decide +kernel
theorem d10_1 : decode jdk_43_method_4_code 1 = .ok (.ifCond .lt 14, 3) := by decide +kernel
theorem d10_4 : decode jdk_43_method_4_code 4 = .ok (.iload_n 0, 1) := by decide +kernel
theorem d10_5 : decode jdk_43_method_4_code 5 = .ok (.sipush 255, 3) := by decide +kernel
theorem d10_8 : decode jdk_43_method_4_code 8 = .ok (.if_icmp .gt 7, 3) := by decide +kernel
theorem d10_11 : decode jdk_43_method_4_code 11 = .ok (.iconst 1, 1) := by decide +kernel
theorem d10_12 : decode jdk_43_method_4_code 12 = .ok (.goto 4, 3) := by decide +kernel
theorem d10_15 : decode jdk_43_method_4_code 15 = .ok (.iconst 0, 1) := by decide +kernel
theorem d10_16 : decode jdk_43_method_4_code 16 = .ok (.ireturn, 1) := by decide +kernel
theorem pn_10 : plainName "java/lang/StringLatin1" = true := by first | (simp [plainName, overriddenIn]; done) | decide +kernel
theorem ef_10 (m : MethodId) (x0 : Int32) : entryFrame m #[(.int x0)] 1 = mkF m 0 #[.val (.int x0)] [] := by first | (simp [entryFrame, mkF, argsToLocals, Value.category]; done) | rfl
def own_ce (p0 : Int32) : Int32 := (if p0 < (0 : Int32) then (0 : Int32) else (if (255 : Int32) < p0 then (0 : Int32) else (1 : Int32)))
theorem own_eq_own_ce (p0 : Int32) : own_ce p0 = (if p0 < (0 : Int32) then (0 : Int32) else (if (255 : Int32) < p0 then (0 : Int32) else (1 : Int32))) := rfl
def Q10 (Z : State) (p0 : Int32) (h0 : Heap) (n0 : Nat) (rv_ : Option Value) (h : Heap) (LL_ : List Loc) : Prop := rv_ = some (.int (own_ce p0)) ∧ Fr n0 LL_ ∧ h = h0
set_option maxRecDepth 65536 in
set_option maxHeartbeats 40000000 in
theorem rm10 (l : Launch) (Z : State) (a0 : Array Value) (hw : ∀ d ∈ tables_1, d.before a0 Z = true) (ws : List Jvm.Cond) (p0 : Int32) (h0 : Heap) (n0 : Nat) :
    MetFree l (⟨"java/lang/StringLatin1", "canEncode", "(I)Z"⟩ : MethodName) (head1 (Jvm.Cond.code (⟨"java/lang/StringLatin1", "canEncode", "(I)Z"⟩ : MethodName) jdk_43_method_4_code 1 (some .boolean) :: ws) ({ frames := 0, cells := 0, slots := 0, locals := 0 } : Room)) (fun aa UU => aa = #[(.int p0)] ∧ Z.Warmed39 UU.vm ∧ UU.heap = h0) (fun _ _ _ _ _ => True) (fun _ UU oo UV => ∃ vv LL, oo = .returned vv ∧ Q10 Z p0 h0 n0 vv UV.heap LL ∧ FrameEnd UU oo UV LL ({ frames := 0, cells := 0, slots := 0, locals := 0 } : Room).cells ({ frames := 0, cells := 0, slots := 0, locals := 0 } : Room).slots) := by
  refine MetFree.of_bodySF (plainFor_of_name pn_10) hisR ?_
  intro p e s m args below meth c s₁ Bd hml0 hP hK
  obtain ⟨rfl, hZ, hh⟩ := hP
  have hx := Bd.exec
  have hby := Bd.bytes
  have hml : c.maxLocals = 1 := hml0
  have hown : s.vm.findClass "java/lang/StringLatin1" = some m.cls := findClass_of_methodNamed Bd.named
  have hnm := (name_of_methodNamed Bd.named Bd.method).1
  have X0 : Stand p l e ({ frames := 0, cells := 0, slots := 0, locals := 0 } : Room) s m #[(.int p0)] below meth c s₁ [] 0 0 := Stand.of_body Bd
  have e0 : s₁.heap = h0 := by rw [← hh, Bd.state]; rfl
  have N0 := Fr.nil n0
  have k0 : ∀ tg_, Steps p.tables e below (s₁.setTop (mkF m 0 #[.val (.int p0)] [])) tg_ → Steps p.tables e below (s₁.setTop (entryFrame m #[(.int p0)] 1)) tg_ := fun tg_ k => castTop (ef_10 m p0) k
  have k9 : ∀ tg_, Steps p.tables e below (s₁.setTop (mkF m 1 #[.val (.int p0)] [(.int p0)])) tg_ → Steps p.tables e below (s₁.setTop (entryFrame m #[(.int p0)] 1)) tg_ := by
    intro tg_ kt
    refine k0 tg_ ?_
    refine XS.iloadN X0.here hx rfl (hb hby d10_0) rfl ?_
    show Steps p.tables e below (s₁.setTop (mkF m 1 #[.val (.int p0)] [(.int p0)])) _
    exact kt
  by_cases hc1_10 : p0 < (0 : Int32)
  · have k11 : ∀ tg_, Steps p.tables e below (s₁.setTop (mkF m 16 #[.val (.int p0)] [(.int (0 : Int32))])) tg_ → Steps p.tables e below (s₁.setTop (entryFrame m #[(.int p0)] 1)) tg_ := by
      intro tg_ kt
      refine k9 tg_ ?_
      refine XS.ifYes X0.here hx rfl (pc0 := 1) (pc' := 15) rfl (hb hby d10_1) rfl ((if0 _ _).trans (tlt hc1_10).1) (by decide) (by decide) ?_
      show Steps p.tables e below (s₁.setTop (mkF m 15 #[.val (.int p0)] [])) _
      refine XS.iconst X0.here hx rfl (hb hby d10_15) ?_
      show Steps p.tables e below (s₁.setTop (mkF m 16 #[.val (.int p0)] [(.int (0 : Int32))])) _
      exact kt
    obtain ⟨fs, hr, hrun, hended, hW, hsame⟩ := X0.leave (v := some (.int (0 : Int32))) (fun h => by rw [Bd.returns] at h; cases h)
    refine ⟨_, _, k11 _ (retN X0 hx (t := .boolean) Bd.returns (by simp) (hb hby d10_16) hr), hrun, hended, _, _, rfl, ?_, ⟨_, rfl⟩, hW, hsame.mono (by decide) (by decide)⟩
    show Q10 Z p0 h0 n0 _ s₁.heap _
    rw [e0]
    exact ⟨(by rw [own_eq_own_ce]; rw [if_pos hc1_10]), N0, rfl⟩
  · have k12 : ∀ tg_, Steps p.tables e below (s₁.setTop (mkF m 8 #[.val (.int p0)] [(.int (255 : Int32)), (.int p0)])) tg_ → Steps p.tables e below (s₁.setTop (entryFrame m #[(.int p0)] 1)) tg_ := by
      intro tg_ kt
      refine k9 tg_ ?_
      refine XS.ifNo X0.here hx rfl (hb hby d10_1) rfl ((if0 _ _).trans (flt hc1_10).1) ?_
      show Steps p.tables e below (s₁.setTop (mkF m 4 #[.val (.int p0)] [])) _
      refine XS.iloadN X0.here hx rfl (hb hby d10_4) rfl ?_
      show Steps p.tables e below (s₁.setTop (mkF m 5 #[.val (.int p0)] [(.int p0)])) _
      refine XS.sipush X0.here hx rfl (hb hby d10_5) ?_
      show Steps p.tables e below (s₁.setTop (mkF m 8 #[.val (.int p0)] [(.int (255 : Int32)), (.int p0)])) _
      exact kt
    by_cases hc8_13 : (255 : Int32) < p0
    · have k14 : ∀ tg_, Steps p.tables e below (s₁.setTop (mkF m 16 #[.val (.int p0)] [(.int (0 : Int32))])) tg_ → Steps p.tables e below (s₁.setTop (entryFrame m #[(.int p0)] 1)) tg_ := by
        intro tg_ kt
        refine k12 tg_ ?_
        refine XS.icmpYes X0.here hx rfl (pc0 := 8) (pc' := 15) rfl (hb hby d10_8) rfl (tlt hc8_13).2.2.1 (by decide) (by decide) ?_
        show Steps p.tables e below (s₁.setTop (mkF m 15 #[.val (.int p0)] [])) _
        refine XS.iconst X0.here hx rfl (hb hby d10_15) ?_
        show Steps p.tables e below (s₁.setTop (mkF m 16 #[.val (.int p0)] [(.int (0 : Int32))])) _
        exact kt
      obtain ⟨fs, hr, hrun, hended, hW, hsame⟩ := X0.leave (v := some (.int (0 : Int32))) (fun h => by rw [Bd.returns] at h; cases h)
      refine ⟨_, _, k14 _ (retN X0 hx (t := .boolean) Bd.returns (by simp) (hb hby d10_16) hr), hrun, hended, _, _, rfl, ?_, ⟨_, rfl⟩, hW, hsame.mono (by decide) (by decide)⟩
      show Q10 Z p0 h0 n0 _ s₁.heap _
      rw [e0]
      exact ⟨(by rw [own_eq_own_ce]; rw [if_neg hc1_10, if_pos hc8_13]), N0, rfl⟩
    · have k15 : ∀ tg_, Steps p.tables e below (s₁.setTop (mkF m 16 #[.val (.int p0)] [(.int (1 : Int32))])) tg_ → Steps p.tables e below (s₁.setTop (entryFrame m #[(.int p0)] 1)) tg_ := by
        intro tg_ kt
        refine k12 tg_ ?_
        refine XS.icmpNo X0.here hx rfl (hb hby d10_8) rfl (flt hc8_13).2.2.1 ?_
        show Steps p.tables e below (s₁.setTop (mkF m 11 #[.val (.int p0)] [])) _
        refine XS.iconst X0.here hx rfl (hb hby d10_11) ?_
        show Steps p.tables e below (s₁.setTop (mkF m 12 #[.val (.int p0)] [(.int (1 : Int32))])) _
        refine XS.goto X0.here hx rfl (pc0 := 12) (pc' := 16) rfl (hb hby d10_12) (by decide) (by decide) ?_
        show Steps p.tables e below (s₁.setTop (mkF m 16 #[.val (.int p0)] [(.int (1 : Int32))])) _
        exact kt
      obtain ⟨fs, hr, hrun, hended, hW, hsame⟩ := X0.leave (v := some (.int (1 : Int32))) (fun h => by rw [Bd.returns] at h; cases h)
      refine ⟨_, _, k15 _ (retN X0 hx (t := .boolean) Bd.returns (by simp) (hb hby d10_16) hr), hrun, hended, _, _, rfl, ?_, ⟨_, rfl⟩, hW, hsame.mono (by decide) (by decide)⟩
      show Q10 Z p0 h0 n0 _ s₁.heap _
      rw [e0]
      exact ⟨(by rw [own_eq_own_ce]; rw [if_neg hc1_10, if_neg hc8_13]), N0, rfl⟩
theorem d8_0 : decode jdk_42_method_152_code 0 = .ok (.getstatic 38, 3) := by decide +kernel
theorem d8_3 : decode jdk_42_method_152_code 3 = .ok (.ifCond .eq 10, 3) := by decide +kernel
theorem d8_6 : decode jdk_42_method_152_code 6 = .ok (.aload_n 0, 1) := by decide +kernel
theorem d8_7 : decode jdk_42_method_152_code 7 = .ok (.getfield 15, 3) := by decide +kernel
theorem d8_10 : decode jdk_42_method_152_code 10 = .ok (.goto 4, 3) := by decide +kernel
theorem d8_14 : decode jdk_42_method_152_code 14 = .ok (.ireturn, 1) := by decide +kernel
theorem pn_8 : plainName "java/lang/String" = true := by first | (simp [plainName, overriddenIn]; done) | decide +kernel
theorem ef_8 (m : MethodId) (x0 : Addr) : entryFrame m #[(.ref x0)] 1 = mkF m 0 #[.val (.ref x0)] [] := by first | (simp [entryFrame, mkF, argsToLocals, Value.category]; done) | rfl
def Q8 (Z : State) (s0 : Addr) (zc : Int32) (h0 : Heap) (n0 : Nat) (rv_ : Option Value) (h : Heap) (LL_ : List Loc) : Prop := rv_ = some (.int (0 : Int32)) ∧ Fr n0 LL_ ∧ h = h0
set_option maxRecDepth 65536 in
set_option maxHeartbeats 40000000 in
theorem rm8 (l : Launch) (Z : State) (a0 : Array Value) (hw : ∀ d ∈ tables_1, d.before a0 Z = true) (ws : List Jvm.Cond) (s0 : Addr) (zc : Int32) (h0 : Heap) (n0 : Nat) (F_s0_coder : Fld Z h0 s0 "java/lang/String" "coder" "B" (.int (0 : Int32))) (S_COMPACT_STRINGS : Sta Z h0 "java/lang/String" "COMPACT_STRINGS" "Z" (.int zc)) (hz : ¬ zc = (0 : Int32)) :
    MetFree l (⟨"java/lang/String", "coder", "()B"⟩ : MethodName) (head1 (Jvm.Cond.code (⟨"java/lang/String", "coder", "()B"⟩ : MethodName) jdk_42_method_152_code 1 (some .byte) :: ws) ({ frames := 0, cells := 0, slots := 0, locals := 0 } : Room)) (fun aa UU => aa = #[(.ref s0)] ∧ Z.Warmed39 UU.vm ∧ UU.heap = h0) (fun _ _ _ _ _ => True) (fun _ UU oo UV => ∃ vv LL, oo = .returned vv ∧ Q8 Z s0 zc h0 n0 vv UV.heap LL ∧ FrameEnd UU oo UV LL ({ frames := 0, cells := 0, slots := 0, locals := 0 } : Room).cells ({ frames := 0, cells := 0, slots := 0, locals := 0 } : Room).slots) := by
  refine MetFree.of_bodySF (plainFor_of_name pn_8) hisR ?_
  intro p e s m args below meth c s₁ Bd hml0 hP hK
  obtain ⟨rfl, hZ, hh⟩ := hP
  have hx := Bd.exec
  have hby := Bd.bytes
  have hml : c.maxLocals = 1 := hml0
  have hown : s.vm.findClass "java/lang/String" = some m.cls := findClass_of_methodNamed Bd.named
  have hnm := (name_of_methodNamed Bd.named Bd.method).1
  have X0 : Stand p l e ({ frames := 0, cells := 0, slots := 0, locals := 0 } : Room) s m #[(.ref s0)] below meth c s₁ [] 0 0 := Stand.of_body Bd
  have e0 : s₁.heap = h0 := by rw [← hh, Bd.state]; rfl
  have N0 := Fr.nil n0
  have k0 : ∀ tg_, Steps p.tables e below (s₁.setTop (mkF m 0 #[.val (.ref s0)] [])) tg_ → Steps p.tables e below (s₁.setTop (entryFrame m #[(.ref s0)] 1)) tg_ := fun tg_ k => castTop (ef_8 m s0) k
  obtain ⟨T16, X16, e16, st16⟩ := getS2 X0 hx hZ hown (host := "") (Or.inl (hw _ (List.mem_of_getElem? (i := 36) rfl))) Via.refl e0 S_COMPACT_STRINGS (g := (mkF m 0 #[.val (.ref s0)] [])) rfl (hb hby d8_0)
  have hc3_17 : ¬ (zc = (0 : Int32)) := hz
  obtain ⟨T18, X18, e18, st18⟩ := getF X16 hx hZ hown (host := "") (Or.inl (hw _ (List.mem_of_getElem? (i := 37) rfl))) Via.refl e16 F_s0_coder (g := (mkF m 7 #[.val (.ref s0)] [(.ref s0)])) rfl rfl (hb hby d8_7)
  have k19 : ∀ tg_, Steps p.tables e below (T18.setTop (mkF m 14 #[.val (.ref s0)] [(.int (0 : Int32))])) tg_ → Steps p.tables e below (s₁.setTop (entryFrame m #[(.ref s0)] 1)) tg_ := by
    intro tg_ kt
    refine k0 tg_ ?_
    refine st16 _ ?_
    show Steps p.tables e below (T16.setTop (mkF m 3 #[.val (.ref s0)] [(.int zc)])) _
    refine XS.ifNo X16.here hx rfl (hb hby d8_3) rfl ((if0 _ _).trans (feq hc3_17).1) ?_
    show Steps p.tables e below (T16.setTop (mkF m 6 #[.val (.ref s0)] [])) _
    refine XS.aloadN X16.here hx rfl (hb hby d8_6) rfl rfl ?_
    show Steps p.tables e below (T16.setTop (mkF m 7 #[.val (.ref s0)] [(.ref s0)])) _
    refine st18 _ ?_
    show Steps p.tables e below (T18.setTop (mkF m 10 #[.val (.ref s0)] [(.int (0 : Int32))])) _
    refine XS.goto X18.here hx rfl (pc0 := 10) (pc' := 14) rfl (hb hby d8_10) (by decide) (by decide) ?_
    show Steps p.tables e below (T18.setTop (mkF m 14 #[.val (.ref s0)] [(.int (0 : Int32))])) _
    exact kt
  obtain ⟨fs, hr, hrun, hended, hW, hsame⟩ := X18.leave (v := some (.int (0 : Int32))) (fun h => by rw [Bd.returns] at h; cases h)
  refine ⟨_, _, k19 _ (retN X18 hx (t := .byte) Bd.returns (by simp) (hb hby d8_14) hr), hrun, hended, _, _, rfl, ?_, ⟨_, rfl⟩, hW, hsame.mono (by decide) (by decide)⟩
  show Q8 Z s0 zc h0 n0 _ T18.heap _
  rw [e18]
  exact ⟨rfl, N0, rfl⟩
theorem d6_0 : decode jdk_42_method_154_code 0 = .ok (.getstatic 38, 3) := by decide +kernel
theorem d6_3 : decode jdk_42_method_154_code 3 = .ok (.ifCond .eq 14, 3) := by decide +kernel
theorem d6_6 : decode jdk_42_method_154_code 6 = .ok (.aload_n 0, 1) := by decide +kernel
theorem d6_7 : decode jdk_42_method_154_code 7 = .ok (.getfield 15, 3) := by decide +kernel
theorem d6_10 : decode jdk_42_method_154_code 10 = .ok (.ifCond .ne 7, 3) := by decide +kernel
theorem d6_13 : decode jdk_42_method_154_code 13 = .ok (.iconst 1, 1) := by decide +kernel
theorem d6_14 : decode jdk_42_method_154_code 14 = .ok (.goto 4, 3) := by decide +kernel
theorem d6_18 : decode jdk_42_method_154_code 18 = .ok (.ireturn, 1) := by decide +kernel
theorem pn_6 : plainName "java/lang/String" = true := by first | (simp [plainName, overriddenIn]; done) | decide +kernel
theorem ef_6 (m : MethodId) (x0 : Addr) : entryFrame m #[(.ref x0)] 1 = mkF m 0 #[.val (.ref x0)] [] := by first | (simp [entryFrame, mkF, argsToLocals, Value.category]; done) | rfl
def Q6 (Z : State) (s0 : Addr) (zc : Int32) (h0 : Heap) (n0 : Nat) (rv_ : Option Value) (h : Heap) (LL_ : List Loc) : Prop := rv_ = some (.int (1 : Int32)) ∧ Fr n0 LL_ ∧ h = h0
set_option maxRecDepth 65536 in
set_option maxHeartbeats 40000000 in
theorem rm6 (l : Launch) (Z : State) (a0 : Array Value) (hw : ∀ d ∈ tables_1, d.before a0 Z = true) (ws : List Jvm.Cond) (s0 : Addr) (zc : Int32) (h0 : Heap) (n0 : Nat) (F_s0_coder : Fld Z h0 s0 "java/lang/String" "coder" "B" (.int (0 : Int32))) (S_COMPACT_STRINGS : Sta Z h0 "java/lang/String" "COMPACT_STRINGS" "Z" (.int zc)) (hz : ¬ zc = (0 : Int32)) :
    MetFree l (⟨"java/lang/String", "isLatin1", "()Z"⟩ : MethodName) (head1 (Jvm.Cond.code (⟨"java/lang/String", "isLatin1", "()Z"⟩ : MethodName) jdk_42_method_154_code 1 (some .boolean) :: ws) ({ frames := 0, cells := 0, slots := 0, locals := 0 } : Room)) (fun aa UU => aa = #[(.ref s0)] ∧ Z.Warmed39 UU.vm ∧ UU.heap = h0) (fun _ _ _ _ _ => True) (fun _ UU oo UV => ∃ vv LL, oo = .returned vv ∧ Q6 Z s0 zc h0 n0 vv UV.heap LL ∧ FrameEnd UU oo UV LL ({ frames := 0, cells := 0, slots := 0, locals := 0 } : Room).cells ({ frames := 0, cells := 0, slots := 0, locals := 0 } : Room).slots) := by
  refine MetFree.of_bodySF (plainFor_of_name pn_6) hisR ?_
  intro p e s m args below meth c s₁ Bd hml0 hP hK
  obtain ⟨rfl, hZ, hh⟩ := hP
  have hx := Bd.exec
  have hby := Bd.bytes
  have hml : c.maxLocals = 1 := hml0
  have hown : s.vm.findClass "java/lang/String" = some m.cls := findClass_of_methodNamed Bd.named
  have hnm := (name_of_methodNamed Bd.named Bd.method).1
  have X0 : Stand p l e ({ frames := 0, cells := 0, slots := 0, locals := 0 } : Room) s m #[(.ref s0)] below meth c s₁ [] 0 0 := Stand.of_body Bd
  have e0 : s₁.heap = h0 := by rw [← hh, Bd.state]; rfl
  have N0 := Fr.nil n0
  have k0 : ∀ tg_, Steps p.tables e below (s₁.setTop (mkF m 0 #[.val (.ref s0)] [])) tg_ → Steps p.tables e below (s₁.setTop (entryFrame m #[(.ref s0)] 1)) tg_ := fun tg_ k => castTop (ef_6 m s0) k
  obtain ⟨T20, X20, e20, st20⟩ := getS2 X0 hx hZ hown (host := "") (Or.inl (hw _ (List.mem_of_getElem? (i := 36) rfl))) Via.refl e0 S_COMPACT_STRINGS (g := (mkF m 0 #[.val (.ref s0)] [])) rfl (hb hby d6_0)
  have hc3_21 : ¬ (zc = (0 : Int32)) := hz
  obtain ⟨T22, X22, e22, st22⟩ := getF X20 hx hZ hown (host := "") (Or.inl (hw _ (List.mem_of_getElem? (i := 37) rfl))) Via.refl e20 F_s0_coder (g := (mkF m 7 #[.val (.ref s0)] [(.ref s0)])) rfl rfl (hb hby d6_7)
  have k23 : ∀ tg_, Steps p.tables e below (T22.setTop (mkF m 18 #[.val (.ref s0)] [(.int (1 : Int32))])) tg_ → Steps p.tables e below (s₁.setTop (entryFrame m #[(.ref s0)] 1)) tg_ := by
    intro tg_ kt
    refine k0 tg_ ?_
    refine st20 _ ?_
    show Steps p.tables e below (T20.setTop (mkF m 3 #[.val (.ref s0)] [(.int zc)])) _
    refine XS.ifNo X20.here hx rfl (hb hby d6_3) rfl ((if0 _ _).trans (feq hc3_21).1) ?_
    show Steps p.tables e below (T20.setTop (mkF m 6 #[.val (.ref s0)] [])) _
    refine XS.aloadN X20.here hx rfl (hb hby d6_6) rfl rfl ?_
    show Steps p.tables e below (T20.setTop (mkF m 7 #[.val (.ref s0)] [(.ref s0)])) _
    refine st22 _ ?_
    show Steps p.tables e below (T22.setTop (mkF m 10 #[.val (.ref s0)] [(.int (0 : Int32))])) _
    refine XS.ifNo X22.here hx rfl (hb hby d6_10) rfl ((if0 _ _).trans (teq (by decide : (0 : Int32) = (0 : Int32))).2) ?_
    show Steps p.tables e below (T22.setTop (mkF m 13 #[.val (.ref s0)] [])) _
    refine XS.iconst X22.here hx rfl (hb hby d6_13) ?_
    show Steps p.tables e below (T22.setTop (mkF m 14 #[.val (.ref s0)] [(.int (1 : Int32))])) _
    refine XS.goto X22.here hx rfl (pc0 := 14) (pc' := 18) rfl (hb hby d6_14) (by decide) (by decide) ?_
    show Steps p.tables e below (T22.setTop (mkF m 18 #[.val (.ref s0)] [(.int (1 : Int32))])) _
    exact kt
  obtain ⟨fs, hr, hrun, hended, hW, hsame⟩ := X22.leave (v := some (.int (1 : Int32))) (fun h => by rw [Bd.returns] at h; cases h)
  refine ⟨_, _, k23 _ (retN X22 hx (t := .boolean) Bd.returns (by simp) (hb hby d6_18) hr), hrun, hended, _, _, rfl, ?_, ⟨_, rfl⟩, hW, hsame.mono (by decide) (by decide)⟩
  show Q6 Z s0 zc h0 n0 _ T22.heap _
  rw [e22]
  exact ⟨rfl, N0, rfl⟩
theorem pd_7 : parseMethodDescriptor "()B" = some ⟨[], some .byte⟩ := by decide +kernel
theorem d7_0 : decode jdk_42_method_54_code 0 = .ok (.aload_n 0, 1) := by decide +kernel
theorem d7_1 : decode jdk_42_method_54_code 1 = .ok (.getfield 9, 3) := by decide +kernel
theorem d7_4 : decode jdk_42_method_54_code 4 = .ok (.arraylength, 1) := by decide +kernel
theorem d7_5 : decode jdk_42_method_54_code 5 = .ok (.aload_n 0, 1) := by decide +kernel
theorem d7_6 : decode jdk_42_method_54_code 6 = .ok (.invokevirtual 335, 3) := by decide +kernel
theorem d7_9 : decode jdk_42_method_54_code 9 = .ok (.ishr, 1) := by decide +kernel
theorem d7_10 : decode jdk_42_method_54_code 10 = .ok (.ireturn, 1) := by decide +kernel
theorem pn_7 : plainName "java/lang/String" = true := by first | (simp [plainName, overriddenIn]; done) | decide +kernel
theorem ef_len_0 (m : MethodId) (x0 : Addr) : entryFrame m #[(.ref x0)] 1 = mkF m 0 #[.val (.ref x0)] [] := by first | (simp [entryFrame, mkF, argsToLocals, Value.category]; done) | rfl
def Qlen_0 (Z : State) (s0 : Addr) (zc : Int32) (va : Addr) (f : Nat → Int32) (h0 : Heap) (n0 : Nat) (rv_ : Option Value) (h : Heap) (LL_ : List Loc) : Prop := rv_ = some (.int (0 : Int32)) ∧ Fr n0 LL_ ∧ h = h0
set_option maxRecDepth 65536 in
set_option maxHeartbeats 40000000 in
theorem rmlen_0 (l : Launch) (Z : State) (a0 : Array Value) (hw : ∀ d ∈ tables_1, d.before a0 Z = true) (ws : List Jvm.Cond) (s0 : Addr) (zc : Int32) (va : Addr) (f : Nat → Int32) (h0 : Heap) (n0 : Nat) (E_s0 : Exa Z h0 s0 "java/lang/String") (F_s0_value : Fld Z h0 s0 "java/lang/String" "value" "[B" (.ref va)) (F_s0_coder : Fld Z h0 s0 "java/lang/String" "coder" "B" (.int (0 : Int32))) (V_va : own_AI Z h0 va .byte 0 f) (S_COMPACT_STRINGS : Sta Z h0 "java/lang/String" "COMPACT_STRINGS" "Z" (.int zc)) (hz : ¬ zc = (0 : Int32)) :
    MetFree l (⟨"java/lang/String", "length", "()I"⟩ : MethodName) (head1 (Jvm.Cond.code (⟨"java/lang/String", "length", "()I"⟩ : MethodName) jdk_42_method_54_code 1 (some .int) :: ws) ({ frames := 1, cells := 0, slots := 0, locals := 13 } : Room)) (fun aa UU => aa = #[(.ref s0)] ∧ Z.Warmed39 UU.vm ∧ UU.heap = h0) (fun _ _ _ _ _ => True) (fun _ UU oo UV => ∃ vv LL, oo = .returned vv ∧ Qlen_0 Z s0 zc va f h0 n0 vv UV.heap LL ∧ FrameEnd UU oo UV LL ({ frames := 1, cells := 0, slots := 0, locals := 13 } : Room).cells ({ frames := 1, cells := 0, slots := 0, locals := 13 } : Room).slots) := by
  refine MetFree.of_bodySF (plainFor_of_name pn_7) hisR ?_
  intro p e s m args below meth c s₁ Bd hml0 hP hK
  obtain ⟨rfl, hZ, hh⟩ := hP
  have hx := Bd.exec
  have hby := Bd.bytes
  have hml : c.maxLocals = 1 := hml0
  have hown : s.vm.findClass "java/lang/String" = some m.cls := findClass_of_methodNamed Bd.named
  have hnm := (name_of_methodNamed Bd.named Bd.method).1
  have X0 : Stand p l e ({ frames := 1, cells := 0, slots := 0, locals := 13 } : Room) s m #[(.ref s0)] below meth c s₁ [] 0 0 := Stand.of_body Bd
  have e0 : s₁.heap = h0 := by rw [← hh, Bd.state]; rfl
  have N0 := Fr.nil n0
  have k0 : ∀ tg_, Steps p.tables e below (s₁.setTop (mkF m 0 #[.val (.ref s0)] [])) tg_ → Steps p.tables e below (s₁.setTop (entryFrame m #[(.ref s0)] 1)) tg_ := fun tg_ k => castTop (ef_len_0 m s0) k
  obtain ⟨T24, X24, e24, st24⟩ := getF X0 hx hZ hown (host := "") (Or.inl (hw _ (List.mem_of_getElem? (i := 39) rfl))) Via.refl e0 F_s0_value (g := (mkF m 1 #[.val (.ref s0)] [(.ref s0)])) rfl rfl (hb hby d7_1)
  obtain ⟨cq25, kq25, q25a, q25b, q25c⟩ := isOf hZ e24 E_s0
  obtain ⟨_, _, ⟨T25, L25, kc25, nc25⟩, -, X25, ⟨Lc25, hQ25, l25, y25, z25⟩, st25⟩ := X24.virtualBack hx (y := (⟨"java/lang/String", "coder", "()B"⟩ : MethodName)) (z := (⟨"java/lang/String", "coder", "()B"⟩ : MethodName)) hown (mvT hZ (hw _ (List.mem_of_getElem? (i := 46) rfl))) (mvT hZ (hw _ (List.mem_of_getElem? (i := 47) rfl))) (notFace_of_selects (args := #[]) (mvT hZ (hw _ (List.mem_of_getElem? (i := 49) rfl)))) (mvT hZ (hw _ (List.mem_of_getElem? (i := 49) rfl))) (mvT hZ (hw _ (List.mem_of_getElem? (i := 48) rfl))) (by decide) (backOf (W := 1) (rm8 l Z a0 hw [] s0 zc h0 n0 F_s0_coder S_COMPACT_STRINGS hz) hZ (hw _ (List.mem_of_getElem? (i := 50) rfl)) (hw _ (List.mem_of_getElem? (i := 24) rfl)) (by decide) (by decide)) q25a q25c (g := (mkF m 6 #[.val (.ref s0)] [(.ref s0), (.int (0 : Int32))])) rfl (by rw [hml]; rfl) (Steps.refl _) (argsL := []) (rest := [(.int (0 : Int32))]) (lenOf pd_7 rfl) rfl (by show 2 * 0 + _ ≤ _; exact Nat.le_of_eq rfl) (hb hby d7_6) (fun _ _ => ⟨rfl, e24, (by decide : 0 + 0 ≤ _), (by decide : 0 + 0 ≤ _)⟩)
  dsimp only [Pt.U, Pt.locs, Pt.cells, Pt.slots] at X25 l25 y25 z25 st25 hQ25
  rw [l25, y25, z25] at X25
  replace X25 : Stand p l e ({ frames := 1, cells := 0, slots := 0, locals := 13 } : Room) s m #[(.ref s0)] below meth c T25 _ 0 0 := X25
  obtain ⟨rfl, Nq25, eq25⟩ := hQ25
  have N25 := Fr.app N0 Nq25
  have k26 : ∀ tg_, Steps p.tables e below (T25.setTop (mkF m 10 #[.val (.ref s0)] [(.int ((0 : Int32) >>> ((0 : Int32) &&& 31)))])) tg_ → Steps p.tables e below (s₁.setTop (entryFrame m #[(.ref s0)] 1)) tg_ := by
    intro tg_ kt
    refine k0 tg_ ?_
    refine XS.aloadN X0.here hx rfl (hb hby d7_0) rfl rfl ?_
    show Steps p.tables e below (s₁.setTop (mkF m 1 #[.val (.ref s0)] [(.ref s0)])) _
    refine st24 _ ?_
    show Steps p.tables e below (T24.setTop (mkF m 4 #[.val (.ref s0)] [(.ref va)])) _
    refine own_len X24 hx hZ e24 V_va (z := (0 : Int32)) (by decide) (g := (mkF m 4 #[.val (.ref s0)] [(.ref va)])) rfl rfl (hb hby d7_4) _ ?_
    show Steps p.tables e below (T24.setTop (mkF m 5 #[.val (.ref s0)] [(.int (0 : Int32))])) _
    refine XS.aloadN X24.here hx rfl (hb hby d7_5) rfl rfl ?_
    show Steps p.tables e below (T24.setTop (mkF m 6 #[.val (.ref s0)] [(.ref s0), (.int (0 : Int32))])) _
    refine st25.trans ?_
    show Steps p.tables e below (T25.setTop (mkF m 9 #[.val (.ref s0)] [(.int (0 : Int32)), (.int (0 : Int32))])) _
    refine XS.ishr X25.here hx rfl (hb hby d7_9) rfl ?_
    show Steps p.tables e below (T25.setTop (mkF m 10 #[.val (.ref s0)] [(.int ((0 : Int32) >>> ((0 : Int32) &&& 31)))])) _
    exact kt
  obtain ⟨fs, hr, hrun, hended, hW, hsame⟩ := X25.leave (v := some (.int ((0 : Int32) >>> ((0 : Int32) &&& 31)))) (fun h => by rw [Bd.returns] at h; cases h)
  refine ⟨_, _, k26 _ (retI X25 hx Bd.returns (hb hby d7_10) hr), hrun, hended, _, _, rfl, ?_, ⟨_, rfl⟩, hW, hsame.mono (by decide) (by decide)⟩
  show Qlen_0 Z s0 zc va f h0 n0 _ T25.heap _
  rw [eq25]
  exact ⟨rfl, N25, rfl⟩
theorem pd_9 : parseMethodDescriptor "(I)Z" = some ⟨[.int], some .boolean⟩ := by decide +kernel
theorem pd_4 : parseMethodDescriptor "(II)I" = some ⟨[.int, .int], some .int⟩ := by decide +kernel
theorem d9_0 : decode jdk_43_method_22_code 0 = .ok (.iload_n 1, 1) := by decide +kernel
theorem d9_1 : decode jdk_43_method_22_code 1 = .ok (.invokestatic 88, 3) := by decide +kernel
theorem d9_4 : decode jdk_43_method_22_code 4 = .ok (.ifCond .ne 5, 3) := by decide +kernel
theorem d9_7 : decode jdk_43_method_22_code 7 = .ok (.iconst (-1), 1) := by decide +kernel
theorem d9_8 : decode jdk_43_method_22_code 8 = .ok (.ireturn, 1) := by decide +kernel
theorem d9_9 : decode jdk_43_method_22_code 9 = .ok (.iload_n 2, 1) := by decide +kernel
theorem d9_10 : decode jdk_43_method_22_code 10 = .ok (.iconst 0, 1) := by decide +kernel
theorem d9_11 : decode jdk_43_method_22_code 11 = .ok (.invokestatic 92, 3) := by decide +kernel
theorem d9_14 : decode jdk_43_method_22_code 14 = .ok (.istore_n 2, 1) := by decide +kernel
theorem d9_15 : decode jdk_43_method_22_code 15 = .ok (.iload_n 3, 1) := by decide +kernel
theorem d9_16 : decode jdk_43_method_22_code 16 = .ok (.aload_n 0, 1) := by decide +kernel
theorem d9_17 : decode jdk_43_method_22_code 17 = .ok (.arraylength, 1) := by decide +kernel
theorem d9_18 : decode jdk_43_method_22_code 18 = .ok (.invokestatic 38, 3) := by decide +kernel
theorem d9_21 : decode jdk_43_method_22_code 21 = .ok (.istore_n 3, 1) := by decide +kernel
theorem d9_22 : decode jdk_43_method_22_code 22 = .ok (.iload_n 2, 1) := by decide +kernel
theorem d9_23 : decode jdk_43_method_22_code 23 = .ok (.iload_n 3, 1) := by decide +kernel
theorem d9_24 : decode jdk_43_method_22_code 24 = .ok (.if_icmp .lt 5, 3) := by decide +kernel
theorem d9_27 : decode jdk_43_method_22_code 27 = .ok (.iconst (-1), 1) := by decide +kernel
theorem d9_28 : decode jdk_43_method_22_code 28 = .ok (.ireturn, 1) := by decide +kernel
theorem pn_9 : plainName "java/lang/StringLatin1" = true := by first | (simp [plainName, overriddenIn]; done) | decide +kernel
theorem ef_io_0 (m : MethodId) (x0 : Addr) (x1 : Int32) (x2 : Int32) (x3 : Int32) : entryFrame m #[(.ref x0), (.int x1), (.int x2), (.int x3)] 4 = mkF m 0 #[.val (.ref x0), .val (.int x1), .val (.int x2), .val (.int x3)] [] := by first | (simp [entryFrame, mkF, argsToLocals, Value.category]; done) | rfl
def own_io_0 (ch : Int32) (fr : Int32) (to_ : Int32) : Int32 := (if (own_ce ch) = (0 : Int32) then (-1 : Int32) else (-1 : Int32))
theorem own_eq_own_io_0 (ch : Int32) (fr : Int32) (to_ : Int32) : own_io_0 ch fr to_ = (if (own_ce ch) = (0 : Int32) then (-1 : Int32) else (-1 : Int32)) := rfl
def Qio_0 (Z : State) (va : Addr) (ch : Int32) (fr : Int32) (to_ : Int32) (f : Nat → Int32) (h0 : Heap) (n0 : Nat) (rv_ : Option Value) (h : Heap) (LL_ : List Loc) : Prop := rv_ = some (.int (own_io_0 ch fr to_)) ∧ Fr n0 LL_ ∧ h = h0
set_option maxRecDepth 65536 in
set_option maxHeartbeats 40000000 in
theorem rmio_0 (l : Launch) (Z : State) (a0 : Array Value) (hw : ∀ d ∈ tables_1, d.before a0 Z = true) (ws : List Jvm.Cond) (va : Addr) (ch : Int32) (fr : Int32) (to_ : Int32) (f : Nat → Int32) (h0 : Heap) (n0 : Nat) (V_va : own_AI Z h0 va .byte 0 f) (hfr : fr = (0 : Int32)) (hto : to_ = (0 : Int32)) :
    MetFree l (⟨"java/lang/StringLatin1", "indexOf", "([BIII)I"⟩ : MethodName) (head1 (Jvm.Cond.code (⟨"java/lang/StringLatin1", "indexOf", "([BIII)I"⟩ : MethodName) jdk_43_method_22_code 4 (some .int) :: ws) ({ frames := 1, cells := 0, slots := 0, locals := 13 } : Room)) (fun aa UU => aa = #[(.ref va), (.int ch), (.int fr), (.int to_)] ∧ Z.Warmed39 UU.vm ∧ UU.heap = h0) (fun _ _ _ _ _ => True) (fun _ UU oo UV => ∃ vv LL, oo = .returned vv ∧ Qio_0 Z va ch fr to_ f h0 n0 vv UV.heap LL ∧ FrameEnd UU oo UV LL ({ frames := 1, cells := 0, slots := 0, locals := 13 } : Room).cells ({ frames := 1, cells := 0, slots := 0, locals := 13 } : Room).slots) := by
  refine MetFree.of_bodySF (plainFor_of_name pn_9) hisR ?_
  intro p e s m args below meth c s₁ Bd hml0 hP hK
  obtain ⟨rfl, hZ, hh⟩ := hP
  have hx := Bd.exec
  have hby := Bd.bytes
  have hml : c.maxLocals = 4 := hml0
  have hown : s.vm.findClass "java/lang/StringLatin1" = some m.cls := findClass_of_methodNamed Bd.named
  have hnm := (name_of_methodNamed Bd.named Bd.method).1
  have X0 : Stand p l e ({ frames := 1, cells := 0, slots := 0, locals := 13 } : Room) s m #[(.ref va), (.int ch), (.int fr), (.int to_)] below meth c s₁ [] 0 0 := Stand.of_body Bd
  have e0 : s₁.heap = h0 := by rw [← hh, Bd.state]; rfl
  have N0 := Fr.nil n0
  have k0 : ∀ tg_, Steps p.tables e below (s₁.setTop (mkF m 0 #[.val (.ref va), .val (.int ch), .val (.int fr), .val (.int to_)] [])) tg_ → Steps p.tables e below (s₁.setTop (entryFrame m #[(.ref va), (.int ch), (.int fr), (.int to_)] 4)) tg_ := fun tg_ k => castTop (ef_io_0 m va ch fr to_) k
  obtain ⟨_, _, ⟨T27, L27, kc27, nc27⟩, -, X27, ⟨Lc27, hQ27, l27, y27, z27⟩, st27⟩ := Jvm.LawKit.callS X0 hx (y := (⟨"java/lang/StringLatin1", "canEncode", "(I)Z"⟩ : MethodName)) hown (mvT hZ (hw _ (List.mem_of_getElem? (i := 55) rfl))) (mvT hZ (hw _ (List.mem_of_getElem? (i := 56) rfl))) (mvT hZ (hw _ (List.mem_of_getElem? (i := 53) rfl))) (mvT hZ (hw _ (List.mem_of_getElem? (i := 57) rfl))) (by decide) (backOf (W := 0) (rm10 l Z a0 hw [] ch h0 n0 ) hZ (hw _ (List.mem_of_getElem? (i := 57) rfl)) (hw _ (List.mem_of_getElem? (i := 53) rfl)) (by decide) (by decide)) (g := (mkF m 1 #[.val (.ref va), .val (.int ch), .val (.int fr), .val (.int to_)] [(.int ch)])) rfl (by rw [hml]; rfl) (argsL := [(.int ch)]) (rest := []) (lenOf pd_9 rfl) rfl (by show 2 * 0 + _ ≤ _; exact Nat.le_of_eq rfl) (hb hby d9_1) (fun _ _ => ⟨rfl, e0, (by decide : 0 + 0 ≤ _), (by decide : 0 + 0 ≤ _)⟩)
  dsimp only [Pt.U, Pt.locs, Pt.cells, Pt.slots] at X27 l27 y27 z27 st27 hQ27
  rw [l27, y27, z27] at X27
  replace X27 : Stand p l e ({ frames := 1, cells := 0, slots := 0, locals := 13 } : Room) s m #[(.ref va), (.int ch), (.int fr), (.int to_)] below meth c T27 _ 0 0 := X27
  obtain ⟨rfl, Nq27, eq27⟩ := hQ27
  have N27 := Fr.app N0 Nq27
  have k28 : ∀ tg_, Steps p.tables e below (T27.setTop (mkF m 4 #[.val (.ref va), .val (.int ch), .val (.int fr), .val (.int to_)] [(.int (own_ce ch))])) tg_ → Steps p.tables e below (s₁.setTop (entryFrame m #[(.ref va), (.int ch), (.int fr), (.int to_)] 4)) tg_ := by
    intro tg_ kt
    refine k0 tg_ ?_
    refine XS.iloadN X0.here hx rfl (hb hby d9_0) rfl ?_
    show Steps p.tables e below (s₁.setTop (mkF m 1 #[.val (.ref va), .val (.int ch), .val (.int fr), .val (.int to_)] [(.int ch)])) _
    refine st27 _ ?_
    show Steps p.tables e below (T27.setTop (mkF m 4 #[.val (.ref va), .val (.int ch), .val (.int fr), .val (.int to_)] [(.int (own_ce ch))])) _
    exact kt
  by_cases hc4_29 : (own_ce ch) = (0 : Int32)
  · have k30 : ∀ tg_, Steps p.tables e below (T27.setTop (mkF m 8 #[.val (.ref va), .val (.int ch), .val (.int fr), .val (.int to_)] [(.int (-1 : Int32))])) tg_ → Steps p.tables e below (s₁.setTop (entryFrame m #[(.ref va), (.int ch), (.int fr), (.int to_)] 4)) tg_ := by
      intro tg_ kt
      refine k28 tg_ ?_
      refine XS.ifNo X27.here hx rfl (hb hby d9_4) rfl ((if0 _ _).trans (teq hc4_29).2) ?_
      show Steps p.tables e below (T27.setTop (mkF m 7 #[.val (.ref va), .val (.int ch), .val (.int fr), .val (.int to_)] [])) _
      refine XS.iconst X27.here hx rfl (hb hby d9_7) ?_
      show Steps p.tables e below (T27.setTop (mkF m 8 #[.val (.ref va), .val (.int ch), .val (.int fr), .val (.int to_)] [(.int (-1 : Int32))])) _
      exact kt
    obtain ⟨fs, hr, hrun, hended, hW, hsame⟩ := X27.leave (v := some (.int (-1 : Int32))) (fun h => by rw [Bd.returns] at h; cases h)
    refine ⟨_, _, k30 _ (retI X27 hx Bd.returns (hb hby d9_8) hr), hrun, hended, _, _, rfl, ?_, ⟨_, rfl⟩, hW, hsame.mono (by decide) (by decide)⟩
    show Qio_0 Z va ch fr to_ f h0 n0 _ T27.heap _
    rw [eq27]
    exact ⟨(by rw [own_eq_own_io_0]; rw [if_pos hc4_29]), N27, rfl⟩
  · obtain ⟨_, _, ⟨T31, L31, kc31, nc31⟩, -, X31, ⟨Lc31, hQ31, l31, y31, z31⟩, st31⟩ := Jvm.LawKit.callS X27 hx (y := (⟨"java/lang/Math", "max", "(II)I"⟩ : MethodName)) hown (mvT hZ (hw _ (List.mem_of_getElem? (i := 58) rfl))) (mvT hZ (hw _ (List.mem_of_getElem? (i := 59) rfl))) (mvT hZ (hw _ (List.mem_of_getElem? (i := 60) rfl))) (mvT hZ (hw _ (List.mem_of_getElem? (i := 61) rfl))) (by decide) (backOf (W := 0) (rm11 l Z a0 hw [] fr (0 : Int32) h0 n0 ) hZ (hw _ (List.mem_of_getElem? (i := 61) rfl)) (hw _ (List.mem_of_getElem? (i := 60) rfl)) (by decide) (by decide)) (g := (mkF m 11 #[.val (.ref va), .val (.int ch), .val (.int fr), .val (.int to_)] [(.int (0 : Int32)), (.int fr)])) rfl (by rw [hml]; rfl) (argsL := [(.int fr), (.int (0 : Int32))]) (rest := []) (lenOf pd_4 rfl) rfl (by show 2 * 0 + _ ≤ _; exact Nat.le_of_eq rfl) (hb hby d9_11) (fun _ _ => ⟨rfl, eq27, (by decide : 0 + 0 ≤ _), (by decide : 0 + 0 ≤ _)⟩)
    dsimp only [Pt.U, Pt.locs, Pt.cells, Pt.slots] at X31 l31 y31 z31 st31 hQ31
    rw [l31, y31, z31] at X31
    replace X31 : Stand p l e ({ frames := 1, cells := 0, slots := 0, locals := 13 } : Room) s m #[(.ref va), (.int ch), (.int fr), (.int to_)] below meth c T31 _ 0 0 := X31
    obtain ⟨rfl, Nq31, eq31⟩ := hQ31
    have N31 := Fr.app N27 Nq31
    obtain ⟨_, _, ⟨T32, L32, kc32, nc32⟩, -, X32, ⟨Lc32, hQ32, l32, y32, z32⟩, st32⟩ := Jvm.LawKit.callS X31 hx (y := (⟨"java/lang/Math", "min", "(II)I"⟩ : MethodName)) hown (mvT hZ (hw _ (List.mem_of_getElem? (i := 62) rfl))) (mvT hZ (hw _ (List.mem_of_getElem? (i := 63) rfl))) (mvT hZ (hw _ (List.mem_of_getElem? (i := 60) rfl))) (mvT hZ (hw _ (List.mem_of_getElem? (i := 64) rfl))) (by decide) (backOf (W := 0) (rm12 l Z a0 hw [] to_ (0 : Int32) h0 n0 ) hZ (hw _ (List.mem_of_getElem? (i := 64) rfl)) (hw _ (List.mem_of_getElem? (i := 60) rfl)) (by decide) (by decide)) (g := (mkF m 18 #[.val (.ref va), .val (.int ch), .val (.int (own_max fr (0 : Int32))), .val (.int to_)] [(.int (0 : Int32)), (.int to_)])) rfl (by rw [hml]; rfl) (argsL := [(.int to_), (.int (0 : Int32))]) (rest := []) (lenOf pd_4 rfl) rfl (by show 2 * 0 + _ ≤ _; exact Nat.le_of_eq rfl) (hb hby d9_18) (fun _ _ => ⟨rfl, eq31, (by decide : 0 + 0 ≤ _), (by decide : 0 + 0 ≤ _)⟩)
    dsimp only [Pt.U, Pt.locs, Pt.cells, Pt.slots] at X32 l32 y32 z32 st32 hQ32
    rw [l32, y32, z32] at X32
    replace X32 : Stand p l e ({ frames := 1, cells := 0, slots := 0, locals := 13 } : Room) s m #[(.ref va), (.int ch), (.int fr), (.int to_)] below meth c T32 _ 0 0 := X32
    obtain ⟨rfl, Nq32, eq32⟩ := hQ32
    have N32 := Fr.app N31 Nq32
    have hc24_33 : ¬ ((own_max fr (0 : Int32)) < (own_min to_ (0 : Int32))) := (by rw [hfr, hto]; decide)
    have k34 : ∀ tg_, Steps p.tables e below (T32.setTop (mkF m 28 #[.val (.ref va), .val (.int ch), .val (.int (own_max fr (0 : Int32))), .val (.int (own_min to_ (0 : Int32)))] [(.int (-1 : Int32))])) tg_ → Steps p.tables e below (s₁.setTop (entryFrame m #[(.ref va), (.int ch), (.int fr), (.int to_)] 4)) tg_ := by
      intro tg_ kt
      refine k28 tg_ ?_
      refine XS.ifYes X27.here hx rfl (pc0 := 4) (pc' := 9) rfl (hb hby d9_4) rfl ((if0 _ _).trans (feq hc4_29).2) (by decide) (by decide) ?_
      show Steps p.tables e below (T27.setTop (mkF m 9 #[.val (.ref va), .val (.int ch), .val (.int fr), .val (.int to_)] [])) _
      refine XS.iloadN X27.here hx rfl (hb hby d9_9) rfl ?_
      show Steps p.tables e below (T27.setTop (mkF m 10 #[.val (.ref va), .val (.int ch), .val (.int fr), .val (.int to_)] [(.int fr)])) _
      refine XS.iconst X27.here hx rfl (hb hby d9_10) ?_
      show Steps p.tables e below (T27.setTop (mkF m 11 #[.val (.ref va), .val (.int ch), .val (.int fr), .val (.int to_)] [(.int (0 : Int32)), (.int fr)])) _
      refine st31 _ ?_
      show Steps p.tables e below (T31.setTop (mkF m 14 #[.val (.ref va), .val (.int ch), .val (.int fr), .val (.int to_)] [(.int (own_max fr (0 : Int32)))])) _
      refine XS.istoreN X31.here hx rfl (hb hby d9_14) rfl (l' := #[.val (.ref va), .val (.int ch), .val (.int (own_max fr (0 : Int32))), .val (.int to_)]) rfl ?_
      show Steps p.tables e below (T31.setTop (mkF m 15 #[.val (.ref va), .val (.int ch), .val (.int (own_max fr (0 : Int32))), .val (.int to_)] [])) _
      refine XS.iloadN X31.here hx rfl (hb hby d9_15) rfl ?_
      show Steps p.tables e below (T31.setTop (mkF m 16 #[.val (.ref va), .val (.int ch), .val (.int (own_max fr (0 : Int32))), .val (.int to_)] [(.int to_)])) _
      refine XS.aloadN X31.here hx rfl (hb hby d9_16) rfl rfl ?_
      show Steps p.tables e below (T31.setTop (mkF m 17 #[.val (.ref va), .val (.int ch), .val (.int (own_max fr (0 : Int32))), .val (.int to_)] [(.ref va), (.int to_)])) _
      refine own_len X31 hx hZ eq31 V_va (z := (0 : Int32)) (by decide) (g := (mkF m 17 #[.val (.ref va), .val (.int ch), .val (.int (own_max fr (0 : Int32))), .val (.int to_)] [(.ref va), (.int to_)])) rfl rfl (hb hby d9_17) _ ?_
      show Steps p.tables e below (T31.setTop (mkF m 18 #[.val (.ref va), .val (.int ch), .val (.int (own_max fr (0 : Int32))), .val (.int to_)] [(.int (0 : Int32)), (.int to_)])) _
      refine st32 _ ?_
      show Steps p.tables e below (T32.setTop (mkF m 21 #[.val (.ref va), .val (.int ch), .val (.int (own_max fr (0 : Int32))), .val (.int to_)] [(.int (own_min to_ (0 : Int32)))])) _
      refine XS.istoreN X32.here hx rfl (hb hby d9_21) rfl (l' := #[.val (.ref va), .val (.int ch), .val (.int (own_max fr (0 : Int32))), .val (.int (own_min to_ (0 : Int32)))]) rfl ?_
      show Steps p.tables e below (T32.setTop (mkF m 22 #[.val (.ref va), .val (.int ch), .val (.int (own_max fr (0 : Int32))), .val (.int (own_min to_ (0 : Int32)))] [])) _
      refine XS.iloadN X32.here hx rfl (hb hby d9_22) rfl ?_
      show Steps p.tables e below (T32.setTop (mkF m 23 #[.val (.ref va), .val (.int ch), .val (.int (own_max fr (0 : Int32))), .val (.int (own_min to_ (0 : Int32)))] [(.int (own_max fr (0 : Int32)))])) _
      refine XS.iloadN X32.here hx rfl (hb hby d9_23) rfl ?_
      show Steps p.tables e below (T32.setTop (mkF m 24 #[.val (.ref va), .val (.int ch), .val (.int (own_max fr (0 : Int32))), .val (.int (own_min to_ (0 : Int32)))] [(.int (own_min to_ (0 : Int32))), (.int (own_max fr (0 : Int32)))])) _
      refine XS.icmpNo X32.here hx rfl (hb hby d9_24) rfl (flt hc24_33).1 ?_
      show Steps p.tables e below (T32.setTop (mkF m 27 #[.val (.ref va), .val (.int ch), .val (.int (own_max fr (0 : Int32))), .val (.int (own_min to_ (0 : Int32)))] [])) _
      refine XS.iconst X32.here hx rfl (hb hby d9_27) ?_
      show Steps p.tables e below (T32.setTop (mkF m 28 #[.val (.ref va), .val (.int ch), .val (.int (own_max fr (0 : Int32))), .val (.int (own_min to_ (0 : Int32)))] [(.int (-1 : Int32))])) _
      exact kt
    obtain ⟨fs, hr, hrun, hended, hW, hsame⟩ := X32.leave (v := some (.int (-1 : Int32))) (fun h => by rw [Bd.returns] at h; cases h)
    refine ⟨_, _, k34 _ (retI X32 hx Bd.returns (hb hby d9_28) hr), hrun, hended, _, _, rfl, ?_, ⟨_, rfl⟩, hW, hsame.mono (by decide) (by decide)⟩
    show Qio_0 Z va ch fr to_ f h0 n0 _ T32.heap _
    rw [eq32]
    exact ⟨(by rw [own_eq_own_io_0]; rw [if_neg hc4_29]), N32, rfl⟩
theorem pd_5 : parseMethodDescriptor "()Z" = some ⟨[], some .boolean⟩ := by decide +kernel
theorem pd_6 : parseMethodDescriptor "()I" = some ⟨[], some .int⟩ := by decide +kernel
theorem pd_8 : parseMethodDescriptor "([BIII)I" = some ⟨[(.array .byte), .int, .int, .int], some .int⟩ := by decide +kernel
theorem d5_0 : decode jdk_42_method_80_code 0 = .ok (.aload_n 0, 1) := by decide +kernel
theorem d5_1 : decode jdk_42_method_80_code 1 = .ok (.invokevirtual 492, 3) := by decide +kernel
theorem d5_4 : decode jdk_42_method_80_code 4 = .ok (.ifCond .eq 19, 3) := by decide +kernel
theorem d5_7 : decode jdk_42_method_80_code 7 = .ok (.aload_n 0, 1) := by decide +kernel
theorem d5_8 : decode jdk_42_method_80_code 8 = .ok (.getfield 9, 3) := by decide +kernel
theorem d5_11 : decode jdk_42_method_80_code 11 = .ok (.iload_n 1, 1) := by decide +kernel
theorem d5_12 : decode jdk_42_method_80_code 12 = .ok (.iload_n 2, 1) := by decide +kernel
theorem d5_13 : decode jdk_42_method_80_code 13 = .ok (.aload_n 0, 1) := by decide +kernel
theorem d5_14 : decode jdk_42_method_80_code 14 = .ok (.invokevirtual 505, 3) := by decide +kernel
theorem d5_17 : decode jdk_42_method_80_code 17 = .ok (.invokestatic 637, 3) := by decide +kernel
theorem d5_20 : decode jdk_42_method_80_code 20 = .ok (.goto 16, 3) := by decide +kernel
theorem d5_36 : decode jdk_42_method_80_code 36 = .ok (.ireturn, 1) := by decide +kernel
theorem pn_5 : plainName "java/lang/String" = true := by first | (simp [plainName, overriddenIn]; done) | decide +kernel
theorem ef_ii_0 (m : MethodId) (x0 : Addr) (x1 : Int32) (x2 : Int32) : entryFrame m #[(.ref x0), (.int x1), (.int x2)] 3 = mkF m 0 #[.val (.ref x0), .val (.int x1), .val (.int x2)] [] := by first | (simp [entryFrame, mkF, argsToLocals, Value.category]; done) | rfl
def own_ii_0 (ch : Int32) (fr : Int32) : Int32 := (own_io_0 ch fr (0 : Int32))
theorem own_eq_own_ii_0 (ch : Int32) (fr : Int32) : own_ii_0 ch fr = (own_io_0 ch fr (0 : Int32)) := rfl
def Qii_0 (Z : State) (s0 : Addr) (ch : Int32) (fr : Int32) (zc : Int32) (va : Addr) (f : Nat → Int32) (h0 : Heap) (n0 : Nat) (rv_ : Option Value) (h : Heap) (LL_ : List Loc) : Prop := rv_ = some (.int (own_ii_0 ch fr)) ∧ Fr n0 LL_ ∧ h = h0
set_option maxRecDepth 65536 in
set_option maxHeartbeats 40000000 in
theorem rmii_0 (l : Launch) (Z : State) (a0 : Array Value) (hw : ∀ d ∈ tables_1, d.before a0 Z = true) (ws : List Jvm.Cond) (s0 : Addr) (ch : Int32) (fr : Int32) (zc : Int32) (va : Addr) (f : Nat → Int32) (h0 : Heap) (n0 : Nat) (E_s0 : Exa Z h0 s0 "java/lang/String") (F_s0_value : Fld Z h0 s0 "java/lang/String" "value" "[B" (.ref va)) (F_s0_coder : Fld Z h0 s0 "java/lang/String" "coder" "B" (.int (0 : Int32))) (V_va : own_AI Z h0 va .byte 0 f) (S_COMPACT_STRINGS : Sta Z h0 "java/lang/String" "COMPACT_STRINGS" "Z" (.int zc)) (hz : ¬ zc = (0 : Int32)) (hfr : fr = (0 : Int32)) :
    MetFree l (⟨"java/lang/String", "indexOf", "(II)I"⟩ : MethodName) (head1 (Jvm.Cond.code (⟨"java/lang/String", "indexOf", "(II)I"⟩ : MethodName) jdk_42_method_80_code 3 (some .int) :: ws) ({ frames := 2, cells := 0, slots := 0, locals := 28 } : Room)) (fun aa UU => aa = #[(.ref s0), (.int ch), (.int fr)] ∧ Z.Warmed39 UU.vm ∧ UU.heap = h0) (fun _ _ _ _ _ => True) (fun _ UU oo UV => ∃ vv LL, oo = .returned vv ∧ Qii_0 Z s0 ch fr zc va f h0 n0 vv UV.heap LL ∧ FrameEnd UU oo UV LL ({ frames := 2, cells := 0, slots := 0, locals := 28 } : Room).cells ({ frames := 2, cells := 0, slots := 0, locals := 28 } : Room).slots) := by
  refine MetFree.of_bodySF (plainFor_of_name pn_5) hisR ?_
  intro p e s m args below meth c s₁ Bd hml0 hP hK
  obtain ⟨rfl, hZ, hh⟩ := hP
  have hx := Bd.exec
  have hby := Bd.bytes
  have hml : c.maxLocals = 3 := hml0
  have hown : s.vm.findClass "java/lang/String" = some m.cls := findClass_of_methodNamed Bd.named
  have hnm := (name_of_methodNamed Bd.named Bd.method).1
  have X0 : Stand p l e ({ frames := 2, cells := 0, slots := 0, locals := 28 } : Room) s m #[(.ref s0), (.int ch), (.int fr)] below meth c s₁ [] 0 0 := Stand.of_body Bd
  have e0 : s₁.heap = h0 := by rw [← hh, Bd.state]; rfl
  have N0 := Fr.nil n0
  have k0 : ∀ tg_, Steps p.tables e below (s₁.setTop (mkF m 0 #[.val (.ref s0), .val (.int ch), .val (.int fr)] [])) tg_ → Steps p.tables e below (s₁.setTop (entryFrame m #[(.ref s0), (.int ch), (.int fr)] 3)) tg_ := fun tg_ k => castTop (ef_ii_0 m s0 ch fr) k
  have hfr0 := hfr
  obtain ⟨cq35, kq35, q35a, q35b, q35c⟩ := isOf hZ e0 E_s0
  obtain ⟨_, _, ⟨T35, L35, kc35, nc35⟩, -, X35, ⟨Lc35, hQ35, l35, y35, z35⟩, st35⟩ := X0.virtualBack hx (y := (⟨"java/lang/String", "isLatin1", "()Z"⟩ : MethodName)) (z := (⟨"java/lang/String", "isLatin1", "()Z"⟩ : MethodName)) hown (mvT hZ (hw _ (List.mem_of_getElem? (i := 31) rfl))) (mvT hZ (hw _ (List.mem_of_getElem? (i := 32) rfl))) (notFace_of_selects (args := #[]) (mvT hZ (hw _ (List.mem_of_getElem? (i := 34) rfl)))) (mvT hZ (hw _ (List.mem_of_getElem? (i := 34) rfl))) (mvT hZ (hw _ (List.mem_of_getElem? (i := 33) rfl))) (by decide) (backOf (W := 0) (rm6 l Z a0 hw [] s0 zc h0 n0 F_s0_coder S_COMPACT_STRINGS hz) hZ (hw _ (List.mem_of_getElem? (i := 35) rfl)) (hw _ (List.mem_of_getElem? (i := 24) rfl)) (by decide) (by decide)) q35a q35c (g := (mkF m 1 #[.val (.ref s0), .val (.int ch), .val (.int fr)] [(.ref s0)])) rfl (by rw [hml]; rfl) (Steps.refl _) (argsL := []) (rest := []) (lenOf pd_5 rfl) rfl (by show 2 * 0 + _ ≤ _; exact Nat.le_of_eq rfl) (hb hby d5_1) (fun _ _ => ⟨rfl, e0, (by decide : 0 + 0 ≤ _), (by decide : 0 + 0 ≤ _)⟩)
  dsimp only [Pt.U, Pt.locs, Pt.cells, Pt.slots] at X35 l35 y35 z35 st35 hQ35
  rw [l35, y35, z35] at X35
  replace X35 : Stand p l e ({ frames := 2, cells := 0, slots := 0, locals := 28 } : Room) s m #[(.ref s0), (.int ch), (.int fr)] below meth c T35 _ 0 0 := X35
  obtain ⟨rfl, Nq35, eq35⟩ := hQ35
  have N35 := Fr.app N0 Nq35
  obtain ⟨T36, X36, e36, st36⟩ := getF X35 hx hZ hown (host := "") (Or.inl (hw _ (List.mem_of_getElem? (i := 39) rfl))) Via.refl eq35 F_s0_value (g := (mkF m 8 #[.val (.ref s0), .val (.int ch), .val (.int fr)] [(.ref s0)])) rfl rfl (hb hby d5_8)
  obtain ⟨cq37, kq37, q37a, q37b, q37c⟩ := isOf hZ e36 E_s0
  obtain ⟨_, _, ⟨T37, L37, kc37, nc37⟩, -, X37, ⟨Lc37, hQ37, l37, y37, z37⟩, st37⟩ := X36.virtualBack hx (y := (⟨"java/lang/String", "length", "()I"⟩ : MethodName)) (z := (⟨"java/lang/String", "length", "()I"⟩ : MethodName)) hown (mvT hZ (hw _ (List.mem_of_getElem? (i := 41) rfl))) (mvT hZ (hw _ (List.mem_of_getElem? (i := 42) rfl))) (notFace_of_selects (args := #[]) (mvT hZ (hw _ (List.mem_of_getElem? (i := 44) rfl)))) (mvT hZ (hw _ (List.mem_of_getElem? (i := 44) rfl))) (mvT hZ (hw _ (List.mem_of_getElem? (i := 43) rfl))) (by decide) (backOf (W := 3) (rmlen_0 l Z a0 hw [] s0 zc va f h0 n0 E_s0 F_s0_value F_s0_coder V_va S_COMPACT_STRINGS hz) hZ (hw _ (List.mem_of_getElem? (i := 45) rfl)) (hw _ (List.mem_of_getElem? (i := 24) rfl)) (by decide) (by decide)) q37a q37c (g := (mkF m 14 #[.val (.ref s0), .val (.int ch), .val (.int fr)] [(.ref s0), (.int fr), (.int ch), (.ref va)])) rfl (by rw [hml]; rfl) (Steps.refl _) (argsL := []) (rest := [(.int fr), (.int ch), (.ref va)]) (lenOf pd_6 rfl) rfl (by show 2 * 0 + _ ≤ _; exact Nat.le_of_eq rfl) (hb hby d5_14) (fun _ _ => ⟨rfl, e36, (by decide : 0 + 0 ≤ _), (by decide : 0 + 0 ≤ _)⟩)
  dsimp only [Pt.U, Pt.locs, Pt.cells, Pt.slots] at X37 l37 y37 z37 st37 hQ37
  rw [l37, y37, z37] at X37
  replace X37 : Stand p l e ({ frames := 2, cells := 0, slots := 0, locals := 28 } : Room) s m #[(.ref s0), (.int ch), (.int fr)] below meth c T37 _ 0 0 := X37
  obtain ⟨rfl, Nq37, eq37⟩ := hQ37
  have N37 := Fr.app N35 Nq37
  obtain ⟨_, _, ⟨T38, L38, kc38, nc38⟩, -, X38, ⟨Lc38, hQ38, l38, y38, z38⟩, st38⟩ := Jvm.LawKit.callS X37 hx (y := (⟨"java/lang/StringLatin1", "indexOf", "([BIII)I"⟩ : MethodName)) hown (mvT hZ (hw _ (List.mem_of_getElem? (i := 51) rfl))) (mvT hZ (hw _ (List.mem_of_getElem? (i := 52) rfl))) (mvT hZ (hw _ (List.mem_of_getElem? (i := 53) rfl))) (mvT hZ (hw _ (List.mem_of_getElem? (i := 54) rfl))) (by decide) (backOf (W := 0) (rmio_0 l Z a0 hw [] va ch fr (0 : Int32) f h0 n0 V_va hfr0 rfl) hZ (hw _ (List.mem_of_getElem? (i := 54) rfl)) (hw _ (List.mem_of_getElem? (i := 53) rfl)) (by decide) (by decide)) (g := (mkF m 17 #[.val (.ref s0), .val (.int ch), .val (.int fr)] [(.int (0 : Int32)), (.int fr), (.int ch), (.ref va)])) rfl (by rw [hml]; rfl) (argsL := [(.ref va), (.int ch), (.int fr), (.int (0 : Int32))]) (rest := []) (lenOf pd_8 rfl) rfl (by show 2 * 0 + _ ≤ _; exact Nat.le_of_eq rfl) (hb hby d5_17) (fun _ _ => ⟨rfl, eq37, (by decide : 0 + 0 ≤ _), (by decide : 0 + 0 ≤ _)⟩)
  dsimp only [Pt.U, Pt.locs, Pt.cells, Pt.slots] at X38 l38 y38 z38 st38 hQ38
  rw [l38, y38, z38] at X38
  replace X38 : Stand p l e ({ frames := 2, cells := 0, slots := 0, locals := 28 } : Room) s m #[(.ref s0), (.int ch), (.int fr)] below meth c T38 _ 0 0 := X38
  obtain ⟨rfl, Nq38, eq38⟩ := hQ38
  have N38 := Fr.app N37 Nq38
  have k39 : ∀ tg_, Steps p.tables e below (T38.setTop (mkF m 36 #[.val (.ref s0), .val (.int ch), .val (.int fr)] [(.int (own_io_0 ch fr (0 : Int32)))])) tg_ → Steps p.tables e below (s₁.setTop (entryFrame m #[(.ref s0), (.int ch), (.int fr)] 3)) tg_ := by
    intro tg_ kt
    refine k0 tg_ ?_
    refine XS.aloadN X0.here hx rfl (hb hby d5_0) rfl rfl ?_
    show Steps p.tables e below (s₁.setTop (mkF m 1 #[.val (.ref s0), .val (.int ch), .val (.int fr)] [(.ref s0)])) _
    refine st35.trans ?_
    show Steps p.tables e below (T35.setTop (mkF m 4 #[.val (.ref s0), .val (.int ch), .val (.int fr)] [(.int (1 : Int32))])) _
    refine XS.ifNo X35.here hx rfl (hb hby d5_4) rfl ((if0 _ _).trans (feq (by decide : ¬ ((1 : Int32) = (0 : Int32)))).1) ?_
    show Steps p.tables e below (T35.setTop (mkF m 7 #[.val (.ref s0), .val (.int ch), .val (.int fr)] [])) _
    refine XS.aloadN X35.here hx rfl (hb hby d5_7) rfl rfl ?_
    show Steps p.tables e below (T35.setTop (mkF m 8 #[.val (.ref s0), .val (.int ch), .val (.int fr)] [(.ref s0)])) _
    refine st36 _ ?_
    show Steps p.tables e below (T36.setTop (mkF m 11 #[.val (.ref s0), .val (.int ch), .val (.int fr)] [(.ref va)])) _
    refine XS.iloadN X36.here hx rfl (hb hby d5_11) rfl ?_
    show Steps p.tables e below (T36.setTop (mkF m 12 #[.val (.ref s0), .val (.int ch), .val (.int fr)] [(.int ch), (.ref va)])) _
    refine XS.iloadN X36.here hx rfl (hb hby d5_12) rfl ?_
    show Steps p.tables e below (T36.setTop (mkF m 13 #[.val (.ref s0), .val (.int ch), .val (.int fr)] [(.int fr), (.int ch), (.ref va)])) _
    refine XS.aloadN X36.here hx rfl (hb hby d5_13) rfl rfl ?_
    show Steps p.tables e below (T36.setTop (mkF m 14 #[.val (.ref s0), .val (.int ch), .val (.int fr)] [(.ref s0), (.int fr), (.int ch), (.ref va)])) _
    refine st37.trans ?_
    show Steps p.tables e below (T37.setTop (mkF m 17 #[.val (.ref s0), .val (.int ch), .val (.int fr)] [(.int (0 : Int32)), (.int fr), (.int ch), (.ref va)])) _
    refine st38 _ ?_
    show Steps p.tables e below (T38.setTop (mkF m 20 #[.val (.ref s0), .val (.int ch), .val (.int fr)] [(.int (own_io_0 ch fr (0 : Int32)))])) _
    refine XS.goto X38.here hx rfl (pc0 := 20) (pc' := 36) rfl (hb hby d5_20) (by decide) (by decide) ?_
    show Steps p.tables e below (T38.setTop (mkF m 36 #[.val (.ref s0), .val (.int ch), .val (.int fr)] [(.int (own_io_0 ch fr (0 : Int32)))])) _
    exact kt
  obtain ⟨fs, hr, hrun, hended, hW, hsame⟩ := X38.leave (v := some (.int (own_io_0 ch fr (0 : Int32)))) (fun h => by rw [Bd.returns] at h; cases h)
  refine ⟨_, _, k39 _ (retI X38 hx Bd.returns (hb hby d5_36) hr), hrun, hended, _, _, rfl, ?_, ⟨_, rfl⟩, hW, hsame.mono (by decide) (by decide)⟩
  show Qii_0 Z s0 ch fr zc va f h0 n0 _ T38.heap _
  rw [eq38]
  exact ⟨(by rw [own_eq_own_ii_0]), N38, rfl⟩
theorem d4_0 : decode jdk_42_method_79_code 0 = .ok (.aload_n 0, 1) := by decide +kernel
theorem d4_1 : decode jdk_42_method_79_code 1 = .ok (.iload_n 1, 1) := by decide +kernel
theorem d4_2 : decode jdk_42_method_79_code 2 = .ok (.iconst 0, 1) := by decide +kernel
theorem d4_3 : decode jdk_42_method_79_code 3 = .ok (.invokevirtual 633, 3) := by decide +kernel
theorem d4_6 : decode jdk_42_method_79_code 6 = .ok (.ireturn, 1) := by decide +kernel
theorem pn_4 : plainName "java/lang/String" = true := by first | (simp [plainName, overriddenIn]; done) | decide +kernel
theorem ef_ix_0 (m : MethodId) (x0 : Addr) (x1 : Int32) : entryFrame m #[(.ref x0), (.int x1)] 2 = mkF m 0 #[.val (.ref x0), .val (.int x1)] [] := by first | (simp [entryFrame, mkF, argsToLocals, Value.category]; done) | rfl
def own_ix_0 (ch : Int32) : Int32 := (own_ii_0 ch (0 : Int32))
theorem own_eq_own_ix_0 (ch : Int32) : own_ix_0 ch = (own_ii_0 ch (0 : Int32)) := rfl
def Qix_0 (Z : State) (s0 : Addr) (ch : Int32) (zc : Int32) (va : Addr) (f : Nat → Int32) (h0 : Heap) (n0 : Nat) (rv_ : Option Value) (h : Heap) (LL_ : List Loc) : Prop := rv_ = some (.int (own_ix_0 ch)) ∧ Fr n0 LL_ ∧ h = h0
set_option maxRecDepth 65536 in
set_option maxHeartbeats 40000000 in
theorem rmix_0 (l : Launch) (Z : State) (a0 : Array Value) (hw : ∀ d ∈ tables_1, d.before a0 Z = true) (ws : List Jvm.Cond) (s0 : Addr) (ch : Int32) (zc : Int32) (va : Addr) (f : Nat → Int32) (h0 : Heap) (n0 : Nat) (E_s0 : Exa Z h0 s0 "java/lang/String") (F_s0_value : Fld Z h0 s0 "java/lang/String" "value" "[B" (.ref va)) (F_s0_coder : Fld Z h0 s0 "java/lang/String" "coder" "B" (.int (0 : Int32))) (V_va : own_AI Z h0 va .byte 0 f) (S_COMPACT_STRINGS : Sta Z h0 "java/lang/String" "COMPACT_STRINGS" "Z" (.int zc)) (hz : ¬ zc = (0 : Int32)) :
    MetFree l (⟨"java/lang/String", "indexOf", "(I)I"⟩ : MethodName) (head1 (Jvm.Cond.code (⟨"java/lang/String", "indexOf", "(I)I"⟩ : MethodName) jdk_42_method_79_code 2 (some .int) :: ws) ({ frames := 3, cells := 0, slots := 0, locals := 42 } : Room)) (fun aa UU => aa = #[(.ref s0), (.int ch)] ∧ Z.Warmed39 UU.vm ∧ UU.heap = h0) (fun _ _ _ _ _ => True) (fun _ UU oo UV => ∃ vv LL, oo = .returned vv ∧ Qix_0 Z s0 ch zc va f h0 n0 vv UV.heap LL ∧ FrameEnd UU oo UV LL ({ frames := 3, cells := 0, slots := 0, locals := 42 } : Room).cells ({ frames := 3, cells := 0, slots := 0, locals := 42 } : Room).slots) := by
  refine MetFree.of_bodySF (plainFor_of_name pn_4) hisR ?_
  intro p e s m args below meth c s₁ Bd hml0 hP hK
  obtain ⟨rfl, hZ, hh⟩ := hP
  have hx := Bd.exec
  have hby := Bd.bytes
  have hml : c.maxLocals = 2 := hml0
  have hown : s.vm.findClass "java/lang/String" = some m.cls := findClass_of_methodNamed Bd.named
  have hnm := (name_of_methodNamed Bd.named Bd.method).1
  have X0 : Stand p l e ({ frames := 3, cells := 0, slots := 0, locals := 42 } : Room) s m #[(.ref s0), (.int ch)] below meth c s₁ [] 0 0 := Stand.of_body Bd
  have e0 : s₁.heap = h0 := by rw [← hh, Bd.state]; rfl
  have N0 := Fr.nil n0
  have k0 : ∀ tg_, Steps p.tables e below (s₁.setTop (mkF m 0 #[.val (.ref s0), .val (.int ch)] [])) tg_ → Steps p.tables e below (s₁.setTop (entryFrame m #[(.ref s0), (.int ch)] 2)) tg_ := fun tg_ k => castTop (ef_ix_0 m s0 ch) k
  obtain ⟨cq40, kq40, q40a, q40b, q40c⟩ := isOf hZ e0 E_s0
  obtain ⟨_, _, ⟨T40, L40, kc40, nc40⟩, -, X40, ⟨Lc40, hQ40, l40, y40, z40⟩, st40⟩ := X0.virtualBack hx (y := (⟨"java/lang/String", "indexOf", "(II)I"⟩ : MethodName)) (z := (⟨"java/lang/String", "indexOf", "(II)I"⟩ : MethodName)) hown (mvT hZ (hw _ (List.mem_of_getElem? (i := 26) rfl))) (mvT hZ (hw _ (List.mem_of_getElem? (i := 27) rfl))) (notFace_of_selects (args := #[]) (mvT hZ (hw _ (List.mem_of_getElem? (i := 29) rfl)))) (mvT hZ (hw _ (List.mem_of_getElem? (i := 29) rfl))) (mvT hZ (hw _ (List.mem_of_getElem? (i := 28) rfl))) (by decide) (backOf (W := 0) (rmii_0 l Z a0 hw [] s0 ch (0 : Int32) zc va f h0 n0 E_s0 F_s0_value F_s0_coder V_va S_COMPACT_STRINGS hz rfl) hZ (hw _ (List.mem_of_getElem? (i := 30) rfl)) (hw _ (List.mem_of_getElem? (i := 24) rfl)) (by decide) (by decide)) q40a q40c (g := (mkF m 3 #[.val (.ref s0), .val (.int ch)] [(.int (0 : Int32)), (.int ch), (.ref s0)])) rfl (by rw [hml]; rfl) (Steps.refl _) (argsL := [(.int ch), (.int (0 : Int32))]) (rest := []) (lenOf pd_4 rfl) rfl (by show 2 * 0 + _ ≤ _; exact Nat.le_of_eq rfl) (hb hby d4_3) (fun _ _ => ⟨rfl, e0, (by decide : 0 + 0 ≤ _), (by decide : 0 + 0 ≤ _)⟩)
  dsimp only [Pt.U, Pt.locs, Pt.cells, Pt.slots] at X40 l40 y40 z40 st40 hQ40
  rw [l40, y40, z40] at X40
  replace X40 : Stand p l e ({ frames := 3, cells := 0, slots := 0, locals := 42 } : Room) s m #[(.ref s0), (.int ch)] below meth c T40 _ 0 0 := X40
  obtain ⟨rfl, Nq40, eq40⟩ := hQ40
  have N40 := Fr.app N0 Nq40
  have k41 : ∀ tg_, Steps p.tables e below (T40.setTop (mkF m 6 #[.val (.ref s0), .val (.int ch)] [(.int (own_ii_0 ch (0 : Int32)))])) tg_ → Steps p.tables e below (s₁.setTop (entryFrame m #[(.ref s0), (.int ch)] 2)) tg_ := by
    intro tg_ kt
    refine k0 tg_ ?_
    refine XS.aloadN X0.here hx rfl (hb hby d4_0) rfl rfl ?_
    show Steps p.tables e below (s₁.setTop (mkF m 1 #[.val (.ref s0), .val (.int ch)] [(.ref s0)])) _
    refine XS.iloadN X0.here hx rfl (hb hby d4_1) rfl ?_
    show Steps p.tables e below (s₁.setTop (mkF m 2 #[.val (.ref s0), .val (.int ch)] [(.int ch), (.ref s0)])) _
    refine XS.iconst X0.here hx rfl (hb hby d4_2) ?_
    show Steps p.tables e below (s₁.setTop (mkF m 3 #[.val (.ref s0), .val (.int ch)] [(.int (0 : Int32)), (.int ch), (.ref s0)])) _
    refine st40.trans ?_
    show Steps p.tables e below (T40.setTop (mkF m 6 #[.val (.ref s0), .val (.int ch)] [(.int (own_ii_0 ch (0 : Int32)))])) _
    exact kt
  obtain ⟨fs, hr, hrun, hended, hW, hsame⟩ := X40.leave (v := some (.int (own_ii_0 ch (0 : Int32)))) (fun h => by rw [Bd.returns] at h; cases h)
  refine ⟨_, _, k41 _ (retI X40 hx Bd.returns (hb hby d4_6) hr), hrun, hended, _, _, rfl, ?_, ⟨_, rfl⟩, hW, hsame.mono (by decide) (by decide)⟩
  show Qix_0 Z s0 ch zc va f h0 n0 _ T40.heap _
  rw [eq40]
  exact ⟨(by rw [own_eq_own_ix_0]), N40, rfl⟩
theorem pd_3 : parseMethodDescriptor "(I)I" = some ⟨[.int], some .int⟩ := by decide +kernel
theorem d3_0 : decode prog_3_method_7_code 0 = .ok (.iload_n 1, 1) := by decide +kernel
theorem d3_1 : decode prog_3_method_7_code 1 = .ok (.bipush 58, 2) := by decide +kernel
theorem d3_3 : decode prog_3_method_7_code 3 = .ok (.if_icmp .eq 18, 3) := by decide +kernel
theorem d3_6 : decode prog_3_method_7_code 6 = .ok (.aload_n 0, 1) := by decide +kernel
theorem d3_7 : decode prog_3_method_7_code 7 = .ok (.getfield 53, 3) := by decide +kernel
theorem d3_10 : decode prog_3_method_7_code 10 = .ok (.iload_n 1, 1) := by decide +kernel
theorem d3_11 : decode prog_3_method_7_code 11 = .ok (.invokevirtual 127, 3) := by decide +kernel
theorem d3_14 : decode prog_3_method_7_code 14 = .ok (.ifCond .lt 7, 3) := by decide +kernel
theorem d3_17 : decode prog_3_method_7_code 17 = .ok (.iconst 1, 1) := by decide +kernel
theorem d3_18 : decode prog_3_method_7_code 18 = .ok (.goto 4, 3) := by decide +kernel
theorem d3_21 : decode prog_3_method_7_code 21 = .ok (.iconst 0, 1) := by decide +kernel
theorem d3_22 : decode prog_3_method_7_code 22 = .ok (.ireturn, 1) := by decide +kernel
theorem pn_3 : plainName "com/example/grendel/grendel/cli/Verb" = true := by first | (simp [plainName, overriddenIn]; done) | decide +kernel
theorem ef_tk_0 (m : MethodId) (x0 : Addr) (x1 : Int32) : entryFrame m #[(.ref x0), (.int x1)] 2 = mkF m 0 #[.val (.ref x0), .val (.int x1)] [] := by first | (simp [entryFrame, mkF, argsToLocals, Value.category]; done) | rfl
def own_tk_0 (ch : Int32) : Int32 := (if ch = (58 : Int32) then (0 : Int32) else (if (own_ix_0 ch) < (0 : Int32) then (0 : Int32) else (1 : Int32)))
theorem own_eq_own_tk_0 (ch : Int32) : own_tk_0 ch = (if ch = (58 : Int32) then (0 : Int32) else (if (own_ix_0 ch) < (0 : Int32) then (0 : Int32) else (1 : Int32))) := rfl
def Qtk_0 (Z : State) (vb : Addr) (ch : Int32) (zc : Int32) (s0 : Addr) (va : Addr) (f : Nat → Int32) (h0 : Heap) (n0 : Nat) (rv_ : Option Value) (h : Heap) (LL_ : List Loc) : Prop := rv_ = some (.int (own_tk_0 ch)) ∧ Fr n0 LL_ ∧ h = h0
set_option maxRecDepth 65536 in
set_option maxHeartbeats 40000000 in
theorem rmtk_0 (l : Launch) (Z : State) (a0 : Array Value) (hw : ∀ d ∈ tables_1, d.before a0 Z = true) (ws : List Jvm.Cond) (vb : Addr) (ch : Int32) (zc : Int32) (s0 : Addr) (va : Addr) (f : Nat → Int32) (h0 : Heap) (n0 : Nat) (E_s0 : Exa Z h0 s0 "java/lang/String") (F_vb_options : Fld Z h0 vb "com/example/grendel/grendel/cli/Verb" "options" "Ljava/lang/String;" (.ref s0)) (F_s0_value : Fld Z h0 s0 "java/lang/String" "value" "[B" (.ref va)) (F_s0_coder : Fld Z h0 s0 "java/lang/String" "coder" "B" (.int (0 : Int32))) (V_va : own_AI Z h0 va .byte 0 f) (S_COMPACT_STRINGS : Sta Z h0 "java/lang/String" "COMPACT_STRINGS" "Z" (.int zc)) (hz : ¬ zc = (0 : Int32)) :
    MetFree l (⟨"com/example/grendel/grendel/cli/Verb", "takes", "(C)Z"⟩ : MethodName) (head1 (Jvm.Cond.code (⟨"com/example/grendel/grendel/cli/Verb", "takes", "(C)Z"⟩ : MethodName) prog_3_method_7_code 2 (some .boolean) :: ws) ({ frames := 4, cells := 0, slots := 0, locals := 55 } : Room)) (fun aa UU => aa = #[(.ref vb), (.int ch)] ∧ Z.Warmed39 UU.vm ∧ UU.heap = h0) (fun _ _ _ _ _ => True) (fun _ UU oo UV => ∃ vv LL, oo = .returned vv ∧ Qtk_0 Z vb ch zc s0 va f h0 n0 vv UV.heap LL ∧ FrameEnd UU oo UV LL ({ frames := 4, cells := 0, slots := 0, locals := 55 } : Room).cells ({ frames := 4, cells := 0, slots := 0, locals := 55 } : Room).slots) := by
  refine MetFree.of_bodySF (plainFor_of_name pn_3) hisR ?_
  intro p e s m args below meth c s₁ Bd hml0 hP hK
  obtain ⟨rfl, hZ, hh⟩ := hP
  have hx := Bd.exec
  have hby := Bd.bytes
  have hml : c.maxLocals = 2 := hml0
  have hown : s.vm.findClass "com/example/grendel/grendel/cli/Verb" = some m.cls := findClass_of_methodNamed Bd.named
  have hnm := (name_of_methodNamed Bd.named Bd.method).1
  have X0 : Stand p l e ({ frames := 4, cells := 0, slots := 0, locals := 55 } : Room) s m #[(.ref vb), (.int ch)] below meth c s₁ [] 0 0 := Stand.of_body Bd
  have e0 : s₁.heap = h0 := by rw [← hh, Bd.state]; rfl
  have N0 := Fr.nil n0
  have k0 : ∀ tg_, Steps p.tables e below (s₁.setTop (mkF m 0 #[.val (.ref vb), .val (.int ch)] [])) tg_ → Steps p.tables e below (s₁.setTop (entryFrame m #[(.ref vb), (.int ch)] 2)) tg_ := fun tg_ k => castTop (ef_tk_0 m vb ch) k
  have k42 : ∀ tg_, Steps p.tables e below (s₁.setTop (mkF m 3 #[.val (.ref vb), .val (.int ch)] [(.int (58 : Int32)), (.int ch)])) tg_ → Steps p.tables e below (s₁.setTop (entryFrame m #[(.ref vb), (.int ch)] 2)) tg_ := by
    intro tg_ kt
    refine k0 tg_ ?_
    refine XS.iloadN X0.here hx rfl (hb hby d3_0) rfl ?_
    show Steps p.tables e below (s₁.setTop (mkF m 1 #[.val (.ref vb), .val (.int ch)] [(.int ch)])) _
    refine XS.bipush X0.here hx rfl (hb hby d3_1) ?_
    show Steps p.tables e below (s₁.setTop (mkF m 3 #[.val (.ref vb), .val (.int ch)] [(.int (58 : Int32)), (.int ch)])) _
    exact kt
  by_cases hc3_43 : ch = (58 : Int32)
  · have k44 : ∀ tg_, Steps p.tables e below (s₁.setTop (mkF m 22 #[.val (.ref vb), .val (.int ch)] [(.int (0 : Int32))])) tg_ → Steps p.tables e below (s₁.setTop (entryFrame m #[(.ref vb), (.int ch)] 2)) tg_ := by
      intro tg_ kt
      refine k42 tg_ ?_
      refine XS.icmpYes X0.here hx rfl (pc0 := 3) (pc' := 21) rfl (hb hby d3_3) rfl (teq hc3_43).1 (by decide) (by decide) ?_
      show Steps p.tables e below (s₁.setTop (mkF m 21 #[.val (.ref vb), .val (.int ch)] [])) _
      refine XS.iconst X0.here hx rfl (hb hby d3_21) ?_
      show Steps p.tables e below (s₁.setTop (mkF m 22 #[.val (.ref vb), .val (.int ch)] [(.int (0 : Int32))])) _
      exact kt
    obtain ⟨fs, hr, hrun, hended, hW, hsame⟩ := X0.leave (v := some (.int (0 : Int32))) (fun h => by rw [Bd.returns] at h; cases h)
    refine ⟨_, _, k44 _ (retN X0 hx (t := .boolean) Bd.returns (by simp) (hb hby d3_22) hr), hrun, hended, _, _, rfl, ?_, ⟨_, rfl⟩, hW, hsame.mono (by decide) (by decide)⟩
    show Qtk_0 Z vb ch zc s0 va f h0 n0 _ s₁.heap _
    rw [e0]
    exact ⟨(by rw [own_eq_own_tk_0]; rw [if_pos hc3_43]), N0, rfl⟩
  · obtain ⟨T45, X45, e45, st45⟩ := getF X0 hx hZ hown (host := "") (Or.inl (hw _ (List.mem_of_getElem? (i := 18) rfl))) Via.refl e0 F_vb_options (g := (mkF m 7 #[.val (.ref vb), .val (.int ch)] [(.ref vb)])) rfl rfl (hb hby d3_7)
    obtain ⟨cq46, kq46, q46a, q46b, q46c⟩ := isOf hZ e45 E_s0
    obtain ⟨_, _, ⟨T46, L46, kc46, nc46⟩, -, X46, ⟨Lc46, hQ46, l46, y46, z46⟩, st46⟩ := X45.virtualBack hx (y := (⟨"java/lang/String", "indexOf", "(I)I"⟩ : MethodName)) (z := (⟨"java/lang/String", "indexOf", "(I)I"⟩ : MethodName)) hown (mvT hZ (hw _ (List.mem_of_getElem? (i := 20) rfl))) (mvT hZ (hw _ (List.mem_of_getElem? (i := 21) rfl))) (notFace_of_selects (args := #[]) (mvT hZ (hw _ (List.mem_of_getElem? (i := 23) rfl)))) (mvT hZ (hw _ (List.mem_of_getElem? (i := 23) rfl))) (mvT hZ (hw _ (List.mem_of_getElem? (i := 22) rfl))) (by decide) (backOf (W := 0) (rmix_0 l Z a0 hw [] s0 ch zc va f h0 n0 E_s0 F_s0_value F_s0_coder V_va S_COMPACT_STRINGS hz) hZ (hw _ (List.mem_of_getElem? (i := 25) rfl)) (hw _ (List.mem_of_getElem? (i := 24) rfl)) (by decide) (by decide)) q46a q46c (g := (mkF m 11 #[.val (.ref vb), .val (.int ch)] [(.int ch), (.ref s0)])) rfl (by rw [hml]; rfl) (Steps.refl _) (argsL := [(.int ch)]) (rest := []) (lenOf pd_3 rfl) rfl (by show 2 * 0 + _ ≤ _; exact Nat.le_of_eq rfl) (hb hby d3_11) (fun _ _ => ⟨rfl, e45, (by decide : 0 + 0 ≤ _), (by decide : 0 + 0 ≤ _)⟩)
    dsimp only [Pt.U, Pt.locs, Pt.cells, Pt.slots] at X46 l46 y46 z46 st46 hQ46
    rw [l46, y46, z46] at X46
    replace X46 : Stand p l e ({ frames := 4, cells := 0, slots := 0, locals := 55 } : Room) s m #[(.ref vb), (.int ch)] below meth c T46 _ 0 0 := X46
    obtain ⟨rfl, Nq46, eq46⟩ := hQ46
    have N46 := Fr.app N0 Nq46
    have k47 : ∀ tg_, Steps p.tables e below (T46.setTop (mkF m 14 #[.val (.ref vb), .val (.int ch)] [(.int (own_ix_0 ch))])) tg_ → Steps p.tables e below (s₁.setTop (entryFrame m #[(.ref vb), (.int ch)] 2)) tg_ := by
      intro tg_ kt
      refine k42 tg_ ?_
      refine XS.icmpNo X0.here hx rfl (hb hby d3_3) rfl (feq hc3_43).1 ?_
      show Steps p.tables e below (s₁.setTop (mkF m 6 #[.val (.ref vb), .val (.int ch)] [])) _
      refine XS.aloadN X0.here hx rfl (hb hby d3_6) rfl rfl ?_
      show Steps p.tables e below (s₁.setTop (mkF m 7 #[.val (.ref vb), .val (.int ch)] [(.ref vb)])) _
      refine st45 _ ?_
      show Steps p.tables e below (T45.setTop (mkF m 10 #[.val (.ref vb), .val (.int ch)] [(.ref s0)])) _
      refine XS.iloadN X45.here hx rfl (hb hby d3_10) rfl ?_
      show Steps p.tables e below (T45.setTop (mkF m 11 #[.val (.ref vb), .val (.int ch)] [(.int ch), (.ref s0)])) _
      refine st46.trans ?_
      show Steps p.tables e below (T46.setTop (mkF m 14 #[.val (.ref vb), .val (.int ch)] [(.int (own_ix_0 ch))])) _
      exact kt
    by_cases hc14_48 : (own_ix_0 ch) < (0 : Int32)
    · have k49 : ∀ tg_, Steps p.tables e below (T46.setTop (mkF m 22 #[.val (.ref vb), .val (.int ch)] [(.int (0 : Int32))])) tg_ → Steps p.tables e below (s₁.setTop (entryFrame m #[(.ref vb), (.int ch)] 2)) tg_ := by
        intro tg_ kt
        refine k47 tg_ ?_
        refine XS.ifYes X46.here hx rfl (pc0 := 14) (pc' := 21) rfl (hb hby d3_14) rfl ((if0 _ _).trans (tlt hc14_48).1) (by decide) (by decide) ?_
        show Steps p.tables e below (T46.setTop (mkF m 21 #[.val (.ref vb), .val (.int ch)] [])) _
        refine XS.iconst X46.here hx rfl (hb hby d3_21) ?_
        show Steps p.tables e below (T46.setTop (mkF m 22 #[.val (.ref vb), .val (.int ch)] [(.int (0 : Int32))])) _
        exact kt
      obtain ⟨fs, hr, hrun, hended, hW, hsame⟩ := X46.leave (v := some (.int (0 : Int32))) (fun h => by rw [Bd.returns] at h; cases h)
      refine ⟨_, _, k49 _ (retN X46 hx (t := .boolean) Bd.returns (by simp) (hb hby d3_22) hr), hrun, hended, _, _, rfl, ?_, ⟨_, rfl⟩, hW, hsame.mono (by decide) (by decide)⟩
      show Qtk_0 Z vb ch zc s0 va f h0 n0 _ T46.heap _
      rw [eq46]
      exact ⟨(by rw [own_eq_own_tk_0]; rw [if_neg hc3_43, if_pos hc14_48]), N46, rfl⟩
    · have k50 : ∀ tg_, Steps p.tables e below (T46.setTop (mkF m 22 #[.val (.ref vb), .val (.int ch)] [(.int (1 : Int32))])) tg_ → Steps p.tables e below (s₁.setTop (entryFrame m #[(.ref vb), (.int ch)] 2)) tg_ := by
        intro tg_ kt
        refine k47 tg_ ?_
        refine XS.ifNo X46.here hx rfl (hb hby d3_14) rfl ((if0 _ _).trans (flt hc14_48).1) ?_
        show Steps p.tables e below (T46.setTop (mkF m 17 #[.val (.ref vb), .val (.int ch)] [])) _
        refine XS.iconst X46.here hx rfl (hb hby d3_17) ?_
        show Steps p.tables e below (T46.setTop (mkF m 18 #[.val (.ref vb), .val (.int ch)] [(.int (1 : Int32))])) _
        refine XS.goto X46.here hx rfl (pc0 := 18) (pc' := 22) rfl (hb hby d3_18) (by decide) (by decide) ?_
        show Steps p.tables e below (T46.setTop (mkF m 22 #[.val (.ref vb), .val (.int ch)] [(.int (1 : Int32))])) _
        exact kt
      obtain ⟨fs, hr, hrun, hended, hW, hsame⟩ := X46.leave (v := some (.int (1 : Int32))) (fun h => by rw [Bd.returns] at h; cases h)
      refine ⟨_, _, k50 _ (retN X46 hx (t := .boolean) Bd.returns (by simp) (hb hby d3_22) hr), hrun, hended, _, _, rfl, ?_, ⟨_, rfl⟩, hW, hsame.mono (by decide) (by decide)⟩
      show Qtk_0 Z vb ch zc s0 va f h0 n0 _ T46.heap _
      rw [eq46]
      exact ⟨(by rw [own_eq_own_tk_0]; rw [if_neg hc3_43, if_neg hc14_48]), N46, rfl⟩
theorem ef_len_1 (m : MethodId) (x0 : Addr) : entryFrame m #[(.ref x0)] 1 = mkF m 0 #[.val (.ref x0)] [] := by first | (simp [entryFrame, mkF, argsToLocals, Value.category]; done) | rfl
def Qlen_1 (Z : State) (s0 : Addr) (zc : Int32) (va : Addr) (f : Nat → Int32) (h0 : Heap) (n0 : Nat) (rv_ : Option Value) (h : Heap) (LL_ : List Loc) : Prop := rv_ = some (.int (1 : Int32)) ∧ Fr n0 LL_ ∧ h = h0
set_option maxRecDepth 65536 in
set_option maxHeartbeats 40000000 in
theorem rmlen_1 (l : Launch) (Z : State) (a0 : Array Value) (hw : ∀ d ∈ tables_1, d.before a0 Z = true) (ws : List Jvm.Cond) (s0 : Addr) (zc : Int32) (va : Addr) (f : Nat → Int32) (h0 : Heap) (n0 : Nat) (E_s0 : Exa Z h0 s0 "java/lang/String") (F_s0_value : Fld Z h0 s0 "java/lang/String" "value" "[B" (.ref va)) (F_s0_coder : Fld Z h0 s0 "java/lang/String" "coder" "B" (.int (0 : Int32))) (V_va : own_AI Z h0 va .byte 1 f) (S_COMPACT_STRINGS : Sta Z h0 "java/lang/String" "COMPACT_STRINGS" "Z" (.int zc)) (hz : ¬ zc = (0 : Int32)) :
    MetFree l (⟨"java/lang/String", "length", "()I"⟩ : MethodName) (head1 (Jvm.Cond.code (⟨"java/lang/String", "length", "()I"⟩ : MethodName) jdk_42_method_54_code 1 (some .int) :: ws) ({ frames := 1, cells := 0, slots := 0, locals := 13 } : Room)) (fun aa UU => aa = #[(.ref s0)] ∧ Z.Warmed39 UU.vm ∧ UU.heap = h0) (fun _ _ _ _ _ => True) (fun _ UU oo UV => ∃ vv LL, oo = .returned vv ∧ Qlen_1 Z s0 zc va f h0 n0 vv UV.heap LL ∧ FrameEnd UU oo UV LL ({ frames := 1, cells := 0, slots := 0, locals := 13 } : Room).cells ({ frames := 1, cells := 0, slots := 0, locals := 13 } : Room).slots) := by
  refine MetFree.of_bodySF (plainFor_of_name pn_7) hisR ?_
  intro p e s m args below meth c s₁ Bd hml0 hP hK
  obtain ⟨rfl, hZ, hh⟩ := hP
  have hx := Bd.exec
  have hby := Bd.bytes
  have hml : c.maxLocals = 1 := hml0
  have hown : s.vm.findClass "java/lang/String" = some m.cls := findClass_of_methodNamed Bd.named
  have hnm := (name_of_methodNamed Bd.named Bd.method).1
  have X0 : Stand p l e ({ frames := 1, cells := 0, slots := 0, locals := 13 } : Room) s m #[(.ref s0)] below meth c s₁ [] 0 0 := Stand.of_body Bd
  have e0 : s₁.heap = h0 := by rw [← hh, Bd.state]; rfl
  have N0 := Fr.nil n0
  have k0 : ∀ tg_, Steps p.tables e below (s₁.setTop (mkF m 0 #[.val (.ref s0)] [])) tg_ → Steps p.tables e below (s₁.setTop (entryFrame m #[(.ref s0)] 1)) tg_ := fun tg_ k => castTop (ef_len_1 m s0) k
  obtain ⟨T51, X51, e51, st51⟩ := getF X0 hx hZ hown (host := "") (Or.inl (hw _ (List.mem_of_getElem? (i := 39) rfl))) Via.refl e0 F_s0_value (g := (mkF m 1 #[.val (.ref s0)] [(.ref s0)])) rfl rfl (hb hby d7_1)
  obtain ⟨cq52, kq52, q52a, q52b, q52c⟩ := isOf hZ e51 E_s0
  obtain ⟨_, _, ⟨T52, L52, kc52, nc52⟩, -, X52, ⟨Lc52, hQ52, l52, y52, z52⟩, st52⟩ := X51.virtualBack hx (y := (⟨"java/lang/String", "coder", "()B"⟩ : MethodName)) (z := (⟨"java/lang/String", "coder", "()B"⟩ : MethodName)) hown (mvT hZ (hw _ (List.mem_of_getElem? (i := 46) rfl))) (mvT hZ (hw _ (List.mem_of_getElem? (i := 47) rfl))) (notFace_of_selects (args := #[]) (mvT hZ (hw _ (List.mem_of_getElem? (i := 49) rfl)))) (mvT hZ (hw _ (List.mem_of_getElem? (i := 49) rfl))) (mvT hZ (hw _ (List.mem_of_getElem? (i := 48) rfl))) (by decide) (backOf (W := 1) (rm8 l Z a0 hw [] s0 zc h0 n0 F_s0_coder S_COMPACT_STRINGS hz) hZ (hw _ (List.mem_of_getElem? (i := 50) rfl)) (hw _ (List.mem_of_getElem? (i := 24) rfl)) (by decide) (by decide)) q52a q52c (g := (mkF m 6 #[.val (.ref s0)] [(.ref s0), (.int (1 : Int32))])) rfl (by rw [hml]; rfl) (Steps.refl _) (argsL := []) (rest := [(.int (1 : Int32))]) (lenOf pd_7 rfl) rfl (by show 2 * 0 + _ ≤ _; exact Nat.le_of_eq rfl) (hb hby d7_6) (fun _ _ => ⟨rfl, e51, (by decide : 0 + 0 ≤ _), (by decide : 0 + 0 ≤ _)⟩)
  dsimp only [Pt.U, Pt.locs, Pt.cells, Pt.slots] at X52 l52 y52 z52 st52 hQ52
  rw [l52, y52, z52] at X52
  replace X52 : Stand p l e ({ frames := 1, cells := 0, slots := 0, locals := 13 } : Room) s m #[(.ref s0)] below meth c T52 _ 0 0 := X52
  obtain ⟨rfl, Nq52, eq52⟩ := hQ52
  have N52 := Fr.app N0 Nq52
  have k53 : ∀ tg_, Steps p.tables e below (T52.setTop (mkF m 10 #[.val (.ref s0)] [(.int ((1 : Int32) >>> ((0 : Int32) &&& 31)))])) tg_ → Steps p.tables e below (s₁.setTop (entryFrame m #[(.ref s0)] 1)) tg_ := by
    intro tg_ kt
    refine k0 tg_ ?_
    refine XS.aloadN X0.here hx rfl (hb hby d7_0) rfl rfl ?_
    show Steps p.tables e below (s₁.setTop (mkF m 1 #[.val (.ref s0)] [(.ref s0)])) _
    refine st51 _ ?_
    show Steps p.tables e below (T51.setTop (mkF m 4 #[.val (.ref s0)] [(.ref va)])) _
    refine own_len X51 hx hZ e51 V_va (z := (1 : Int32)) (by decide) (g := (mkF m 4 #[.val (.ref s0)] [(.ref va)])) rfl rfl (hb hby d7_4) _ ?_
    show Steps p.tables e below (T51.setTop (mkF m 5 #[.val (.ref s0)] [(.int (1 : Int32))])) _
    refine XS.aloadN X51.here hx rfl (hb hby d7_5) rfl rfl ?_
    show Steps p.tables e below (T51.setTop (mkF m 6 #[.val (.ref s0)] [(.ref s0), (.int (1 : Int32))])) _
    refine st52.trans ?_
    show Steps p.tables e below (T52.setTop (mkF m 9 #[.val (.ref s0)] [(.int (0 : Int32)), (.int (1 : Int32))])) _
    refine XS.ishr X52.here hx rfl (hb hby d7_9) rfl ?_
    show Steps p.tables e below (T52.setTop (mkF m 10 #[.val (.ref s0)] [(.int ((1 : Int32) >>> ((0 : Int32) &&& 31)))])) _
    exact kt
  obtain ⟨fs, hr, hrun, hended, hW, hsame⟩ := X52.leave (v := some (.int ((1 : Int32) >>> ((0 : Int32) &&& 31)))) (fun h => by rw [Bd.returns] at h; cases h)
  refine ⟨_, _, k53 _ (retI X52 hx Bd.returns (hb hby d7_10) hr), hrun, hended, _, _, rfl, ?_, ⟨_, rfl⟩, hW, hsame.mono (by decide) (by decide)⟩
  show Qlen_1 Z s0 zc va f h0 n0 _ T52.heap _
  rw [eq52]
  exact ⟨rfl, N52, rfl⟩
theorem d13_0 : decode jdk_43_method_23_code 0 = .ok (.iload_n 1, 1) := by decide +kernel
theorem d13_1 : decode jdk_43_method_23_code 1 = .ok (.i2b, 1) := by decide +kernel
theorem d13_2 : decode jdk_43_method_23_code 2 = .ok (.istore 4, 2) := by decide +kernel
theorem d13_4 : decode jdk_43_method_23_code 4 = .ok (.iload_n 2, 1) := by decide +kernel
theorem d13_5 : decode jdk_43_method_23_code 5 = .ok (.istore 5, 2) := by decide +kernel
theorem d13_7 : decode jdk_43_method_23_code 7 = .ok (.iload 5, 2) := by decide +kernel
theorem d13_9 : decode jdk_43_method_23_code 9 = .ok (.iload_n 3, 1) := by decide +kernel
theorem d13_10 : decode jdk_43_method_23_code 10 = .ok (.if_icmp .ge 21, 3) := by decide +kernel
theorem d13_13 : decode jdk_43_method_23_code 13 = .ok (.aload_n 0, 1) := by decide +kernel
theorem d13_14 : decode jdk_43_method_23_code 14 = .ok (.iload 5, 2) := by decide +kernel
theorem d13_16 : decode jdk_43_method_23_code 16 = .ok (.baload, 1) := by decide +kernel
theorem d13_17 : decode jdk_43_method_23_code 17 = .ok (.iload 4, 2) := by decide +kernel
theorem d13_19 : decode jdk_43_method_23_code 19 = .ok (.if_icmp .ne 6, 3) := by decide +kernel
theorem d13_22 : decode jdk_43_method_23_code 22 = .ok (.iload 5, 2) := by decide +kernel
theorem d13_24 : decode jdk_43_method_23_code 24 = .ok (.ireturn, 1) := by decide +kernel
theorem d13_25 : decode jdk_43_method_23_code 25 = .ok (.iinc 5 1, 3) := by decide +kernel
theorem d13_28 : decode jdk_43_method_23_code 28 = .ok (.goto (-21), 3) := by decide +kernel
theorem d13_31 : decode jdk_43_method_23_code 31 = .ok (.iconst (-1), 1) := by decide +kernel
theorem d13_32 : decode jdk_43_method_23_code 32 = .ok (.ireturn, 1) := by decide +kernel
theorem pn_13 : plainName "java/lang/StringLatin1" = true := by first | (simp [plainName, overriddenIn]; done) | decide +kernel
theorem ef_ioc_1 (m : MethodId) (x0 : Addr) (x1 : Int32) (x2 : Int32) (x3 : Int32) : entryFrame m #[(.ref x0), (.int x1), (.int x2), (.int x3)] 6 = mkF m 0 #[.val (.ref x0), .val (.int x1), .val (.int x2), .val (.int x3), .unset, .unset] [] := by first | (simp [entryFrame, mkF, argsToLocals, Value.category]; done) | rfl
def own_ioc_1 (ch : Int32) (fr : Int32) (y0 : Int32) : Int32 := (if y0 = (ch.toInt8.toInt32) then fr else (-1 : Int32))
theorem own_eq_own_ioc_1 (ch : Int32) (fr : Int32) (y0 : Int32) : own_ioc_1 ch fr y0 = (if y0 = (ch.toInt8.toInt32) then fr else (-1 : Int32)) := rfl
def Qioc_1 (Z : State) (va : Addr) (ch : Int32) (fr : Int32) (mx : Int32) (f : Nat → Int32) (y0 : Int32) (h0 : Heap) (n0 : Nat) (rv_ : Option Value) (h : Heap) (LL_ : List Loc) : Prop := rv_ = some (.int (own_ioc_1 ch fr y0)) ∧ Fr n0 LL_ ∧ h = h0
set_option maxRecDepth 65536 in
set_option maxHeartbeats 40000000 in
theorem rmioc_1 (l : Launch) (Z : State) (a0 : Array Value) (hw : ∀ d ∈ tables_1, d.before a0 Z = true) (ws : List Jvm.Cond) (va : Addr) (ch : Int32) (fr : Int32) (mx : Int32) (f : Nat → Int32) (y0 : Int32) (h0 : Heap) (n0 : Nat) (V_va : own_AI Z h0 va .byte 1 f) (hfr : fr = (0 : Int32)) (hmx : mx = (1 : Int32)) (hy0 : f 0 = y0) :
    MetFree l (⟨"java/lang/StringLatin1", "indexOfChar", "([BIII)I"⟩ : MethodName) (head1 (Jvm.Cond.code (⟨"java/lang/StringLatin1", "indexOfChar", "([BIII)I"⟩ : MethodName) jdk_43_method_23_code 6 (some .int) :: ws) ({ frames := 0, cells := 0, slots := 0, locals := 0 } : Room)) (fun aa UU => aa = #[(.ref va), (.int ch), (.int fr), (.int mx)] ∧ Z.Warmed39 UU.vm ∧ UU.heap = h0) (fun _ _ _ _ _ => True) (fun _ UU oo UV => ∃ vv LL, oo = .returned vv ∧ Qioc_1 Z va ch fr mx f y0 h0 n0 vv UV.heap LL ∧ FrameEnd UU oo UV LL ({ frames := 0, cells := 0, slots := 0, locals := 0 } : Room).cells ({ frames := 0, cells := 0, slots := 0, locals := 0 } : Room).slots) := by
  refine MetFree.of_bodySF (plainFor_of_name pn_13) hisR ?_
  intro p e s m args below meth c s₁ Bd hml0 hP hK
  obtain ⟨rfl, hZ, hh⟩ := hP
  have hx := Bd.exec
  have hby := Bd.bytes
  have hml : c.maxLocals = 6 := hml0
  have hown : s.vm.findClass "java/lang/StringLatin1" = some m.cls := findClass_of_methodNamed Bd.named
  have hnm := (name_of_methodNamed Bd.named Bd.method).1
  have X0 : Stand p l e ({ frames := 0, cells := 0, slots := 0, locals := 0 } : Room) s m #[(.ref va), (.int ch), (.int fr), (.int mx)] below meth c s₁ [] 0 0 := Stand.of_body Bd
  have e0 : s₁.heap = h0 := by rw [← hh, Bd.state]; rfl
  have N0 := Fr.nil n0
  have k0 : ∀ tg_, Steps p.tables e below (s₁.setTop (mkF m 0 #[.val (.ref va), .val (.int ch), .val (.int fr), .val (.int mx), .unset, .unset] [])) tg_ → Steps p.tables e below (s₁.setTop (entryFrame m #[(.ref va), (.int ch), (.int fr), (.int mx)] 6)) tg_ := fun tg_ k => castTop (ef_ioc_1 m va ch fr mx) k
  have hc10_54 : fr < mx := (by rw [hfr, hmx]; decide)
  have k55 : ∀ tg_, Steps p.tables e below (s₁.setTop (mkF m 19 #[.val (.ref va), .val (.int ch), .val (.int fr), .val (.int mx), .val (.int (ch.toInt8.toInt32)), .val (.int fr)] [(.int (ch.toInt8.toInt32)), (.int y0)])) tg_ → Steps p.tables e below (s₁.setTop (entryFrame m #[(.ref va), (.int ch), (.int fr), (.int mx)] 6)) tg_ := by
    intro tg_ kt
    refine k0 tg_ ?_
    refine XS.iloadN X0.here hx rfl (hb hby d13_0) rfl ?_
    show Steps p.tables e below (s₁.setTop (mkF m 1 #[.val (.ref va), .val (.int ch), .val (.int fr), .val (.int mx), .unset, .unset] [(.int ch)])) _
    refine XS.i2b X0.here hx rfl (hb hby d13_1) rfl ?_
    show Steps p.tables e below (s₁.setTop (mkF m 2 #[.val (.ref va), .val (.int ch), .val (.int fr), .val (.int mx), .unset, .unset] [(.int (ch.toInt8.toInt32))])) _
    refine XS.istore X0.here hx rfl (hb hby d13_2) rfl (l' := #[.val (.ref va), .val (.int ch), .val (.int fr), .val (.int mx), .val (.int (ch.toInt8.toInt32)), .unset]) rfl ?_
    show Steps p.tables e below (s₁.setTop (mkF m 4 #[.val (.ref va), .val (.int ch), .val (.int fr), .val (.int mx), .val (.int (ch.toInt8.toInt32)), .unset] [])) _
    refine XS.iloadN X0.here hx rfl (hb hby d13_4) rfl ?_
    show Steps p.tables e below (s₁.setTop (mkF m 5 #[.val (.ref va), .val (.int ch), .val (.int fr), .val (.int mx), .val (.int (ch.toInt8.toInt32)), .unset] [(.int fr)])) _
    refine XS.istore X0.here hx rfl (hb hby d13_5) rfl (l' := #[.val (.ref va), .val (.int ch), .val (.int fr), .val (.int mx), .val (.int (ch.toInt8.toInt32)), .val (.int fr)]) rfl ?_
    show Steps p.tables e below (s₁.setTop (mkF m 7 #[.val (.ref va), .val (.int ch), .val (.int fr), .val (.int mx), .val (.int (ch.toInt8.toInt32)), .val (.int fr)] [])) _
    refine XS.iload X0.here hx rfl (hb hby d13_7) rfl ?_
    show Steps p.tables e below (s₁.setTop (mkF m 9 #[.val (.ref va), .val (.int ch), .val (.int fr), .val (.int mx), .val (.int (ch.toInt8.toInt32)), .val (.int fr)] [(.int fr)])) _
    refine XS.iloadN X0.here hx rfl (hb hby d13_9) rfl ?_
    show Steps p.tables e below (s₁.setTop (mkF m 10 #[.val (.ref va), .val (.int ch), .val (.int fr), .val (.int mx), .val (.int (ch.toInt8.toInt32)), .val (.int fr)] [(.int mx), (.int fr)])) _
    refine XS.icmpNo X0.here hx rfl (hb hby d13_10) rfl (tlt hc10_54).2.1 ?_
    show Steps p.tables e below (s₁.setTop (mkF m 13 #[.val (.ref va), .val (.int ch), .val (.int fr), .val (.int mx), .val (.int (ch.toInt8.toInt32)), .val (.int fr)] [])) _
    refine XS.aloadN X0.here hx rfl (hb hby d13_13) rfl rfl ?_
    show Steps p.tables e below (s₁.setTop (mkF m 14 #[.val (.ref va), .val (.int ch), .val (.int fr), .val (.int mx), .val (.int (ch.toInt8.toInt32)), .val (.int fr)] [(.ref va)])) _
    refine XS.iload X0.here hx rfl (hb hby d13_14) rfl ?_
    show Steps p.tables e below (s₁.setTop (mkF m 16 #[.val (.ref va), .val (.int ch), .val (.int fr), .val (.int mx), .val (.int (ch.toInt8.toInt32)), .val (.int fr)] [(.int fr), (.ref va)])) _
    refine own_ldB X0 hx hZ e0 V_va (i := 0) (by rw [hfr]; decide) (by decide) hy0 (g := (mkF m 16 #[.val (.ref va), .val (.int ch), .val (.int fr), .val (.int mx), .val (.int (ch.toInt8.toInt32)), .val (.int fr)] [(.int fr), (.ref va)])) rfl rfl (hb hby d13_16) _ ?_
    show Steps p.tables e below (s₁.setTop (mkF m 17 #[.val (.ref va), .val (.int ch), .val (.int fr), .val (.int mx), .val (.int (ch.toInt8.toInt32)), .val (.int fr)] [(.int y0)])) _
    refine XS.iload X0.here hx rfl (hb hby d13_17) rfl ?_
    show Steps p.tables e below (s₁.setTop (mkF m 19 #[.val (.ref va), .val (.int ch), .val (.int fr), .val (.int mx), .val (.int (ch.toInt8.toInt32)), .val (.int fr)] [(.int (ch.toInt8.toInt32)), (.int y0)])) _
    exact kt
  by_cases hc19_56 : y0 = (ch.toInt8.toInt32)
  · have k57 : ∀ tg_, Steps p.tables e below (s₁.setTop (mkF m 24 #[.val (.ref va), .val (.int ch), .val (.int fr), .val (.int mx), .val (.int (ch.toInt8.toInt32)), .val (.int fr)] [(.int fr)])) tg_ → Steps p.tables e below (s₁.setTop (entryFrame m #[(.ref va), (.int ch), (.int fr), (.int mx)] 6)) tg_ := by
      intro tg_ kt
      refine k55 tg_ ?_
      refine XS.icmpNo X0.here hx rfl (hb hby d13_19) rfl (teq hc19_56).2 ?_
      show Steps p.tables e below (s₁.setTop (mkF m 22 #[.val (.ref va), .val (.int ch), .val (.int fr), .val (.int mx), .val (.int (ch.toInt8.toInt32)), .val (.int fr)] [])) _
      refine XS.iload X0.here hx rfl (hb hby d13_22) rfl ?_
      show Steps p.tables e below (s₁.setTop (mkF m 24 #[.val (.ref va), .val (.int ch), .val (.int fr), .val (.int mx), .val (.int (ch.toInt8.toInt32)), .val (.int fr)] [(.int fr)])) _
      exact kt
    obtain ⟨fs, hr, hrun, hended, hW, hsame⟩ := X0.leave (v := some (.int fr)) (fun h => by rw [Bd.returns] at h; cases h)
    refine ⟨_, _, k57 _ (retI X0 hx Bd.returns (hb hby d13_24) hr), hrun, hended, _, _, rfl, ?_, ⟨_, rfl⟩, hW, hsame.mono (by decide) (by decide)⟩
    show Qioc_1 Z va ch fr mx f y0 h0 n0 _ s₁.heap _
    rw [e0]
    exact ⟨(by rw [own_eq_own_ioc_1]; rw [if_pos hc19_56]), N0, rfl⟩
  · have hc10_58 : ¬ ((fr + (1 : Int32)) < mx) := (by rw [hfr, hmx]; decide)
    have k59 : ∀ tg_, Steps p.tables e below (s₁.setTop (mkF m 32 #[.val (.ref va), .val (.int ch), .val (.int fr), .val (.int mx), .val (.int (ch.toInt8.toInt32)), .val (.int (fr + (1 : Int32)))] [(.int (-1 : Int32))])) tg_ → Steps p.tables e below (s₁.setTop (entryFrame m #[(.ref va), (.int ch), (.int fr), (.int mx)] 6)) tg_ := by
      intro tg_ kt
      refine k55 tg_ ?_
      refine XS.icmpYes X0.here hx rfl (pc0 := 19) (pc' := 25) rfl (hb hby d13_19) rfl (feq hc19_56).2 (by decide) (by decide) ?_
      show Steps p.tables e below (s₁.setTop (mkF m 25 #[.val (.ref va), .val (.int ch), .val (.int fr), .val (.int mx), .val (.int (ch.toInt8.toInt32)), .val (.int fr)] [])) _
      refine XS.iinc X0.here hx rfl (hb hby d13_25) rfl (l' := #[.val (.ref va), .val (.int ch), .val (.int fr), .val (.int mx), .val (.int (ch.toInt8.toInt32)), .val (.int (fr + (1 : Int32)))]) rfl ?_
      show Steps p.tables e below (s₁.setTop (mkF m 28 #[.val (.ref va), .val (.int ch), .val (.int fr), .val (.int mx), .val (.int (ch.toInt8.toInt32)), .val (.int (fr + (1 : Int32)))] [])) _
      refine XS.goto X0.here hx rfl (pc0 := 28) (pc' := 7) rfl (hb hby d13_28) (by decide) (by decide) ?_
      show Steps p.tables e below (s₁.setTop (mkF m 7 #[.val (.ref va), .val (.int ch), .val (.int fr), .val (.int mx), .val (.int (ch.toInt8.toInt32)), .val (.int (fr + (1 : Int32)))] [])) _
      refine XS.iload X0.here hx rfl (hb hby d13_7) rfl ?_
      show Steps p.tables e below (s₁.setTop (mkF m 9 #[.val (.ref va), .val (.int ch), .val (.int fr), .val (.int mx), .val (.int (ch.toInt8.toInt32)), .val (.int (fr + (1 : Int32)))] [(.int (fr + (1 : Int32)))])) _
      refine XS.iloadN X0.here hx rfl (hb hby d13_9) rfl ?_
      show Steps p.tables e below (s₁.setTop (mkF m 10 #[.val (.ref va), .val (.int ch), .val (.int fr), .val (.int mx), .val (.int (ch.toInt8.toInt32)), .val (.int (fr + (1 : Int32)))] [(.int mx), (.int (fr + (1 : Int32)))])) _
      refine XS.icmpYes X0.here hx rfl (pc0 := 10) (pc' := 31) rfl (hb hby d13_10) rfl (flt hc10_58).2.1 (by decide) (by decide) ?_
      show Steps p.tables e below (s₁.setTop (mkF m 31 #[.val (.ref va), .val (.int ch), .val (.int fr), .val (.int mx), .val (.int (ch.toInt8.toInt32)), .val (.int (fr + (1 : Int32)))] [])) _
      refine XS.iconst X0.here hx rfl (hb hby d13_31) ?_
      show Steps p.tables e below (s₁.setTop (mkF m 32 #[.val (.ref va), .val (.int ch), .val (.int fr), .val (.int mx), .val (.int (ch.toInt8.toInt32)), .val (.int (fr + (1 : Int32)))] [(.int (-1 : Int32))])) _
      exact kt
    obtain ⟨fs, hr, hrun, hended, hW, hsame⟩ := X0.leave (v := some (.int (-1 : Int32))) (fun h => by rw [Bd.returns] at h; cases h)
    refine ⟨_, _, k59 _ (retI X0 hx Bd.returns (hb hby d13_32) hr), hrun, hended, _, _, rfl, ?_, ⟨_, rfl⟩, hW, hsame.mono (by decide) (by decide)⟩
    show Qioc_1 Z va ch fr mx f y0 h0 n0 _ s₁.heap _
    rw [e0]
    exact ⟨(by rw [own_eq_own_ioc_1]; rw [if_neg hc19_56]), N0, rfl⟩
theorem d9_29 : decode jdk_43_method_22_code 29 = .ok (.aload_n 0, 1) := by decide +kernel
theorem d9_30 : decode jdk_43_method_22_code 30 = .ok (.iload_n 1, 1) := by decide +kernel
theorem d9_31 : decode jdk_43_method_22_code 31 = .ok (.iload_n 2, 1) := by decide +kernel
theorem d9_32 : decode jdk_43_method_22_code 32 = .ok (.iload_n 3, 1) := by decide +kernel
theorem d9_33 : decode jdk_43_method_22_code 33 = .ok (.invokestatic 95, 3) := by decide +kernel
theorem d9_36 : decode jdk_43_method_22_code 36 = .ok (.ireturn, 1) := by decide +kernel
theorem ef_io_1 (m : MethodId) (x0 : Addr) (x1 : Int32) (x2 : Int32) (x3 : Int32) : entryFrame m #[(.ref x0), (.int x1), (.int x2), (.int x3)] 4 = mkF m 0 #[.val (.ref x0), .val (.int x1), .val (.int x2), .val (.int x3)] [] := by first | (simp [entryFrame, mkF, argsToLocals, Value.category]; done) | rfl
def own_io_1 (ch : Int32) (fr : Int32) (to_ : Int32) (y0 : Int32) : Int32 := (if (own_ce ch) = (0 : Int32) then (-1 : Int32) else (own_ioc_1 ch (own_max fr (0 : Int32)) y0))
theorem own_eq_own_io_1 (ch : Int32) (fr : Int32) (to_ : Int32) (y0 : Int32) : own_io_1 ch fr to_ y0 = (if (own_ce ch) = (0 : Int32) then (-1 : Int32) else (own_ioc_1 ch (own_max fr (0 : Int32)) y0)) := rfl
def Qio_1 (Z : State) (va : Addr) (ch : Int32) (fr : Int32) (to_ : Int32) (f : Nat → Int32) (y0 : Int32) (h0 : Heap) (n0 : Nat) (rv_ : Option Value) (h : Heap) (LL_ : List Loc) : Prop := rv_ = some (.int (own_io_1 ch fr to_ y0)) ∧ Fr n0 LL_ ∧ h = h0
set_option maxRecDepth 65536 in
set_option maxHeartbeats 40000000 in
theorem rmio_1 (l : Launch) (Z : State) (a0 : Array Value) (hw : ∀ d ∈ tables_1, d.before a0 Z = true) (ws : List Jvm.Cond) (va : Addr) (ch : Int32) (fr : Int32) (to_ : Int32) (f : Nat → Int32) (y0 : Int32) (h0 : Heap) (n0 : Nat) (V_va : own_AI Z h0 va .byte 1 f) (hfr : fr = (0 : Int32)) (hto : to_ = (1 : Int32)) (hy0 : f 0 = y0) :
    MetFree l (⟨"java/lang/StringLatin1", "indexOf", "([BIII)I"⟩ : MethodName) (head1 (Jvm.Cond.code (⟨"java/lang/StringLatin1", "indexOf", "([BIII)I"⟩ : MethodName) jdk_43_method_22_code 4 (some .int) :: ws) ({ frames := 1, cells := 0, slots := 0, locals := 17 } : Room)) (fun aa UU => aa = #[(.ref va), (.int ch), (.int fr), (.int to_)] ∧ Z.Warmed39 UU.vm ∧ UU.heap = h0) (fun _ _ _ _ _ => True) (fun _ UU oo UV => ∃ vv LL, oo = .returned vv ∧ Qio_1 Z va ch fr to_ f y0 h0 n0 vv UV.heap LL ∧ FrameEnd UU oo UV LL ({ frames := 1, cells := 0, slots := 0, locals := 17 } : Room).cells ({ frames := 1, cells := 0, slots := 0, locals := 17 } : Room).slots) := by
  refine MetFree.of_bodySF (plainFor_of_name pn_9) hisR ?_
  intro p e s m args below meth c s₁ Bd hml0 hP hK
  obtain ⟨rfl, hZ, hh⟩ := hP
  have hx := Bd.exec
  have hby := Bd.bytes
  have hml : c.maxLocals = 4 := hml0
  have hown : s.vm.findClass "java/lang/StringLatin1" = some m.cls := findClass_of_methodNamed Bd.named
  have hnm := (name_of_methodNamed Bd.named Bd.method).1
  have X0 : Stand p l e ({ frames := 1, cells := 0, slots := 0, locals := 17 } : Room) s m #[(.ref va), (.int ch), (.int fr), (.int to_)] below meth c s₁ [] 0 0 := Stand.of_body Bd
  have e0 : s₁.heap = h0 := by rw [← hh, Bd.state]; rfl
  have N0 := Fr.nil n0
  have k0 : ∀ tg_, Steps p.tables e below (s₁.setTop (mkF m 0 #[.val (.ref va), .val (.int ch), .val (.int fr), .val (.int to_)] [])) tg_ → Steps p.tables e below (s₁.setTop (entryFrame m #[(.ref va), (.int ch), (.int fr), (.int to_)] 4)) tg_ := fun tg_ k => castTop (ef_io_1 m va ch fr to_) k
  obtain ⟨_, _, ⟨T60, L60, kc60, nc60⟩, -, X60, ⟨Lc60, hQ60, l60, y60, z60⟩, st60⟩ := Jvm.LawKit.callS X0 hx (y := (⟨"java/lang/StringLatin1", "canEncode", "(I)Z"⟩ : MethodName)) hown (mvT hZ (hw _ (List.mem_of_getElem? (i := 55) rfl))) (mvT hZ (hw _ (List.mem_of_getElem? (i := 56) rfl))) (mvT hZ (hw _ (List.mem_of_getElem? (i := 53) rfl))) (mvT hZ (hw _ (List.mem_of_getElem? (i := 57) rfl))) (by decide) (backOf (W := 0) (rm10 l Z a0 hw [] ch h0 n0 ) hZ (hw _ (List.mem_of_getElem? (i := 57) rfl)) (hw _ (List.mem_of_getElem? (i := 53) rfl)) (by decide) (by decide)) (g := (mkF m 1 #[.val (.ref va), .val (.int ch), .val (.int fr), .val (.int to_)] [(.int ch)])) rfl (by rw [hml]; rfl) (argsL := [(.int ch)]) (rest := []) (lenOf pd_9 rfl) rfl (by show 2 * 0 + _ ≤ _; exact Nat.le_of_eq rfl) (hb hby d9_1) (fun _ _ => ⟨rfl, e0, (by decide : 0 + 0 ≤ _), (by decide : 0 + 0 ≤ _)⟩)
  dsimp only [Pt.U, Pt.locs, Pt.cells, Pt.slots] at X60 l60 y60 z60 st60 hQ60
  rw [l60, y60, z60] at X60
  replace X60 : Stand p l e ({ frames := 1, cells := 0, slots := 0, locals := 17 } : Room) s m #[(.ref va), (.int ch), (.int fr), (.int to_)] below meth c T60 _ 0 0 := X60
  obtain ⟨rfl, Nq60, eq60⟩ := hQ60
  have N60 := Fr.app N0 Nq60
  have k61 : ∀ tg_, Steps p.tables e below (T60.setTop (mkF m 4 #[.val (.ref va), .val (.int ch), .val (.int fr), .val (.int to_)] [(.int (own_ce ch))])) tg_ → Steps p.tables e below (s₁.setTop (entryFrame m #[(.ref va), (.int ch), (.int fr), (.int to_)] 4)) tg_ := by
    intro tg_ kt
    refine k0 tg_ ?_
    refine XS.iloadN X0.here hx rfl (hb hby d9_0) rfl ?_
    show Steps p.tables e below (s₁.setTop (mkF m 1 #[.val (.ref va), .val (.int ch), .val (.int fr), .val (.int to_)] [(.int ch)])) _
    refine st60 _ ?_
    show Steps p.tables e below (T60.setTop (mkF m 4 #[.val (.ref va), .val (.int ch), .val (.int fr), .val (.int to_)] [(.int (own_ce ch))])) _
    exact kt
  by_cases hc4_62 : (own_ce ch) = (0 : Int32)
  · have k63 : ∀ tg_, Steps p.tables e below (T60.setTop (mkF m 8 #[.val (.ref va), .val (.int ch), .val (.int fr), .val (.int to_)] [(.int (-1 : Int32))])) tg_ → Steps p.tables e below (s₁.setTop (entryFrame m #[(.ref va), (.int ch), (.int fr), (.int to_)] 4)) tg_ := by
      intro tg_ kt
      refine k61 tg_ ?_
      refine XS.ifNo X60.here hx rfl (hb hby d9_4) rfl ((if0 _ _).trans (teq hc4_62).2) ?_
      show Steps p.tables e below (T60.setTop (mkF m 7 #[.val (.ref va), .val (.int ch), .val (.int fr), .val (.int to_)] [])) _
      refine XS.iconst X60.here hx rfl (hb hby d9_7) ?_
      show Steps p.tables e below (T60.setTop (mkF m 8 #[.val (.ref va), .val (.int ch), .val (.int fr), .val (.int to_)] [(.int (-1 : Int32))])) _
      exact kt
    obtain ⟨fs, hr, hrun, hended, hW, hsame⟩ := X60.leave (v := some (.int (-1 : Int32))) (fun h => by rw [Bd.returns] at h; cases h)
    refine ⟨_, _, k63 _ (retI X60 hx Bd.returns (hb hby d9_8) hr), hrun, hended, _, _, rfl, ?_, ⟨_, rfl⟩, hW, hsame.mono (by decide) (by decide)⟩
    show Qio_1 Z va ch fr to_ f y0 h0 n0 _ T60.heap _
    rw [eq60]
    exact ⟨(by rw [own_eq_own_io_1]; rw [if_pos hc4_62]), N60, rfl⟩
  · obtain ⟨_, _, ⟨T64, L64, kc64, nc64⟩, -, X64, ⟨Lc64, hQ64, l64, y64, z64⟩, st64⟩ := Jvm.LawKit.callS X60 hx (y := (⟨"java/lang/Math", "max", "(II)I"⟩ : MethodName)) hown (mvT hZ (hw _ (List.mem_of_getElem? (i := 58) rfl))) (mvT hZ (hw _ (List.mem_of_getElem? (i := 59) rfl))) (mvT hZ (hw _ (List.mem_of_getElem? (i := 60) rfl))) (mvT hZ (hw _ (List.mem_of_getElem? (i := 61) rfl))) (by decide) (backOf (W := 0) (rm11 l Z a0 hw [] fr (0 : Int32) h0 n0 ) hZ (hw _ (List.mem_of_getElem? (i := 61) rfl)) (hw _ (List.mem_of_getElem? (i := 60) rfl)) (by decide) (by decide)) (g := (mkF m 11 #[.val (.ref va), .val (.int ch), .val (.int fr), .val (.int to_)] [(.int (0 : Int32)), (.int fr)])) rfl (by rw [hml]; rfl) (argsL := [(.int fr), (.int (0 : Int32))]) (rest := []) (lenOf pd_4 rfl) rfl (by show 2 * 0 + _ ≤ _; exact Nat.le_of_eq rfl) (hb hby d9_11) (fun _ _ => ⟨rfl, eq60, (by decide : 0 + 0 ≤ _), (by decide : 0 + 0 ≤ _)⟩)
    dsimp only [Pt.U, Pt.locs, Pt.cells, Pt.slots] at X64 l64 y64 z64 st64 hQ64
    rw [l64, y64, z64] at X64
    replace X64 : Stand p l e ({ frames := 1, cells := 0, slots := 0, locals := 17 } : Room) s m #[(.ref va), (.int ch), (.int fr), (.int to_)] below meth c T64 _ 0 0 := X64
    obtain ⟨rfl, Nq64, eq64⟩ := hQ64
    have N64 := Fr.app N60 Nq64
    obtain ⟨_, _, ⟨T65, L65, kc65, nc65⟩, -, X65, ⟨Lc65, hQ65, l65, y65, z65⟩, st65⟩ := Jvm.LawKit.callS X64 hx (y := (⟨"java/lang/Math", "min", "(II)I"⟩ : MethodName)) hown (mvT hZ (hw _ (List.mem_of_getElem? (i := 62) rfl))) (mvT hZ (hw _ (List.mem_of_getElem? (i := 63) rfl))) (mvT hZ (hw _ (List.mem_of_getElem? (i := 60) rfl))) (mvT hZ (hw _ (List.mem_of_getElem? (i := 64) rfl))) (by decide) (backOf (W := 0) (rm12 l Z a0 hw [] to_ (1 : Int32) h0 n0 ) hZ (hw _ (List.mem_of_getElem? (i := 64) rfl)) (hw _ (List.mem_of_getElem? (i := 60) rfl)) (by decide) (by decide)) (g := (mkF m 18 #[.val (.ref va), .val (.int ch), .val (.int (own_max fr (0 : Int32))), .val (.int to_)] [(.int (1 : Int32)), (.int to_)])) rfl (by rw [hml]; rfl) (argsL := [(.int to_), (.int (1 : Int32))]) (rest := []) (lenOf pd_4 rfl) rfl (by show 2 * 0 + _ ≤ _; exact Nat.le_of_eq rfl) (hb hby d9_18) (fun _ _ => ⟨rfl, eq64, (by decide : 0 + 0 ≤ _), (by decide : 0 + 0 ≤ _)⟩)
    dsimp only [Pt.U, Pt.locs, Pt.cells, Pt.slots] at X65 l65 y65 z65 st65 hQ65
    rw [l65, y65, z65] at X65
    replace X65 : Stand p l e ({ frames := 1, cells := 0, slots := 0, locals := 17 } : Room) s m #[(.ref va), (.int ch), (.int fr), (.int to_)] below meth c T65 _ 0 0 := X65
    obtain ⟨rfl, Nq65, eq65⟩ := hQ65
    have N65 := Fr.app N64 Nq65
    have hc24_66 : (own_max fr (0 : Int32)) < (own_min to_ (1 : Int32)) := (by rw [hfr, hto]; decide)
    have k67 : ∀ tg_, Steps p.tables e below (T65.setTop (mkF m 29 #[.val (.ref va), .val (.int ch), .val (.int (own_max fr (0 : Int32))), .val (.int (own_min to_ (1 : Int32)))] [])) tg_ → Steps p.tables e below (s₁.setTop (entryFrame m #[(.ref va), (.int ch), (.int fr), (.int to_)] 4)) tg_ := by
      intro tg_ kt
      refine k61 tg_ ?_
      refine XS.ifYes X60.here hx rfl (pc0 := 4) (pc' := 9) rfl (hb hby d9_4) rfl ((if0 _ _).trans (feq hc4_62).2) (by decide) (by decide) ?_
      show Steps p.tables e below (T60.setTop (mkF m 9 #[.val (.ref va), .val (.int ch), .val (.int fr), .val (.int to_)] [])) _
      refine XS.iloadN X60.here hx rfl (hb hby d9_9) rfl ?_
      show Steps p.tables e below (T60.setTop (mkF m 10 #[.val (.ref va), .val (.int ch), .val (.int fr), .val (.int to_)] [(.int fr)])) _
      refine XS.iconst X60.here hx rfl (hb hby d9_10) ?_
      show Steps p.tables e below (T60.setTop (mkF m 11 #[.val (.ref va), .val (.int ch), .val (.int fr), .val (.int to_)] [(.int (0 : Int32)), (.int fr)])) _
      refine st64 _ ?_
      show Steps p.tables e below (T64.setTop (mkF m 14 #[.val (.ref va), .val (.int ch), .val (.int fr), .val (.int to_)] [(.int (own_max fr (0 : Int32)))])) _
      refine XS.istoreN X64.here hx rfl (hb hby d9_14) rfl (l' := #[.val (.ref va), .val (.int ch), .val (.int (own_max fr (0 : Int32))), .val (.int to_)]) rfl ?_
      show Steps p.tables e below (T64.setTop (mkF m 15 #[.val (.ref va), .val (.int ch), .val (.int (own_max fr (0 : Int32))), .val (.int to_)] [])) _
      refine XS.iloadN X64.here hx rfl (hb hby d9_15) rfl ?_
      show Steps p.tables e below (T64.setTop (mkF m 16 #[.val (.ref va), .val (.int ch), .val (.int (own_max fr (0 : Int32))), .val (.int to_)] [(.int to_)])) _
      refine XS.aloadN X64.here hx rfl (hb hby d9_16) rfl rfl ?_
      show Steps p.tables e below (T64.setTop (mkF m 17 #[.val (.ref va), .val (.int ch), .val (.int (own_max fr (0 : Int32))), .val (.int to_)] [(.ref va), (.int to_)])) _
      refine own_len X64 hx hZ eq64 V_va (z := (1 : Int32)) (by decide) (g := (mkF m 17 #[.val (.ref va), .val (.int ch), .val (.int (own_max fr (0 : Int32))), .val (.int to_)] [(.ref va), (.int to_)])) rfl rfl (hb hby d9_17) _ ?_
      show Steps p.tables e below (T64.setTop (mkF m 18 #[.val (.ref va), .val (.int ch), .val (.int (own_max fr (0 : Int32))), .val (.int to_)] [(.int (1 : Int32)), (.int to_)])) _
      refine st65 _ ?_
      show Steps p.tables e below (T65.setTop (mkF m 21 #[.val (.ref va), .val (.int ch), .val (.int (own_max fr (0 : Int32))), .val (.int to_)] [(.int (own_min to_ (1 : Int32)))])) _
      refine XS.istoreN X65.here hx rfl (hb hby d9_21) rfl (l' := #[.val (.ref va), .val (.int ch), .val (.int (own_max fr (0 : Int32))), .val (.int (own_min to_ (1 : Int32)))]) rfl ?_
      show Steps p.tables e below (T65.setTop (mkF m 22 #[.val (.ref va), .val (.int ch), .val (.int (own_max fr (0 : Int32))), .val (.int (own_min to_ (1 : Int32)))] [])) _
      refine XS.iloadN X65.here hx rfl (hb hby d9_22) rfl ?_
      show Steps p.tables e below (T65.setTop (mkF m 23 #[.val (.ref va), .val (.int ch), .val (.int (own_max fr (0 : Int32))), .val (.int (own_min to_ (1 : Int32)))] [(.int (own_max fr (0 : Int32)))])) _
      refine XS.iloadN X65.here hx rfl (hb hby d9_23) rfl ?_
      show Steps p.tables e below (T65.setTop (mkF m 24 #[.val (.ref va), .val (.int ch), .val (.int (own_max fr (0 : Int32))), .val (.int (own_min to_ (1 : Int32)))] [(.int (own_min to_ (1 : Int32))), (.int (own_max fr (0 : Int32)))])) _
      refine XS.icmpYes X65.here hx rfl (pc0 := 24) (pc' := 29) rfl (hb hby d9_24) rfl (tlt hc24_66).1 (by decide) (by decide) ?_
      show Steps p.tables e below (T65.setTop (mkF m 29 #[.val (.ref va), .val (.int ch), .val (.int (own_max fr (0 : Int32))), .val (.int (own_min to_ (1 : Int32)))] [])) _
      exact kt
    have hfrm : (own_max fr (0 : Int32)) = (0 : Int32) := by rw [hfr]; decide
    have hmxm : (own_min to_ (1 : Int32)) = (1 : Int32) := by rw [hto]; decide
    obtain ⟨_, _, ⟨T68, L68, kc68, nc68⟩, -, X68, ⟨Lc68, hQ68, l68, y68, z68⟩, st68⟩ := Jvm.LawKit.callS X65 hx (y := (⟨"java/lang/StringLatin1", "indexOfChar", "([BIII)I"⟩ : MethodName)) hown (mvT hZ (hw _ (List.mem_of_getElem? (i := 65) rfl))) (mvT hZ (hw _ (List.mem_of_getElem? (i := 66) rfl))) (mvT hZ (hw _ (List.mem_of_getElem? (i := 53) rfl))) (mvT hZ (hw _ (List.mem_of_getElem? (i := 67) rfl))) (by decide) (backOf (W := 0) (rmioc_1 l Z a0 hw [] va ch (own_max fr (0 : Int32)) (own_min to_ (1 : Int32)) f y0 h0 n0 V_va hfrm hmxm hy0) hZ (hw _ (List.mem_of_getElem? (i := 67) rfl)) (hw _ (List.mem_of_getElem? (i := 53) rfl)) (by decide) (by decide)) (g := (mkF m 33 #[.val (.ref va), .val (.int ch), .val (.int (own_max fr (0 : Int32))), .val (.int (own_min to_ (1 : Int32)))] [(.int (own_min to_ (1 : Int32))), (.int (own_max fr (0 : Int32))), (.int ch), (.ref va)])) rfl (by rw [hml]; rfl) (argsL := [(.ref va), (.int ch), (.int (own_max fr (0 : Int32))), (.int (own_min to_ (1 : Int32)))]) (rest := []) (lenOf pd_8 rfl) rfl (by show 2 * 0 + _ ≤ _; exact Nat.le_of_eq rfl) (hb hby d9_33) (fun _ _ => ⟨rfl, eq65, (by decide : 0 + 0 ≤ _), (by decide : 0 + 0 ≤ _)⟩)
    dsimp only [Pt.U, Pt.locs, Pt.cells, Pt.slots] at X68 l68 y68 z68 st68 hQ68
    rw [l68, y68, z68] at X68
    replace X68 : Stand p l e ({ frames := 1, cells := 0, slots := 0, locals := 17 } : Room) s m #[(.ref va), (.int ch), (.int fr), (.int to_)] below meth c T68 _ 0 0 := X68
    obtain ⟨rfl, Nq68, eq68⟩ := hQ68
    have N68 := Fr.app N65 Nq68
    have k69 : ∀ tg_, Steps p.tables e below (T68.setTop (mkF m 36 #[.val (.ref va), .val (.int ch), .val (.int (own_max fr (0 : Int32))), .val (.int (own_min to_ (1 : Int32)))] [(.int (own_ioc_1 ch (own_max fr (0 : Int32)) y0))])) tg_ → Steps p.tables e below (s₁.setTop (entryFrame m #[(.ref va), (.int ch), (.int fr), (.int to_)] 4)) tg_ := by
      intro tg_ kt
      refine k67 tg_ ?_
      refine XS.aloadN X65.here hx rfl (hb hby d9_29) rfl rfl ?_
      show Steps p.tables e below (T65.setTop (mkF m 30 #[.val (.ref va), .val (.int ch), .val (.int (own_max fr (0 : Int32))), .val (.int (own_min to_ (1 : Int32)))] [(.ref va)])) _
      refine XS.iloadN X65.here hx rfl (hb hby d9_30) rfl ?_
      show Steps p.tables e below (T65.setTop (mkF m 31 #[.val (.ref va), .val (.int ch), .val (.int (own_max fr (0 : Int32))), .val (.int (own_min to_ (1 : Int32)))] [(.int ch), (.ref va)])) _
      refine XS.iloadN X65.here hx rfl (hb hby d9_31) rfl ?_
      show Steps p.tables e below (T65.setTop (mkF m 32 #[.val (.ref va), .val (.int ch), .val (.int (own_max fr (0 : Int32))), .val (.int (own_min to_ (1 : Int32)))] [(.int (own_max fr (0 : Int32))), (.int ch), (.ref va)])) _
      refine XS.iloadN X65.here hx rfl (hb hby d9_32) rfl ?_
      show Steps p.tables e below (T65.setTop (mkF m 33 #[.val (.ref va), .val (.int ch), .val (.int (own_max fr (0 : Int32))), .val (.int (own_min to_ (1 : Int32)))] [(.int (own_min to_ (1 : Int32))), (.int (own_max fr (0 : Int32))), (.int ch), (.ref va)])) _
      refine st68 _ ?_
      show Steps p.tables e below (T68.setTop (mkF m 36 #[.val (.ref va), .val (.int ch), .val (.int (own_max fr (0 : Int32))), .val (.int (own_min to_ (1 : Int32)))] [(.int (own_ioc_1 ch (own_max fr (0 : Int32)) y0))])) _
      exact kt
    obtain ⟨fs, hr, hrun, hended, hW, hsame⟩ := X68.leave (v := some (.int (own_ioc_1 ch (own_max fr (0 : Int32)) y0))) (fun h => by rw [Bd.returns] at h; cases h)
    refine ⟨_, _, k69 _ (retI X68 hx Bd.returns (hb hby d9_36) hr), hrun, hended, _, _, rfl, ?_, ⟨_, rfl⟩, hW, hsame.mono (by decide) (by decide)⟩
    show Qio_1 Z va ch fr to_ f y0 h0 n0 _ T68.heap _
    rw [eq68]
    exact ⟨(by rw [own_eq_own_io_1]; rw [if_neg hc4_62]), N68, rfl⟩
theorem ef_ii_1 (m : MethodId) (x0 : Addr) (x1 : Int32) (x2 : Int32) : entryFrame m #[(.ref x0), (.int x1), (.int x2)] 3 = mkF m 0 #[.val (.ref x0), .val (.int x1), .val (.int x2)] [] := by first | (simp [entryFrame, mkF, argsToLocals, Value.category]; done) | rfl
def own_ii_1 (ch : Int32) (fr : Int32) (y0 : Int32) : Int32 := (own_io_1 ch fr (1 : Int32) y0)
theorem own_eq_own_ii_1 (ch : Int32) (fr : Int32) (y0 : Int32) : own_ii_1 ch fr y0 = (own_io_1 ch fr (1 : Int32) y0) := rfl
def Qii_1 (Z : State) (s0 : Addr) (ch : Int32) (fr : Int32) (zc : Int32) (va : Addr) (f : Nat → Int32) (y0 : Int32) (h0 : Heap) (n0 : Nat) (rv_ : Option Value) (h : Heap) (LL_ : List Loc) : Prop := rv_ = some (.int (own_ii_1 ch fr y0)) ∧ Fr n0 LL_ ∧ h = h0
set_option maxRecDepth 65536 in
set_option maxHeartbeats 40000000 in
theorem rmii_1 (l : Launch) (Z : State) (a0 : Array Value) (hw : ∀ d ∈ tables_1, d.before a0 Z = true) (ws : List Jvm.Cond) (s0 : Addr) (ch : Int32) (fr : Int32) (zc : Int32) (va : Addr) (f : Nat → Int32) (y0 : Int32) (h0 : Heap) (n0 : Nat) (E_s0 : Exa Z h0 s0 "java/lang/String") (F_s0_value : Fld Z h0 s0 "java/lang/String" "value" "[B" (.ref va)) (F_s0_coder : Fld Z h0 s0 "java/lang/String" "coder" "B" (.int (0 : Int32))) (V_va : own_AI Z h0 va .byte 1 f) (S_COMPACT_STRINGS : Sta Z h0 "java/lang/String" "COMPACT_STRINGS" "Z" (.int zc)) (hz : ¬ zc = (0 : Int32)) (hfr : fr = (0 : Int32)) (hy0 : f 0 = y0) :
    MetFree l (⟨"java/lang/String", "indexOf", "(II)I"⟩ : MethodName) (head1 (Jvm.Cond.code (⟨"java/lang/String", "indexOf", "(II)I"⟩ : MethodName) jdk_42_method_80_code 3 (some .int) :: ws) ({ frames := 2, cells := 0, slots := 0, locals := 32 } : Room)) (fun aa UU => aa = #[(.ref s0), (.int ch), (.int fr)] ∧ Z.Warmed39 UU.vm ∧ UU.heap = h0) (fun _ _ _ _ _ => True) (fun _ UU oo UV => ∃ vv LL, oo = .returned vv ∧ Qii_1 Z s0 ch fr zc va f y0 h0 n0 vv UV.heap LL ∧ FrameEnd UU oo UV LL ({ frames := 2, cells := 0, slots := 0, locals := 32 } : Room).cells ({ frames := 2, cells := 0, slots := 0, locals := 32 } : Room).slots) := by
  refine MetFree.of_bodySF (plainFor_of_name pn_5) hisR ?_
  intro p e s m args below meth c s₁ Bd hml0 hP hK
  obtain ⟨rfl, hZ, hh⟩ := hP
  have hx := Bd.exec
  have hby := Bd.bytes
  have hml : c.maxLocals = 3 := hml0
  have hown : s.vm.findClass "java/lang/String" = some m.cls := findClass_of_methodNamed Bd.named
  have hnm := (name_of_methodNamed Bd.named Bd.method).1
  have X0 : Stand p l e ({ frames := 2, cells := 0, slots := 0, locals := 32 } : Room) s m #[(.ref s0), (.int ch), (.int fr)] below meth c s₁ [] 0 0 := Stand.of_body Bd
  have e0 : s₁.heap = h0 := by rw [← hh, Bd.state]; rfl
  have N0 := Fr.nil n0
  have k0 : ∀ tg_, Steps p.tables e below (s₁.setTop (mkF m 0 #[.val (.ref s0), .val (.int ch), .val (.int fr)] [])) tg_ → Steps p.tables e below (s₁.setTop (entryFrame m #[(.ref s0), (.int ch), (.int fr)] 3)) tg_ := fun tg_ k => castTop (ef_ii_1 m s0 ch fr) k
  have hfr0 := hfr
  obtain ⟨cq70, kq70, q70a, q70b, q70c⟩ := isOf hZ e0 E_s0
  obtain ⟨_, _, ⟨T70, L70, kc70, nc70⟩, -, X70, ⟨Lc70, hQ70, l70, y70, z70⟩, st70⟩ := X0.virtualBack hx (y := (⟨"java/lang/String", "isLatin1", "()Z"⟩ : MethodName)) (z := (⟨"java/lang/String", "isLatin1", "()Z"⟩ : MethodName)) hown (mvT hZ (hw _ (List.mem_of_getElem? (i := 31) rfl))) (mvT hZ (hw _ (List.mem_of_getElem? (i := 32) rfl))) (notFace_of_selects (args := #[]) (mvT hZ (hw _ (List.mem_of_getElem? (i := 34) rfl)))) (mvT hZ (hw _ (List.mem_of_getElem? (i := 34) rfl))) (mvT hZ (hw _ (List.mem_of_getElem? (i := 33) rfl))) (by decide) (backOf (W := 0) (rm6 l Z a0 hw [] s0 zc h0 n0 F_s0_coder S_COMPACT_STRINGS hz) hZ (hw _ (List.mem_of_getElem? (i := 35) rfl)) (hw _ (List.mem_of_getElem? (i := 24) rfl)) (by decide) (by decide)) q70a q70c (g := (mkF m 1 #[.val (.ref s0), .val (.int ch), .val (.int fr)] [(.ref s0)])) rfl (by rw [hml]; rfl) (Steps.refl _) (argsL := []) (rest := []) (lenOf pd_5 rfl) rfl (by show 2 * 0 + _ ≤ _; exact Nat.le_of_eq rfl) (hb hby d5_1) (fun _ _ => ⟨rfl, e0, (by decide : 0 + 0 ≤ _), (by decide : 0 + 0 ≤ _)⟩)
  dsimp only [Pt.U, Pt.locs, Pt.cells, Pt.slots] at X70 l70 y70 z70 st70 hQ70
  rw [l70, y70, z70] at X70
  replace X70 : Stand p l e ({ frames := 2, cells := 0, slots := 0, locals := 32 } : Room) s m #[(.ref s0), (.int ch), (.int fr)] below meth c T70 _ 0 0 := X70
  obtain ⟨rfl, Nq70, eq70⟩ := hQ70
  have N70 := Fr.app N0 Nq70
  obtain ⟨T71, X71, e71, st71⟩ := getF X70 hx hZ hown (host := "") (Or.inl (hw _ (List.mem_of_getElem? (i := 39) rfl))) Via.refl eq70 F_s0_value (g := (mkF m 8 #[.val (.ref s0), .val (.int ch), .val (.int fr)] [(.ref s0)])) rfl rfl (hb hby d5_8)
  obtain ⟨cq72, kq72, q72a, q72b, q72c⟩ := isOf hZ e71 E_s0
  obtain ⟨_, _, ⟨T72, L72, kc72, nc72⟩, -, X72, ⟨Lc72, hQ72, l72, y72, z72⟩, st72⟩ := X71.virtualBack hx (y := (⟨"java/lang/String", "length", "()I"⟩ : MethodName)) (z := (⟨"java/lang/String", "length", "()I"⟩ : MethodName)) hown (mvT hZ (hw _ (List.mem_of_getElem? (i := 41) rfl))) (mvT hZ (hw _ (List.mem_of_getElem? (i := 42) rfl))) (notFace_of_selects (args := #[]) (mvT hZ (hw _ (List.mem_of_getElem? (i := 44) rfl)))) (mvT hZ (hw _ (List.mem_of_getElem? (i := 44) rfl))) (mvT hZ (hw _ (List.mem_of_getElem? (i := 43) rfl))) (by decide) (backOf (W := 3) (rmlen_1 l Z a0 hw [] s0 zc va f h0 n0 E_s0 F_s0_value F_s0_coder V_va S_COMPACT_STRINGS hz) hZ (hw _ (List.mem_of_getElem? (i := 45) rfl)) (hw _ (List.mem_of_getElem? (i := 24) rfl)) (by decide) (by decide)) q72a q72c (g := (mkF m 14 #[.val (.ref s0), .val (.int ch), .val (.int fr)] [(.ref s0), (.int fr), (.int ch), (.ref va)])) rfl (by rw [hml]; rfl) (Steps.refl _) (argsL := []) (rest := [(.int fr), (.int ch), (.ref va)]) (lenOf pd_6 rfl) rfl (by show 2 * 0 + _ ≤ _; exact Nat.le_of_eq rfl) (hb hby d5_14) (fun _ _ => ⟨rfl, e71, (by decide : 0 + 0 ≤ _), (by decide : 0 + 0 ≤ _)⟩)
  dsimp only [Pt.U, Pt.locs, Pt.cells, Pt.slots] at X72 l72 y72 z72 st72 hQ72
  rw [l72, y72, z72] at X72
  replace X72 : Stand p l e ({ frames := 2, cells := 0, slots := 0, locals := 32 } : Room) s m #[(.ref s0), (.int ch), (.int fr)] below meth c T72 _ 0 0 := X72
  obtain ⟨rfl, Nq72, eq72⟩ := hQ72
  have N72 := Fr.app N70 Nq72
  obtain ⟨_, _, ⟨T73, L73, kc73, nc73⟩, -, X73, ⟨Lc73, hQ73, l73, y73, z73⟩, st73⟩ := Jvm.LawKit.callS X72 hx (y := (⟨"java/lang/StringLatin1", "indexOf", "([BIII)I"⟩ : MethodName)) hown (mvT hZ (hw _ (List.mem_of_getElem? (i := 51) rfl))) (mvT hZ (hw _ (List.mem_of_getElem? (i := 52) rfl))) (mvT hZ (hw _ (List.mem_of_getElem? (i := 53) rfl))) (mvT hZ (hw _ (List.mem_of_getElem? (i := 54) rfl))) (by decide) (backOf (W := 0) (rmio_1 l Z a0 hw [] va ch fr (1 : Int32) f y0 h0 n0 V_va hfr0 rfl hy0) hZ (hw _ (List.mem_of_getElem? (i := 54) rfl)) (hw _ (List.mem_of_getElem? (i := 53) rfl)) (by decide) (by decide)) (g := (mkF m 17 #[.val (.ref s0), .val (.int ch), .val (.int fr)] [(.int (1 : Int32)), (.int fr), (.int ch), (.ref va)])) rfl (by rw [hml]; rfl) (argsL := [(.ref va), (.int ch), (.int fr), (.int (1 : Int32))]) (rest := []) (lenOf pd_8 rfl) rfl (by show 2 * 0 + _ ≤ _; exact Nat.le_of_eq rfl) (hb hby d5_17) (fun _ _ => ⟨rfl, eq72, (by decide : 0 + 0 ≤ _), (by decide : 0 + 0 ≤ _)⟩)
  dsimp only [Pt.U, Pt.locs, Pt.cells, Pt.slots] at X73 l73 y73 z73 st73 hQ73
  rw [l73, y73, z73] at X73
  replace X73 : Stand p l e ({ frames := 2, cells := 0, slots := 0, locals := 32 } : Room) s m #[(.ref s0), (.int ch), (.int fr)] below meth c T73 _ 0 0 := X73
  obtain ⟨rfl, Nq73, eq73⟩ := hQ73
  have N73 := Fr.app N72 Nq73
  have k74 : ∀ tg_, Steps p.tables e below (T73.setTop (mkF m 36 #[.val (.ref s0), .val (.int ch), .val (.int fr)] [(.int (own_io_1 ch fr (1 : Int32) y0))])) tg_ → Steps p.tables e below (s₁.setTop (entryFrame m #[(.ref s0), (.int ch), (.int fr)] 3)) tg_ := by
    intro tg_ kt
    refine k0 tg_ ?_
    refine XS.aloadN X0.here hx rfl (hb hby d5_0) rfl rfl ?_
    show Steps p.tables e below (s₁.setTop (mkF m 1 #[.val (.ref s0), .val (.int ch), .val (.int fr)] [(.ref s0)])) _
    refine st70.trans ?_
    show Steps p.tables e below (T70.setTop (mkF m 4 #[.val (.ref s0), .val (.int ch), .val (.int fr)] [(.int (1 : Int32))])) _
    refine XS.ifNo X70.here hx rfl (hb hby d5_4) rfl ((if0 _ _).trans (feq (by decide : ¬ ((1 : Int32) = (0 : Int32)))).1) ?_
    show Steps p.tables e below (T70.setTop (mkF m 7 #[.val (.ref s0), .val (.int ch), .val (.int fr)] [])) _
    refine XS.aloadN X70.here hx rfl (hb hby d5_7) rfl rfl ?_
    show Steps p.tables e below (T70.setTop (mkF m 8 #[.val (.ref s0), .val (.int ch), .val (.int fr)] [(.ref s0)])) _
    refine st71 _ ?_
    show Steps p.tables e below (T71.setTop (mkF m 11 #[.val (.ref s0), .val (.int ch), .val (.int fr)] [(.ref va)])) _
    refine XS.iloadN X71.here hx rfl (hb hby d5_11) rfl ?_
    show Steps p.tables e below (T71.setTop (mkF m 12 #[.val (.ref s0), .val (.int ch), .val (.int fr)] [(.int ch), (.ref va)])) _
    refine XS.iloadN X71.here hx rfl (hb hby d5_12) rfl ?_
    show Steps p.tables e below (T71.setTop (mkF m 13 #[.val (.ref s0), .val (.int ch), .val (.int fr)] [(.int fr), (.int ch), (.ref va)])) _
    refine XS.aloadN X71.here hx rfl (hb hby d5_13) rfl rfl ?_
    show Steps p.tables e below (T71.setTop (mkF m 14 #[.val (.ref s0), .val (.int ch), .val (.int fr)] [(.ref s0), (.int fr), (.int ch), (.ref va)])) _
    refine st72.trans ?_
    show Steps p.tables e below (T72.setTop (mkF m 17 #[.val (.ref s0), .val (.int ch), .val (.int fr)] [(.int (1 : Int32)), (.int fr), (.int ch), (.ref va)])) _
    refine st73 _ ?_
    show Steps p.tables e below (T73.setTop (mkF m 20 #[.val (.ref s0), .val (.int ch), .val (.int fr)] [(.int (own_io_1 ch fr (1 : Int32) y0))])) _
    refine XS.goto X73.here hx rfl (pc0 := 20) (pc' := 36) rfl (hb hby d5_20) (by decide) (by decide) ?_
    show Steps p.tables e below (T73.setTop (mkF m 36 #[.val (.ref s0), .val (.int ch), .val (.int fr)] [(.int (own_io_1 ch fr (1 : Int32) y0))])) _
    exact kt
  obtain ⟨fs, hr, hrun, hended, hW, hsame⟩ := X73.leave (v := some (.int (own_io_1 ch fr (1 : Int32) y0))) (fun h => by rw [Bd.returns] at h; cases h)
  refine ⟨_, _, k74 _ (retI X73 hx Bd.returns (hb hby d5_36) hr), hrun, hended, _, _, rfl, ?_, ⟨_, rfl⟩, hW, hsame.mono (by decide) (by decide)⟩
  show Qii_1 Z s0 ch fr zc va f y0 h0 n0 _ T73.heap _
  rw [eq73]
  exact ⟨(by rw [own_eq_own_ii_1]), N73, rfl⟩
theorem ef_ix_1 (m : MethodId) (x0 : Addr) (x1 : Int32) : entryFrame m #[(.ref x0), (.int x1)] 2 = mkF m 0 #[.val (.ref x0), .val (.int x1)] [] := by first | (simp [entryFrame, mkF, argsToLocals, Value.category]; done) | rfl
def own_ix_1 (ch : Int32) (y0 : Int32) : Int32 := (own_ii_1 ch (0 : Int32) y0)
theorem own_eq_own_ix_1 (ch : Int32) (y0 : Int32) : own_ix_1 ch y0 = (own_ii_1 ch (0 : Int32) y0) := rfl
def Qix_1 (Z : State) (s0 : Addr) (ch : Int32) (zc : Int32) (va : Addr) (f : Nat → Int32) (y0 : Int32) (h0 : Heap) (n0 : Nat) (rv_ : Option Value) (h : Heap) (LL_ : List Loc) : Prop := rv_ = some (.int (own_ix_1 ch y0)) ∧ Fr n0 LL_ ∧ h = h0
set_option maxRecDepth 65536 in
set_option maxHeartbeats 40000000 in
theorem rmix_1 (l : Launch) (Z : State) (a0 : Array Value) (hw : ∀ d ∈ tables_1, d.before a0 Z = true) (ws : List Jvm.Cond) (s0 : Addr) (ch : Int32) (zc : Int32) (va : Addr) (f : Nat → Int32) (y0 : Int32) (h0 : Heap) (n0 : Nat) (E_s0 : Exa Z h0 s0 "java/lang/String") (F_s0_value : Fld Z h0 s0 "java/lang/String" "value" "[B" (.ref va)) (F_s0_coder : Fld Z h0 s0 "java/lang/String" "coder" "B" (.int (0 : Int32))) (V_va : own_AI Z h0 va .byte 1 f) (S_COMPACT_STRINGS : Sta Z h0 "java/lang/String" "COMPACT_STRINGS" "Z" (.int zc)) (hz : ¬ zc = (0 : Int32)) (hy0 : f 0 = y0) :
    MetFree l (⟨"java/lang/String", "indexOf", "(I)I"⟩ : MethodName) (head1 (Jvm.Cond.code (⟨"java/lang/String", "indexOf", "(I)I"⟩ : MethodName) jdk_42_method_79_code 2 (some .int) :: ws) ({ frames := 3, cells := 0, slots := 0, locals := 46 } : Room)) (fun aa UU => aa = #[(.ref s0), (.int ch)] ∧ Z.Warmed39 UU.vm ∧ UU.heap = h0) (fun _ _ _ _ _ => True) (fun _ UU oo UV => ∃ vv LL, oo = .returned vv ∧ Qix_1 Z s0 ch zc va f y0 h0 n0 vv UV.heap LL ∧ FrameEnd UU oo UV LL ({ frames := 3, cells := 0, slots := 0, locals := 46 } : Room).cells ({ frames := 3, cells := 0, slots := 0, locals := 46 } : Room).slots) := by
  refine MetFree.of_bodySF (plainFor_of_name pn_4) hisR ?_
  intro p e s m args below meth c s₁ Bd hml0 hP hK
  obtain ⟨rfl, hZ, hh⟩ := hP
  have hx := Bd.exec
  have hby := Bd.bytes
  have hml : c.maxLocals = 2 := hml0
  have hown : s.vm.findClass "java/lang/String" = some m.cls := findClass_of_methodNamed Bd.named
  have hnm := (name_of_methodNamed Bd.named Bd.method).1
  have X0 : Stand p l e ({ frames := 3, cells := 0, slots := 0, locals := 46 } : Room) s m #[(.ref s0), (.int ch)] below meth c s₁ [] 0 0 := Stand.of_body Bd
  have e0 : s₁.heap = h0 := by rw [← hh, Bd.state]; rfl
  have N0 := Fr.nil n0
  have k0 : ∀ tg_, Steps p.tables e below (s₁.setTop (mkF m 0 #[.val (.ref s0), .val (.int ch)] [])) tg_ → Steps p.tables e below (s₁.setTop (entryFrame m #[(.ref s0), (.int ch)] 2)) tg_ := fun tg_ k => castTop (ef_ix_1 m s0 ch) k
  obtain ⟨cq75, kq75, q75a, q75b, q75c⟩ := isOf hZ e0 E_s0
  obtain ⟨_, _, ⟨T75, L75, kc75, nc75⟩, -, X75, ⟨Lc75, hQ75, l75, y75, z75⟩, st75⟩ := X0.virtualBack hx (y := (⟨"java/lang/String", "indexOf", "(II)I"⟩ : MethodName)) (z := (⟨"java/lang/String", "indexOf", "(II)I"⟩ : MethodName)) hown (mvT hZ (hw _ (List.mem_of_getElem? (i := 26) rfl))) (mvT hZ (hw _ (List.mem_of_getElem? (i := 27) rfl))) (notFace_of_selects (args := #[]) (mvT hZ (hw _ (List.mem_of_getElem? (i := 29) rfl)))) (mvT hZ (hw _ (List.mem_of_getElem? (i := 29) rfl))) (mvT hZ (hw _ (List.mem_of_getElem? (i := 28) rfl))) (by decide) (backOf (W := 0) (rmii_1 l Z a0 hw [] s0 ch (0 : Int32) zc va f y0 h0 n0 E_s0 F_s0_value F_s0_coder V_va S_COMPACT_STRINGS hz rfl hy0) hZ (hw _ (List.mem_of_getElem? (i := 30) rfl)) (hw _ (List.mem_of_getElem? (i := 24) rfl)) (by decide) (by decide)) q75a q75c (g := (mkF m 3 #[.val (.ref s0), .val (.int ch)] [(.int (0 : Int32)), (.int ch), (.ref s0)])) rfl (by rw [hml]; rfl) (Steps.refl _) (argsL := [(.int ch), (.int (0 : Int32))]) (rest := []) (lenOf pd_4 rfl) rfl (by show 2 * 0 + _ ≤ _; exact Nat.le_of_eq rfl) (hb hby d4_3) (fun _ _ => ⟨rfl, e0, (by decide : 0 + 0 ≤ _), (by decide : 0 + 0 ≤ _)⟩)
  dsimp only [Pt.U, Pt.locs, Pt.cells, Pt.slots] at X75 l75 y75 z75 st75 hQ75
  rw [l75, y75, z75] at X75
  replace X75 : Stand p l e ({ frames := 3, cells := 0, slots := 0, locals := 46 } : Room) s m #[(.ref s0), (.int ch)] below meth c T75 _ 0 0 := X75
  obtain ⟨rfl, Nq75, eq75⟩ := hQ75
  have N75 := Fr.app N0 Nq75
  have k76 : ∀ tg_, Steps p.tables e below (T75.setTop (mkF m 6 #[.val (.ref s0), .val (.int ch)] [(.int (own_ii_1 ch (0 : Int32) y0))])) tg_ → Steps p.tables e below (s₁.setTop (entryFrame m #[(.ref s0), (.int ch)] 2)) tg_ := by
    intro tg_ kt
    refine k0 tg_ ?_
    refine XS.aloadN X0.here hx rfl (hb hby d4_0) rfl rfl ?_
    show Steps p.tables e below (s₁.setTop (mkF m 1 #[.val (.ref s0), .val (.int ch)] [(.ref s0)])) _
    refine XS.iloadN X0.here hx rfl (hb hby d4_1) rfl ?_
    show Steps p.tables e below (s₁.setTop (mkF m 2 #[.val (.ref s0), .val (.int ch)] [(.int ch), (.ref s0)])) _
    refine XS.iconst X0.here hx rfl (hb hby d4_2) ?_
    show Steps p.tables e below (s₁.setTop (mkF m 3 #[.val (.ref s0), .val (.int ch)] [(.int (0 : Int32)), (.int ch), (.ref s0)])) _
    refine st75.trans ?_
    show Steps p.tables e below (T75.setTop (mkF m 6 #[.val (.ref s0), .val (.int ch)] [(.int (own_ii_1 ch (0 : Int32) y0))])) _
    exact kt
  obtain ⟨fs, hr, hrun, hended, hW, hsame⟩ := X75.leave (v := some (.int (own_ii_1 ch (0 : Int32) y0))) (fun h => by rw [Bd.returns] at h; cases h)
  refine ⟨_, _, k76 _ (retI X75 hx Bd.returns (hb hby d4_6) hr), hrun, hended, _, _, rfl, ?_, ⟨_, rfl⟩, hW, hsame.mono (by decide) (by decide)⟩
  show Qix_1 Z s0 ch zc va f y0 h0 n0 _ T75.heap _
  rw [eq75]
  exact ⟨(by rw [own_eq_own_ix_1]), N75, rfl⟩
theorem ef_tk_1 (m : MethodId) (x0 : Addr) (x1 : Int32) : entryFrame m #[(.ref x0), (.int x1)] 2 = mkF m 0 #[.val (.ref x0), .val (.int x1)] [] := by first | (simp [entryFrame, mkF, argsToLocals, Value.category]; done) | rfl
def own_tk_1 (ch : Int32) (y0 : Int32) : Int32 := (if ch = (58 : Int32) then (0 : Int32) else (if (own_ix_1 ch y0) < (0 : Int32) then (0 : Int32) else (1 : Int32)))
theorem own_eq_own_tk_1 (ch : Int32) (y0 : Int32) : own_tk_1 ch y0 = (if ch = (58 : Int32) then (0 : Int32) else (if (own_ix_1 ch y0) < (0 : Int32) then (0 : Int32) else (1 : Int32))) := rfl
def Qtk_1 (Z : State) (vb : Addr) (ch : Int32) (zc : Int32) (s0 : Addr) (va : Addr) (f : Nat → Int32) (y0 : Int32) (h0 : Heap) (n0 : Nat) (rv_ : Option Value) (h : Heap) (LL_ : List Loc) : Prop := rv_ = some (.int (own_tk_1 ch y0)) ∧ Fr n0 LL_ ∧ h = h0
set_option maxRecDepth 65536 in
set_option maxHeartbeats 40000000 in
theorem rmtk_1 (l : Launch) (Z : State) (a0 : Array Value) (hw : ∀ d ∈ tables_1, d.before a0 Z = true) (ws : List Jvm.Cond) (vb : Addr) (ch : Int32) (zc : Int32) (s0 : Addr) (va : Addr) (f : Nat → Int32) (y0 : Int32) (h0 : Heap) (n0 : Nat) (E_s0 : Exa Z h0 s0 "java/lang/String") (F_vb_options : Fld Z h0 vb "com/example/grendel/grendel/cli/Verb" "options" "Ljava/lang/String;" (.ref s0)) (F_s0_value : Fld Z h0 s0 "java/lang/String" "value" "[B" (.ref va)) (F_s0_coder : Fld Z h0 s0 "java/lang/String" "coder" "B" (.int (0 : Int32))) (V_va : own_AI Z h0 va .byte 1 f) (S_COMPACT_STRINGS : Sta Z h0 "java/lang/String" "COMPACT_STRINGS" "Z" (.int zc)) (hz : ¬ zc = (0 : Int32)) (hy0 : f 0 = y0) :
    MetFree l (⟨"com/example/grendel/grendel/cli/Verb", "takes", "(C)Z"⟩ : MethodName) (head1 (Jvm.Cond.code (⟨"com/example/grendel/grendel/cli/Verb", "takes", "(C)Z"⟩ : MethodName) prog_3_method_7_code 2 (some .boolean) :: ws) ({ frames := 4, cells := 0, slots := 0, locals := 59 } : Room)) (fun aa UU => aa = #[(.ref vb), (.int ch)] ∧ Z.Warmed39 UU.vm ∧ UU.heap = h0) (fun _ _ _ _ _ => True) (fun _ UU oo UV => ∃ vv LL, oo = .returned vv ∧ Qtk_1 Z vb ch zc s0 va f y0 h0 n0 vv UV.heap LL ∧ FrameEnd UU oo UV LL ({ frames := 4, cells := 0, slots := 0, locals := 59 } : Room).cells ({ frames := 4, cells := 0, slots := 0, locals := 59 } : Room).slots) := by
  refine MetFree.of_bodySF (plainFor_of_name pn_3) hisR ?_
  intro p e s m args below meth c s₁ Bd hml0 hP hK
  obtain ⟨rfl, hZ, hh⟩ := hP
  have hx := Bd.exec
  have hby := Bd.bytes
  have hml : c.maxLocals = 2 := hml0
  have hown : s.vm.findClass "com/example/grendel/grendel/cli/Verb" = some m.cls := findClass_of_methodNamed Bd.named
  have hnm := (name_of_methodNamed Bd.named Bd.method).1
  have X0 : Stand p l e ({ frames := 4, cells := 0, slots := 0, locals := 59 } : Room) s m #[(.ref vb), (.int ch)] below meth c s₁ [] 0 0 := Stand.of_body Bd
  have e0 : s₁.heap = h0 := by rw [← hh, Bd.state]; rfl
  have N0 := Fr.nil n0
  have k0 : ∀ tg_, Steps p.tables e below (s₁.setTop (mkF m 0 #[.val (.ref vb), .val (.int ch)] [])) tg_ → Steps p.tables e below (s₁.setTop (entryFrame m #[(.ref vb), (.int ch)] 2)) tg_ := fun tg_ k => castTop (ef_tk_1 m vb ch) k
  have k77 : ∀ tg_, Steps p.tables e below (s₁.setTop (mkF m 3 #[.val (.ref vb), .val (.int ch)] [(.int (58 : Int32)), (.int ch)])) tg_ → Steps p.tables e below (s₁.setTop (entryFrame m #[(.ref vb), (.int ch)] 2)) tg_ := by
    intro tg_ kt
    refine k0 tg_ ?_
    refine XS.iloadN X0.here hx rfl (hb hby d3_0) rfl ?_
    show Steps p.tables e below (s₁.setTop (mkF m 1 #[.val (.ref vb), .val (.int ch)] [(.int ch)])) _
    refine XS.bipush X0.here hx rfl (hb hby d3_1) ?_
    show Steps p.tables e below (s₁.setTop (mkF m 3 #[.val (.ref vb), .val (.int ch)] [(.int (58 : Int32)), (.int ch)])) _
    exact kt
  by_cases hc3_78 : ch = (58 : Int32)
  · have k79 : ∀ tg_, Steps p.tables e below (s₁.setTop (mkF m 22 #[.val (.ref vb), .val (.int ch)] [(.int (0 : Int32))])) tg_ → Steps p.tables e below (s₁.setTop (entryFrame m #[(.ref vb), (.int ch)] 2)) tg_ := by
      intro tg_ kt
      refine k77 tg_ ?_
      refine XS.icmpYes X0.here hx rfl (pc0 := 3) (pc' := 21) rfl (hb hby d3_3) rfl (teq hc3_78).1 (by decide) (by decide) ?_
      show Steps p.tables e below (s₁.setTop (mkF m 21 #[.val (.ref vb), .val (.int ch)] [])) _
      refine XS.iconst X0.here hx rfl (hb hby d3_21) ?_
      show Steps p.tables e below (s₁.setTop (mkF m 22 #[.val (.ref vb), .val (.int ch)] [(.int (0 : Int32))])) _
      exact kt
    obtain ⟨fs, hr, hrun, hended, hW, hsame⟩ := X0.leave (v := some (.int (0 : Int32))) (fun h => by rw [Bd.returns] at h; cases h)
    refine ⟨_, _, k79 _ (retN X0 hx (t := .boolean) Bd.returns (by simp) (hb hby d3_22) hr), hrun, hended, _, _, rfl, ?_, ⟨_, rfl⟩, hW, hsame.mono (by decide) (by decide)⟩
    show Qtk_1 Z vb ch zc s0 va f y0 h0 n0 _ s₁.heap _
    rw [e0]
    exact ⟨(by rw [own_eq_own_tk_1]; rw [if_pos hc3_78]), N0, rfl⟩
  · obtain ⟨T80, X80, e80, st80⟩ := getF X0 hx hZ hown (host := "") (Or.inl (hw _ (List.mem_of_getElem? (i := 18) rfl))) Via.refl e0 F_vb_options (g := (mkF m 7 #[.val (.ref vb), .val (.int ch)] [(.ref vb)])) rfl rfl (hb hby d3_7)
    obtain ⟨cq81, kq81, q81a, q81b, q81c⟩ := isOf hZ e80 E_s0
    obtain ⟨_, _, ⟨T81, L81, kc81, nc81⟩, -, X81, ⟨Lc81, hQ81, l81, y81, z81⟩, st81⟩ := X80.virtualBack hx (y := (⟨"java/lang/String", "indexOf", "(I)I"⟩ : MethodName)) (z := (⟨"java/lang/String", "indexOf", "(I)I"⟩ : MethodName)) hown (mvT hZ (hw _ (List.mem_of_getElem? (i := 20) rfl))) (mvT hZ (hw _ (List.mem_of_getElem? (i := 21) rfl))) (notFace_of_selects (args := #[]) (mvT hZ (hw _ (List.mem_of_getElem? (i := 23) rfl)))) (mvT hZ (hw _ (List.mem_of_getElem? (i := 23) rfl))) (mvT hZ (hw _ (List.mem_of_getElem? (i := 22) rfl))) (by decide) (backOf (W := 0) (rmix_1 l Z a0 hw [] s0 ch zc va f y0 h0 n0 E_s0 F_s0_value F_s0_coder V_va S_COMPACT_STRINGS hz hy0) hZ (hw _ (List.mem_of_getElem? (i := 25) rfl)) (hw _ (List.mem_of_getElem? (i := 24) rfl)) (by decide) (by decide)) q81a q81c (g := (mkF m 11 #[.val (.ref vb), .val (.int ch)] [(.int ch), (.ref s0)])) rfl (by rw [hml]; rfl) (Steps.refl _) (argsL := [(.int ch)]) (rest := []) (lenOf pd_3 rfl) rfl (by show 2 * 0 + _ ≤ _; exact Nat.le_of_eq rfl) (hb hby d3_11) (fun _ _ => ⟨rfl, e80, (by decide : 0 + 0 ≤ _), (by decide : 0 + 0 ≤ _)⟩)
    dsimp only [Pt.U, Pt.locs, Pt.cells, Pt.slots] at X81 l81 y81 z81 st81 hQ81
    rw [l81, y81, z81] at X81
    replace X81 : Stand p l e ({ frames := 4, cells := 0, slots := 0, locals := 59 } : Room) s m #[(.ref vb), (.int ch)] below meth c T81 _ 0 0 := X81
    obtain ⟨rfl, Nq81, eq81⟩ := hQ81
    have N81 := Fr.app N0 Nq81
    have k82 : ∀ tg_, Steps p.tables e below (T81.setTop (mkF m 14 #[.val (.ref vb), .val (.int ch)] [(.int (own_ix_1 ch y0))])) tg_ → Steps p.tables e below (s₁.setTop (entryFrame m #[(.ref vb), (.int ch)] 2)) tg_ := by
      intro tg_ kt
      refine k77 tg_ ?_
      refine XS.icmpNo X0.here hx rfl (hb hby d3_3) rfl (feq hc3_78).1 ?_
      show Steps p.tables e below (s₁.setTop (mkF m 6 #[.val (.ref vb), .val (.int ch)] [])) _
      refine XS.aloadN X0.here hx rfl (hb hby d3_6) rfl rfl ?_
      show Steps p.tables e below (s₁.setTop (mkF m 7 #[.val (.ref vb), .val (.int ch)] [(.ref vb)])) _
      refine st80 _ ?_
      show Steps p.tables e below (T80.setTop (mkF m 10 #[.val (.ref vb), .val (.int ch)] [(.ref s0)])) _
      refine XS.iloadN X80.here hx rfl (hb hby d3_10) rfl ?_
      show Steps p.tables e below (T80.setTop (mkF m 11 #[.val (.ref vb), .val (.int ch)] [(.int ch), (.ref s0)])) _
      refine st81.trans ?_
      show Steps p.tables e below (T81.setTop (mkF m 14 #[.val (.ref vb), .val (.int ch)] [(.int (own_ix_1 ch y0))])) _
      exact kt
    by_cases hc14_83 : (own_ix_1 ch y0) < (0 : Int32)
    · have k84 : ∀ tg_, Steps p.tables e below (T81.setTop (mkF m 22 #[.val (.ref vb), .val (.int ch)] [(.int (0 : Int32))])) tg_ → Steps p.tables e below (s₁.setTop (entryFrame m #[(.ref vb), (.int ch)] 2)) tg_ := by
        intro tg_ kt
        refine k82 tg_ ?_
        refine XS.ifYes X81.here hx rfl (pc0 := 14) (pc' := 21) rfl (hb hby d3_14) rfl ((if0 _ _).trans (tlt hc14_83).1) (by decide) (by decide) ?_
        show Steps p.tables e below (T81.setTop (mkF m 21 #[.val (.ref vb), .val (.int ch)] [])) _
        refine XS.iconst X81.here hx rfl (hb hby d3_21) ?_
        show Steps p.tables e below (T81.setTop (mkF m 22 #[.val (.ref vb), .val (.int ch)] [(.int (0 : Int32))])) _
        exact kt
      obtain ⟨fs, hr, hrun, hended, hW, hsame⟩ := X81.leave (v := some (.int (0 : Int32))) (fun h => by rw [Bd.returns] at h; cases h)
      refine ⟨_, _, k84 _ (retN X81 hx (t := .boolean) Bd.returns (by simp) (hb hby d3_22) hr), hrun, hended, _, _, rfl, ?_, ⟨_, rfl⟩, hW, hsame.mono (by decide) (by decide)⟩
      show Qtk_1 Z vb ch zc s0 va f y0 h0 n0 _ T81.heap _
      rw [eq81]
      exact ⟨(by rw [own_eq_own_tk_1]; rw [if_neg hc3_78, if_pos hc14_83]), N81, rfl⟩
    · have k85 : ∀ tg_, Steps p.tables e below (T81.setTop (mkF m 22 #[.val (.ref vb), .val (.int ch)] [(.int (1 : Int32))])) tg_ → Steps p.tables e below (s₁.setTop (entryFrame m #[(.ref vb), (.int ch)] 2)) tg_ := by
        intro tg_ kt
        refine k82 tg_ ?_
        refine XS.ifNo X81.here hx rfl (hb hby d3_14) rfl ((if0 _ _).trans (flt hc14_83).1) ?_
        show Steps p.tables e below (T81.setTop (mkF m 17 #[.val (.ref vb), .val (.int ch)] [])) _
        refine XS.iconst X81.here hx rfl (hb hby d3_17) ?_
        show Steps p.tables e below (T81.setTop (mkF m 18 #[.val (.ref vb), .val (.int ch)] [(.int (1 : Int32))])) _
        refine XS.goto X81.here hx rfl (pc0 := 18) (pc' := 22) rfl (hb hby d3_18) (by decide) (by decide) ?_
        show Steps p.tables e below (T81.setTop (mkF m 22 #[.val (.ref vb), .val (.int ch)] [(.int (1 : Int32))])) _
        exact kt
      obtain ⟨fs, hr, hrun, hended, hW, hsame⟩ := X81.leave (v := some (.int (1 : Int32))) (fun h => by rw [Bd.returns] at h; cases h)
      refine ⟨_, _, k85 _ (retN X81 hx (t := .boolean) Bd.returns (by simp) (hb hby d3_22) hr), hrun, hended, _, _, rfl, ?_, ⟨_, rfl⟩, hW, hsame.mono (by decide) (by decide)⟩
      show Qtk_1 Z vb ch zc s0 va f y0 h0 n0 _ T81.heap _
      rw [eq81]
      exact ⟨(by rw [own_eq_own_tk_1]; rw [if_neg hc3_78, if_neg hc14_83]), N81, rfl⟩
theorem ef_len_2 (m : MethodId) (x0 : Addr) : entryFrame m #[(.ref x0)] 1 = mkF m 0 #[.val (.ref x0)] [] := by first | (simp [entryFrame, mkF, argsToLocals, Value.category]; done) | rfl
def Qlen_2 (Z : State) (s0 : Addr) (zc : Int32) (va : Addr) (f : Nat → Int32) (h0 : Heap) (n0 : Nat) (rv_ : Option Value) (h : Heap) (LL_ : List Loc) : Prop := rv_ = some (.int (2 : Int32)) ∧ Fr n0 LL_ ∧ h = h0
set_option maxRecDepth 65536 in
set_option maxHeartbeats 40000000 in
theorem rmlen_2 (l : Launch) (Z : State) (a0 : Array Value) (hw : ∀ d ∈ tables_1, d.before a0 Z = true) (ws : List Jvm.Cond) (s0 : Addr) (zc : Int32) (va : Addr) (f : Nat → Int32) (h0 : Heap) (n0 : Nat) (E_s0 : Exa Z h0 s0 "java/lang/String") (F_s0_value : Fld Z h0 s0 "java/lang/String" "value" "[B" (.ref va)) (F_s0_coder : Fld Z h0 s0 "java/lang/String" "coder" "B" (.int (0 : Int32))) (V_va : own_AI Z h0 va .byte 2 f) (S_COMPACT_STRINGS : Sta Z h0 "java/lang/String" "COMPACT_STRINGS" "Z" (.int zc)) (hz : ¬ zc = (0 : Int32)) :
    MetFree l (⟨"java/lang/String", "length", "()I"⟩ : MethodName) (head1 (Jvm.Cond.code (⟨"java/lang/String", "length", "()I"⟩ : MethodName) jdk_42_method_54_code 1 (some .int) :: ws) ({ frames := 1, cells := 0, slots := 0, locals := 13 } : Room)) (fun aa UU => aa = #[(.ref s0)] ∧ Z.Warmed39 UU.vm ∧ UU.heap = h0) (fun _ _ _ _ _ => True) (fun _ UU oo UV => ∃ vv LL, oo = .returned vv ∧ Qlen_2 Z s0 zc va f h0 n0 vv UV.heap LL ∧ FrameEnd UU oo UV LL ({ frames := 1, cells := 0, slots := 0, locals := 13 } : Room).cells ({ frames := 1, cells := 0, slots := 0, locals := 13 } : Room).slots) := by
  refine MetFree.of_bodySF (plainFor_of_name pn_7) hisR ?_
  intro p e s m args below meth c s₁ Bd hml0 hP hK
  obtain ⟨rfl, hZ, hh⟩ := hP
  have hx := Bd.exec
  have hby := Bd.bytes
  have hml : c.maxLocals = 1 := hml0
  have hown : s.vm.findClass "java/lang/String" = some m.cls := findClass_of_methodNamed Bd.named
  have hnm := (name_of_methodNamed Bd.named Bd.method).1
  have X0 : Stand p l e ({ frames := 1, cells := 0, slots := 0, locals := 13 } : Room) s m #[(.ref s0)] below meth c s₁ [] 0 0 := Stand.of_body Bd
  have e0 : s₁.heap = h0 := by rw [← hh, Bd.state]; rfl
  have N0 := Fr.nil n0
  have k0 : ∀ tg_, Steps p.tables e below (s₁.setTop (mkF m 0 #[.val (.ref s0)] [])) tg_ → Steps p.tables e below (s₁.setTop (entryFrame m #[(.ref s0)] 1)) tg_ := fun tg_ k => castTop (ef_len_2 m s0) k
  obtain ⟨T86, X86, e86, st86⟩ := getF X0 hx hZ hown (host := "") (Or.inl (hw _ (List.mem_of_getElem? (i := 39) rfl))) Via.refl e0 F_s0_value (g := (mkF m 1 #[.val (.ref s0)] [(.ref s0)])) rfl rfl (hb hby d7_1)
  obtain ⟨cq87, kq87, q87a, q87b, q87c⟩ := isOf hZ e86 E_s0
  obtain ⟨_, _, ⟨T87, L87, kc87, nc87⟩, -, X87, ⟨Lc87, hQ87, l87, y87, z87⟩, st87⟩ := X86.virtualBack hx (y := (⟨"java/lang/String", "coder", "()B"⟩ : MethodName)) (z := (⟨"java/lang/String", "coder", "()B"⟩ : MethodName)) hown (mvT hZ (hw _ (List.mem_of_getElem? (i := 46) rfl))) (mvT hZ (hw _ (List.mem_of_getElem? (i := 47) rfl))) (notFace_of_selects (args := #[]) (mvT hZ (hw _ (List.mem_of_getElem? (i := 49) rfl)))) (mvT hZ (hw _ (List.mem_of_getElem? (i := 49) rfl))) (mvT hZ (hw _ (List.mem_of_getElem? (i := 48) rfl))) (by decide) (backOf (W := 1) (rm8 l Z a0 hw [] s0 zc h0 n0 F_s0_coder S_COMPACT_STRINGS hz) hZ (hw _ (List.mem_of_getElem? (i := 50) rfl)) (hw _ (List.mem_of_getElem? (i := 24) rfl)) (by decide) (by decide)) q87a q87c (g := (mkF m 6 #[.val (.ref s0)] [(.ref s0), (.int (2 : Int32))])) rfl (by rw [hml]; rfl) (Steps.refl _) (argsL := []) (rest := [(.int (2 : Int32))]) (lenOf pd_7 rfl) rfl (by show 2 * 0 + _ ≤ _; exact Nat.le_of_eq rfl) (hb hby d7_6) (fun _ _ => ⟨rfl, e86, (by decide : 0 + 0 ≤ _), (by decide : 0 + 0 ≤ _)⟩)
  dsimp only [Pt.U, Pt.locs, Pt.cells, Pt.slots] at X87 l87 y87 z87 st87 hQ87
  rw [l87, y87, z87] at X87
  replace X87 : Stand p l e ({ frames := 1, cells := 0, slots := 0, locals := 13 } : Room) s m #[(.ref s0)] below meth c T87 _ 0 0 := X87
  obtain ⟨rfl, Nq87, eq87⟩ := hQ87
  have N87 := Fr.app N0 Nq87
  have k88 : ∀ tg_, Steps p.tables e below (T87.setTop (mkF m 10 #[.val (.ref s0)] [(.int ((2 : Int32) >>> ((0 : Int32) &&& 31)))])) tg_ → Steps p.tables e below (s₁.setTop (entryFrame m #[(.ref s0)] 1)) tg_ := by
    intro tg_ kt
    refine k0 tg_ ?_
    refine XS.aloadN X0.here hx rfl (hb hby d7_0) rfl rfl ?_
    show Steps p.tables e below (s₁.setTop (mkF m 1 #[.val (.ref s0)] [(.ref s0)])) _
    refine st86 _ ?_
    show Steps p.tables e below (T86.setTop (mkF m 4 #[.val (.ref s0)] [(.ref va)])) _
    refine own_len X86 hx hZ e86 V_va (z := (2 : Int32)) (by decide) (g := (mkF m 4 #[.val (.ref s0)] [(.ref va)])) rfl rfl (hb hby d7_4) _ ?_
    show Steps p.tables e below (T86.setTop (mkF m 5 #[.val (.ref s0)] [(.int (2 : Int32))])) _
    refine XS.aloadN X86.here hx rfl (hb hby d7_5) rfl rfl ?_
    show Steps p.tables e below (T86.setTop (mkF m 6 #[.val (.ref s0)] [(.ref s0), (.int (2 : Int32))])) _
    refine st87.trans ?_
    show Steps p.tables e below (T87.setTop (mkF m 9 #[.val (.ref s0)] [(.int (0 : Int32)), (.int (2 : Int32))])) _
    refine XS.ishr X87.here hx rfl (hb hby d7_9) rfl ?_
    show Steps p.tables e below (T87.setTop (mkF m 10 #[.val (.ref s0)] [(.int ((2 : Int32) >>> ((0 : Int32) &&& 31)))])) _
    exact kt
  obtain ⟨fs, hr, hrun, hended, hW, hsame⟩ := X87.leave (v := some (.int ((2 : Int32) >>> ((0 : Int32) &&& 31)))) (fun h => by rw [Bd.returns] at h; cases h)
  refine ⟨_, _, k88 _ (retI X87 hx Bd.returns (hb hby d7_10) hr), hrun, hended, _, _, rfl, ?_, ⟨_, rfl⟩, hW, hsame.mono (by decide) (by decide)⟩
  show Qlen_2 Z s0 zc va f h0 n0 _ T87.heap _
  rw [eq87]
  exact ⟨rfl, N87, rfl⟩
theorem ef_ioc_2 (m : MethodId) (x0 : Addr) (x1 : Int32) (x2 : Int32) (x3 : Int32) : entryFrame m #[(.ref x0), (.int x1), (.int x2), (.int x3)] 6 = mkF m 0 #[.val (.ref x0), .val (.int x1), .val (.int x2), .val (.int x3), .unset, .unset] [] := by first | (simp [entryFrame, mkF, argsToLocals, Value.category]; done) | rfl
def own_ioc_2 (ch : Int32) (fr : Int32) (y0 : Int32) (y1 : Int32) : Int32 := (if y0 = (ch.toInt8.toInt32) then fr else (if y1 = (ch.toInt8.toInt32) then (fr + (1 : Int32)) else (-1 : Int32)))
theorem own_eq_own_ioc_2 (ch : Int32) (fr : Int32) (y0 : Int32) (y1 : Int32) : own_ioc_2 ch fr y0 y1 = (if y0 = (ch.toInt8.toInt32) then fr else (if y1 = (ch.toInt8.toInt32) then (fr + (1 : Int32)) else (-1 : Int32))) := rfl
def Qioc_2 (Z : State) (va : Addr) (ch : Int32) (fr : Int32) (mx : Int32) (f : Nat → Int32) (y0 : Int32) (y1 : Int32) (h0 : Heap) (n0 : Nat) (rv_ : Option Value) (h : Heap) (LL_ : List Loc) : Prop := rv_ = some (.int (own_ioc_2 ch fr y0 y1)) ∧ Fr n0 LL_ ∧ h = h0
set_option maxRecDepth 65536 in
set_option maxHeartbeats 40000000 in
theorem rmioc_2 (l : Launch) (Z : State) (a0 : Array Value) (hw : ∀ d ∈ tables_1, d.before a0 Z = true) (ws : List Jvm.Cond) (va : Addr) (ch : Int32) (fr : Int32) (mx : Int32) (f : Nat → Int32) (y0 : Int32) (y1 : Int32) (h0 : Heap) (n0 : Nat) (V_va : own_AI Z h0 va .byte 2 f) (hfr : fr = (0 : Int32)) (hmx : mx = (2 : Int32)) (hy0 : f 0 = y0) (hy1 : f 1 = y1) :
    MetFree l (⟨"java/lang/StringLatin1", "indexOfChar", "([BIII)I"⟩ : MethodName) (head1 (Jvm.Cond.code (⟨"java/lang/StringLatin1", "indexOfChar", "([BIII)I"⟩ : MethodName) jdk_43_method_23_code 6 (some .int) :: ws) ({ frames := 0, cells := 0, slots := 0, locals := 0 } : Room)) (fun aa UU => aa = #[(.ref va), (.int ch), (.int fr), (.int mx)] ∧ Z.Warmed39 UU.vm ∧ UU.heap = h0) (fun _ _ _ _ _ => True) (fun _ UU oo UV => ∃ vv LL, oo = .returned vv ∧ Qioc_2 Z va ch fr mx f y0 y1 h0 n0 vv UV.heap LL ∧ FrameEnd UU oo UV LL ({ frames := 0, cells := 0, slots := 0, locals := 0 } : Room).cells ({ frames := 0, cells := 0, slots := 0, locals := 0 } : Room).slots) := by
  refine MetFree.of_bodySF (plainFor_of_name pn_13) hisR ?_
  intro p e s m args below meth c s₁ Bd hml0 hP hK
  obtain ⟨rfl, hZ, hh⟩ := hP
  have hx := Bd.exec
  have hby := Bd.bytes
  have hml : c.maxLocals = 6 := hml0
  have hown : s.vm.findClass "java/lang/StringLatin1" = some m.cls := findClass_of_methodNamed Bd.named
  have hnm := (name_of_methodNamed Bd.named Bd.method).1
  have X0 : Stand p l e ({ frames := 0, cells := 0, slots := 0, locals := 0 } : Room) s m #[(.ref va), (.int ch), (.int fr), (.int mx)] below meth c s₁ [] 0 0 := Stand.of_body Bd
  have e0 : s₁.heap = h0 := by rw [← hh, Bd.state]; rfl
  have N0 := Fr.nil n0
  have k0 : ∀ tg_, Steps p.tables e below (s₁.setTop (mkF m 0 #[.val (.ref va), .val (.int ch), .val (.int fr), .val (.int mx), .unset, .unset] [])) tg_ → Steps p.tables e below (s₁.setTop (entryFrame m #[(.ref va), (.int ch), (.int fr), (.int mx)] 6)) tg_ := fun tg_ k => castTop (ef_ioc_2 m va ch fr mx) k
  have hc10_89 : fr < mx := (by rw [hfr, hmx]; decide)
  have k90 : ∀ tg_, Steps p.tables e below (s₁.setTop (mkF m 19 #[.val (.ref va), .val (.int ch), .val (.int fr), .val (.int mx), .val (.int (ch.toInt8.toInt32)), .val (.int fr)] [(.int (ch.toInt8.toInt32)), (.int y0)])) tg_ → Steps p.tables e below (s₁.setTop (entryFrame m #[(.ref va), (.int ch), (.int fr), (.int mx)] 6)) tg_ := by
    intro tg_ kt
    refine k0 tg_ ?_
    refine XS.iloadN X0.here hx rfl (hb hby d13_0) rfl ?_
    show Steps p.tables e below (s₁.setTop (mkF m 1 #[.val (.ref va), .val (.int ch), .val (.int fr), .val (.int mx), .unset, .unset] [(.int ch)])) _
    refine XS.i2b X0.here hx rfl (hb hby d13_1) rfl ?_
    show Steps p.tables e below (s₁.setTop (mkF m 2 #[.val (.ref va), .val (.int ch), .val (.int fr), .val (.int mx), .unset, .unset] [(.int (ch.toInt8.toInt32))])) _
    refine XS.istore X0.here hx rfl (hb hby d13_2) rfl (l' := #[.val (.ref va), .val (.int ch), .val (.int fr), .val (.int mx), .val (.int (ch.toInt8.toInt32)), .unset]) rfl ?_
    show Steps p.tables e below (s₁.setTop (mkF m 4 #[.val (.ref va), .val (.int ch), .val (.int fr), .val (.int mx), .val (.int (ch.toInt8.toInt32)), .unset] [])) _
    refine XS.iloadN X0.here hx rfl (hb hby d13_4) rfl ?_
    show Steps p.tables e below (s₁.setTop (mkF m 5 #[.val (.ref va), .val (.int ch), .val (.int fr), .val (.int mx), .val (.int (ch.toInt8.toInt32)), .unset] [(.int fr)])) _
    refine XS.istore X0.here hx rfl (hb hby d13_5) rfl (l' := #[.val (.ref va), .val (.int ch), .val (.int fr), .val (.int mx), .val (.int (ch.toInt8.toInt32)), .val (.int fr)]) rfl ?_
    show Steps p.tables e below (s₁.setTop (mkF m 7 #[.val (.ref va), .val (.int ch), .val (.int fr), .val (.int mx), .val (.int (ch.toInt8.toInt32)), .val (.int fr)] [])) _
    refine XS.iload X0.here hx rfl (hb hby d13_7) rfl ?_
    show Steps p.tables e below (s₁.setTop (mkF m 9 #[.val (.ref va), .val (.int ch), .val (.int fr), .val (.int mx), .val (.int (ch.toInt8.toInt32)), .val (.int fr)] [(.int fr)])) _
    refine XS.iloadN X0.here hx rfl (hb hby d13_9) rfl ?_
    show Steps p.tables e below (s₁.setTop (mkF m 10 #[.val (.ref va), .val (.int ch), .val (.int fr), .val (.int mx), .val (.int (ch.toInt8.toInt32)), .val (.int fr)] [(.int mx), (.int fr)])) _
    refine XS.icmpNo X0.here hx rfl (hb hby d13_10) rfl (tlt hc10_89).2.1 ?_
    show Steps p.tables e below (s₁.setTop (mkF m 13 #[.val (.ref va), .val (.int ch), .val (.int fr), .val (.int mx), .val (.int (ch.toInt8.toInt32)), .val (.int fr)] [])) _
    refine XS.aloadN X0.here hx rfl (hb hby d13_13) rfl rfl ?_
    show Steps p.tables e below (s₁.setTop (mkF m 14 #[.val (.ref va), .val (.int ch), .val (.int fr), .val (.int mx), .val (.int (ch.toInt8.toInt32)), .val (.int fr)] [(.ref va)])) _
    refine XS.iload X0.here hx rfl (hb hby d13_14) rfl ?_
    show Steps p.tables e below (s₁.setTop (mkF m 16 #[.val (.ref va), .val (.int ch), .val (.int fr), .val (.int mx), .val (.int (ch.toInt8.toInt32)), .val (.int fr)] [(.int fr), (.ref va)])) _
    refine own_ldB X0 hx hZ e0 V_va (i := 0) (by rw [hfr]; decide) (by decide) hy0 (g := (mkF m 16 #[.val (.ref va), .val (.int ch), .val (.int fr), .val (.int mx), .val (.int (ch.toInt8.toInt32)), .val (.int fr)] [(.int fr), (.ref va)])) rfl rfl (hb hby d13_16) _ ?_
    show Steps p.tables e below (s₁.setTop (mkF m 17 #[.val (.ref va), .val (.int ch), .val (.int fr), .val (.int mx), .val (.int (ch.toInt8.toInt32)), .val (.int fr)] [(.int y0)])) _
    refine XS.iload X0.here hx rfl (hb hby d13_17) rfl ?_
    show Steps p.tables e below (s₁.setTop (mkF m 19 #[.val (.ref va), .val (.int ch), .val (.int fr), .val (.int mx), .val (.int (ch.toInt8.toInt32)), .val (.int fr)] [(.int (ch.toInt8.toInt32)), (.int y0)])) _
    exact kt
  by_cases hc19_91 : y0 = (ch.toInt8.toInt32)
  · have k92 : ∀ tg_, Steps p.tables e below (s₁.setTop (mkF m 24 #[.val (.ref va), .val (.int ch), .val (.int fr), .val (.int mx), .val (.int (ch.toInt8.toInt32)), .val (.int fr)] [(.int fr)])) tg_ → Steps p.tables e below (s₁.setTop (entryFrame m #[(.ref va), (.int ch), (.int fr), (.int mx)] 6)) tg_ := by
      intro tg_ kt
      refine k90 tg_ ?_
      refine XS.icmpNo X0.here hx rfl (hb hby d13_19) rfl (teq hc19_91).2 ?_
      show Steps p.tables e below (s₁.setTop (mkF m 22 #[.val (.ref va), .val (.int ch), .val (.int fr), .val (.int mx), .val (.int (ch.toInt8.toInt32)), .val (.int fr)] [])) _
      refine XS.iload X0.here hx rfl (hb hby d13_22) rfl ?_
      show Steps p.tables e below (s₁.setTop (mkF m 24 #[.val (.ref va), .val (.int ch), .val (.int fr), .val (.int mx), .val (.int (ch.toInt8.toInt32)), .val (.int fr)] [(.int fr)])) _
      exact kt
    obtain ⟨fs, hr, hrun, hended, hW, hsame⟩ := X0.leave (v := some (.int fr)) (fun h => by rw [Bd.returns] at h; cases h)
    refine ⟨_, _, k92 _ (retI X0 hx Bd.returns (hb hby d13_24) hr), hrun, hended, _, _, rfl, ?_, ⟨_, rfl⟩, hW, hsame.mono (by decide) (by decide)⟩
    show Qioc_2 Z va ch fr mx f y0 y1 h0 n0 _ s₁.heap _
    rw [e0]
    exact ⟨(by rw [own_eq_own_ioc_2]; rw [if_pos hc19_91]), N0, rfl⟩
  · have hc10_93 : (fr + (1 : Int32)) < mx := (by rw [hfr, hmx]; decide)
    have k94 : ∀ tg_, Steps p.tables e below (s₁.setTop (mkF m 19 #[.val (.ref va), .val (.int ch), .val (.int fr), .val (.int mx), .val (.int (ch.toInt8.toInt32)), .val (.int (fr + (1 : Int32)))] [(.int (ch.toInt8.toInt32)), (.int y1)])) tg_ → Steps p.tables e below (s₁.setTop (entryFrame m #[(.ref va), (.int ch), (.int fr), (.int mx)] 6)) tg_ := by
      intro tg_ kt
      refine k90 tg_ ?_
      refine XS.icmpYes X0.here hx rfl (pc0 := 19) (pc' := 25) rfl (hb hby d13_19) rfl (feq hc19_91).2 (by decide) (by decide) ?_
      show Steps p.tables e below (s₁.setTop (mkF m 25 #[.val (.ref va), .val (.int ch), .val (.int fr), .val (.int mx), .val (.int (ch.toInt8.toInt32)), .val (.int fr)] [])) _
      refine XS.iinc X0.here hx rfl (hb hby d13_25) rfl (l' := #[.val (.ref va), .val (.int ch), .val (.int fr), .val (.int mx), .val (.int (ch.toInt8.toInt32)), .val (.int (fr + (1 : Int32)))]) rfl ?_
      show Steps p.tables e below (s₁.setTop (mkF m 28 #[.val (.ref va), .val (.int ch), .val (.int fr), .val (.int mx), .val (.int (ch.toInt8.toInt32)), .val (.int (fr + (1 : Int32)))] [])) _
      refine XS.goto X0.here hx rfl (pc0 := 28) (pc' := 7) rfl (hb hby d13_28) (by decide) (by decide) ?_
      show Steps p.tables e below (s₁.setTop (mkF m 7 #[.val (.ref va), .val (.int ch), .val (.int fr), .val (.int mx), .val (.int (ch.toInt8.toInt32)), .val (.int (fr + (1 : Int32)))] [])) _
      refine XS.iload X0.here hx rfl (hb hby d13_7) rfl ?_
      show Steps p.tables e below (s₁.setTop (mkF m 9 #[.val (.ref va), .val (.int ch), .val (.int fr), .val (.int mx), .val (.int (ch.toInt8.toInt32)), .val (.int (fr + (1 : Int32)))] [(.int (fr + (1 : Int32)))])) _
      refine XS.iloadN X0.here hx rfl (hb hby d13_9) rfl ?_
      show Steps p.tables e below (s₁.setTop (mkF m 10 #[.val (.ref va), .val (.int ch), .val (.int fr), .val (.int mx), .val (.int (ch.toInt8.toInt32)), .val (.int (fr + (1 : Int32)))] [(.int mx), (.int (fr + (1 : Int32)))])) _
      refine XS.icmpNo X0.here hx rfl (hb hby d13_10) rfl (tlt hc10_93).2.1 ?_
      show Steps p.tables e below (s₁.setTop (mkF m 13 #[.val (.ref va), .val (.int ch), .val (.int fr), .val (.int mx), .val (.int (ch.toInt8.toInt32)), .val (.int (fr + (1 : Int32)))] [])) _
      refine XS.aloadN X0.here hx rfl (hb hby d13_13) rfl rfl ?_
      show Steps p.tables e below (s₁.setTop (mkF m 14 #[.val (.ref va), .val (.int ch), .val (.int fr), .val (.int mx), .val (.int (ch.toInt8.toInt32)), .val (.int (fr + (1 : Int32)))] [(.ref va)])) _
      refine XS.iload X0.here hx rfl (hb hby d13_14) rfl ?_
      show Steps p.tables e below (s₁.setTop (mkF m 16 #[.val (.ref va), .val (.int ch), .val (.int fr), .val (.int mx), .val (.int (ch.toInt8.toInt32)), .val (.int (fr + (1 : Int32)))] [(.int (fr + (1 : Int32))), (.ref va)])) _
      refine own_ldB X0 hx hZ e0 V_va (i := 1) (by rw [hfr]; decide) (by decide) hy1 (g := (mkF m 16 #[.val (.ref va), .val (.int ch), .val (.int fr), .val (.int mx), .val (.int (ch.toInt8.toInt32)), .val (.int (fr + (1 : Int32)))] [(.int (fr + (1 : Int32))), (.ref va)])) rfl rfl (hb hby d13_16) _ ?_
      show Steps p.tables e below (s₁.setTop (mkF m 17 #[.val (.ref va), .val (.int ch), .val (.int fr), .val (.int mx), .val (.int (ch.toInt8.toInt32)), .val (.int (fr + (1 : Int32)))] [(.int y1)])) _
      refine XS.iload X0.here hx rfl (hb hby d13_17) rfl ?_
      show Steps p.tables e below (s₁.setTop (mkF m 19 #[.val (.ref va), .val (.int ch), .val (.int fr), .val (.int mx), .val (.int (ch.toInt8.toInt32)), .val (.int (fr + (1 : Int32)))] [(.int (ch.toInt8.toInt32)), (.int y1)])) _
      exact kt
    by_cases hc19_95 : y1 = (ch.toInt8.toInt32)
    · have k96 : ∀ tg_, Steps p.tables e below (s₁.setTop (mkF m 24 #[.val (.ref va), .val (.int ch), .val (.int fr), .val (.int mx), .val (.int (ch.toInt8.toInt32)), .val (.int (fr + (1 : Int32)))] [(.int (fr + (1 : Int32)))])) tg_ → Steps p.tables e below (s₁.setTop (entryFrame m #[(.ref va), (.int ch), (.int fr), (.int mx)] 6)) tg_ := by
        intro tg_ kt
        refine k94 tg_ ?_
        refine XS.icmpNo X0.here hx rfl (hb hby d13_19) rfl (teq hc19_95).2 ?_
        show Steps p.tables e below (s₁.setTop (mkF m 22 #[.val (.ref va), .val (.int ch), .val (.int fr), .val (.int mx), .val (.int (ch.toInt8.toInt32)), .val (.int (fr + (1 : Int32)))] [])) _
        refine XS.iload X0.here hx rfl (hb hby d13_22) rfl ?_
        show Steps p.tables e below (s₁.setTop (mkF m 24 #[.val (.ref va), .val (.int ch), .val (.int fr), .val (.int mx), .val (.int (ch.toInt8.toInt32)), .val (.int (fr + (1 : Int32)))] [(.int (fr + (1 : Int32)))])) _
        exact kt
      obtain ⟨fs, hr, hrun, hended, hW, hsame⟩ := X0.leave (v := some (.int (fr + (1 : Int32)))) (fun h => by rw [Bd.returns] at h; cases h)
      refine ⟨_, _, k96 _ (retI X0 hx Bd.returns (hb hby d13_24) hr), hrun, hended, _, _, rfl, ?_, ⟨_, rfl⟩, hW, hsame.mono (by decide) (by decide)⟩
      show Qioc_2 Z va ch fr mx f y0 y1 h0 n0 _ s₁.heap _
      rw [e0]
      exact ⟨(by rw [own_eq_own_ioc_2]; rw [if_neg hc19_91, if_pos hc19_95]), N0, rfl⟩
    · have hc10_97 : ¬ (((fr + (1 : Int32)) + (1 : Int32)) < mx) := (by rw [hfr, hmx]; decide)
      have k98 : ∀ tg_, Steps p.tables e below (s₁.setTop (mkF m 32 #[.val (.ref va), .val (.int ch), .val (.int fr), .val (.int mx), .val (.int (ch.toInt8.toInt32)), .val (.int ((fr + (1 : Int32)) + (1 : Int32)))] [(.int (-1 : Int32))])) tg_ → Steps p.tables e below (s₁.setTop (entryFrame m #[(.ref va), (.int ch), (.int fr), (.int mx)] 6)) tg_ := by
        intro tg_ kt
        refine k94 tg_ ?_
        refine XS.icmpYes X0.here hx rfl (pc0 := 19) (pc' := 25) rfl (hb hby d13_19) rfl (feq hc19_95).2 (by decide) (by decide) ?_
        show Steps p.tables e below (s₁.setTop (mkF m 25 #[.val (.ref va), .val (.int ch), .val (.int fr), .val (.int mx), .val (.int (ch.toInt8.toInt32)), .val (.int (fr + (1 : Int32)))] [])) _
        refine XS.iinc X0.here hx rfl (hb hby d13_25) rfl (l' := #[.val (.ref va), .val (.int ch), .val (.int fr), .val (.int mx), .val (.int (ch.toInt8.toInt32)), .val (.int ((fr + (1 : Int32)) + (1 : Int32)))]) rfl ?_
        show Steps p.tables e below (s₁.setTop (mkF m 28 #[.val (.ref va), .val (.int ch), .val (.int fr), .val (.int mx), .val (.int (ch.toInt8.toInt32)), .val (.int ((fr + (1 : Int32)) + (1 : Int32)))] [])) _
        refine XS.goto X0.here hx rfl (pc0 := 28) (pc' := 7) rfl (hb hby d13_28) (by decide) (by decide) ?_
        show Steps p.tables e below (s₁.setTop (mkF m 7 #[.val (.ref va), .val (.int ch), .val (.int fr), .val (.int mx), .val (.int (ch.toInt8.toInt32)), .val (.int ((fr + (1 : Int32)) + (1 : Int32)))] [])) _
        refine XS.iload X0.here hx rfl (hb hby d13_7) rfl ?_
        show Steps p.tables e below (s₁.setTop (mkF m 9 #[.val (.ref va), .val (.int ch), .val (.int fr), .val (.int mx), .val (.int (ch.toInt8.toInt32)), .val (.int ((fr + (1 : Int32)) + (1 : Int32)))] [(.int ((fr + (1 : Int32)) + (1 : Int32)))])) _
        refine XS.iloadN X0.here hx rfl (hb hby d13_9) rfl ?_
        show Steps p.tables e below (s₁.setTop (mkF m 10 #[.val (.ref va), .val (.int ch), .val (.int fr), .val (.int mx), .val (.int (ch.toInt8.toInt32)), .val (.int ((fr + (1 : Int32)) + (1 : Int32)))] [(.int mx), (.int ((fr + (1 : Int32)) + (1 : Int32)))])) _
        refine XS.icmpYes X0.here hx rfl (pc0 := 10) (pc' := 31) rfl (hb hby d13_10) rfl (flt hc10_97).2.1 (by decide) (by decide) ?_
        show Steps p.tables e below (s₁.setTop (mkF m 31 #[.val (.ref va), .val (.int ch), .val (.int fr), .val (.int mx), .val (.int (ch.toInt8.toInt32)), .val (.int ((fr + (1 : Int32)) + (1 : Int32)))] [])) _
        refine XS.iconst X0.here hx rfl (hb hby d13_31) ?_
        show Steps p.tables e below (s₁.setTop (mkF m 32 #[.val (.ref va), .val (.int ch), .val (.int fr), .val (.int mx), .val (.int (ch.toInt8.toInt32)), .val (.int ((fr + (1 : Int32)) + (1 : Int32)))] [(.int (-1 : Int32))])) _
        exact kt
      obtain ⟨fs, hr, hrun, hended, hW, hsame⟩ := X0.leave (v := some (.int (-1 : Int32))) (fun h => by rw [Bd.returns] at h; cases h)
      refine ⟨_, _, k98 _ (retI X0 hx Bd.returns (hb hby d13_32) hr), hrun, hended, _, _, rfl, ?_, ⟨_, rfl⟩, hW, hsame.mono (by decide) (by decide)⟩
      show Qioc_2 Z va ch fr mx f y0 y1 h0 n0 _ s₁.heap _
      rw [e0]
      exact ⟨(by rw [own_eq_own_ioc_2]; rw [if_neg hc19_91, if_neg hc19_95]), N0, rfl⟩
theorem ef_io_2 (m : MethodId) (x0 : Addr) (x1 : Int32) (x2 : Int32) (x3 : Int32) : entryFrame m #[(.ref x0), (.int x1), (.int x2), (.int x3)] 4 = mkF m 0 #[.val (.ref x0), .val (.int x1), .val (.int x2), .val (.int x3)] [] := by first | (simp [entryFrame, mkF, argsToLocals, Value.category]; done) | rfl
def own_io_2 (ch : Int32) (fr : Int32) (to_ : Int32) (y0 : Int32) (y1 : Int32) : Int32 := (if (own_ce ch) = (0 : Int32) then (-1 : Int32) else (own_ioc_2 ch (own_max fr (0 : Int32)) y0 y1))
theorem own_eq_own_io_2 (ch : Int32) (fr : Int32) (to_ : Int32) (y0 : Int32) (y1 : Int32) : own_io_2 ch fr to_ y0 y1 = (if (own_ce ch) = (0 : Int32) then (-1 : Int32) else (own_ioc_2 ch (own_max fr (0 : Int32)) y0 y1)) := rfl
def Qio_2 (Z : State) (va : Addr) (ch : Int32) (fr : Int32) (to_ : Int32) (f : Nat → Int32) (y0 : Int32) (y1 : Int32) (h0 : Heap) (n0 : Nat) (rv_ : Option Value) (h : Heap) (LL_ : List Loc) : Prop := rv_ = some (.int (own_io_2 ch fr to_ y0 y1)) ∧ Fr n0 LL_ ∧ h = h0
set_option maxRecDepth 65536 in
set_option maxHeartbeats 40000000 in
theorem rmio_2 (l : Launch) (Z : State) (a0 : Array Value) (hw : ∀ d ∈ tables_1, d.before a0 Z = true) (ws : List Jvm.Cond) (va : Addr) (ch : Int32) (fr : Int32) (to_ : Int32) (f : Nat → Int32) (y0 : Int32) (y1 : Int32) (h0 : Heap) (n0 : Nat) (V_va : own_AI Z h0 va .byte 2 f) (hfr : fr = (0 : Int32)) (hto : to_ = (2 : Int32)) (hy0 : f 0 = y0) (hy1 : f 1 = y1) :
    MetFree l (⟨"java/lang/StringLatin1", "indexOf", "([BIII)I"⟩ : MethodName) (head1 (Jvm.Cond.code (⟨"java/lang/StringLatin1", "indexOf", "([BIII)I"⟩ : MethodName) jdk_43_method_22_code 4 (some .int) :: ws) ({ frames := 1, cells := 0, slots := 0, locals := 17 } : Room)) (fun aa UU => aa = #[(.ref va), (.int ch), (.int fr), (.int to_)] ∧ Z.Warmed39 UU.vm ∧ UU.heap = h0) (fun _ _ _ _ _ => True) (fun _ UU oo UV => ∃ vv LL, oo = .returned vv ∧ Qio_2 Z va ch fr to_ f y0 y1 h0 n0 vv UV.heap LL ∧ FrameEnd UU oo UV LL ({ frames := 1, cells := 0, slots := 0, locals := 17 } : Room).cells ({ frames := 1, cells := 0, slots := 0, locals := 17 } : Room).slots) := by
  refine MetFree.of_bodySF (plainFor_of_name pn_9) hisR ?_
  intro p e s m args below meth c s₁ Bd hml0 hP hK
  obtain ⟨rfl, hZ, hh⟩ := hP
  have hx := Bd.exec
  have hby := Bd.bytes
  have hml : c.maxLocals = 4 := hml0
  have hown : s.vm.findClass "java/lang/StringLatin1" = some m.cls := findClass_of_methodNamed Bd.named
  have hnm := (name_of_methodNamed Bd.named Bd.method).1
  have X0 : Stand p l e ({ frames := 1, cells := 0, slots := 0, locals := 17 } : Room) s m #[(.ref va), (.int ch), (.int fr), (.int to_)] below meth c s₁ [] 0 0 := Stand.of_body Bd
  have e0 : s₁.heap = h0 := by rw [← hh, Bd.state]; rfl
  have N0 := Fr.nil n0
  have k0 : ∀ tg_, Steps p.tables e below (s₁.setTop (mkF m 0 #[.val (.ref va), .val (.int ch), .val (.int fr), .val (.int to_)] [])) tg_ → Steps p.tables e below (s₁.setTop (entryFrame m #[(.ref va), (.int ch), (.int fr), (.int to_)] 4)) tg_ := fun tg_ k => castTop (ef_io_2 m va ch fr to_) k
  obtain ⟨_, _, ⟨T99, L99, kc99, nc99⟩, -, X99, ⟨Lc99, hQ99, l99, y99, z99⟩, st99⟩ := Jvm.LawKit.callS X0 hx (y := (⟨"java/lang/StringLatin1", "canEncode", "(I)Z"⟩ : MethodName)) hown (mvT hZ (hw _ (List.mem_of_getElem? (i := 55) rfl))) (mvT hZ (hw _ (List.mem_of_getElem? (i := 56) rfl))) (mvT hZ (hw _ (List.mem_of_getElem? (i := 53) rfl))) (mvT hZ (hw _ (List.mem_of_getElem? (i := 57) rfl))) (by decide) (backOf (W := 0) (rm10 l Z a0 hw [] ch h0 n0 ) hZ (hw _ (List.mem_of_getElem? (i := 57) rfl)) (hw _ (List.mem_of_getElem? (i := 53) rfl)) (by decide) (by decide)) (g := (mkF m 1 #[.val (.ref va), .val (.int ch), .val (.int fr), .val (.int to_)] [(.int ch)])) rfl (by rw [hml]; rfl) (argsL := [(.int ch)]) (rest := []) (lenOf pd_9 rfl) rfl (by show 2 * 0 + _ ≤ _; exact Nat.le_of_eq rfl) (hb hby d9_1) (fun _ _ => ⟨rfl, e0, (by decide : 0 + 0 ≤ _), (by decide : 0 + 0 ≤ _)⟩)
  dsimp only [Pt.U, Pt.locs, Pt.cells, Pt.slots] at X99 l99 y99 z99 st99 hQ99
  rw [l99, y99, z99] at X99
  replace X99 : Stand p l e ({ frames := 1, cells := 0, slots := 0, locals := 17 } : Room) s m #[(.ref va), (.int ch), (.int fr), (.int to_)] below meth c T99 _ 0 0 := X99
  obtain ⟨rfl, Nq99, eq99⟩ := hQ99
  have N99 := Fr.app N0 Nq99
  have k100 : ∀ tg_, Steps p.tables e below (T99.setTop (mkF m 4 #[.val (.ref va), .val (.int ch), .val (.int fr), .val (.int to_)] [(.int (own_ce ch))])) tg_ → Steps p.tables e below (s₁.setTop (entryFrame m #[(.ref va), (.int ch), (.int fr), (.int to_)] 4)) tg_ := by
    intro tg_ kt
    refine k0 tg_ ?_
    refine XS.iloadN X0.here hx rfl (hb hby d9_0) rfl ?_
    show Steps p.tables e below (s₁.setTop (mkF m 1 #[.val (.ref va), .val (.int ch), .val (.int fr), .val (.int to_)] [(.int ch)])) _
    refine st99 _ ?_
    show Steps p.tables e below (T99.setTop (mkF m 4 #[.val (.ref va), .val (.int ch), .val (.int fr), .val (.int to_)] [(.int (own_ce ch))])) _
    exact kt
  by_cases hc4_101 : (own_ce ch) = (0 : Int32)
  · have k102 : ∀ tg_, Steps p.tables e below (T99.setTop (mkF m 8 #[.val (.ref va), .val (.int ch), .val (.int fr), .val (.int to_)] [(.int (-1 : Int32))])) tg_ → Steps p.tables e below (s₁.setTop (entryFrame m #[(.ref va), (.int ch), (.int fr), (.int to_)] 4)) tg_ := by
      intro tg_ kt
      refine k100 tg_ ?_
      refine XS.ifNo X99.here hx rfl (hb hby d9_4) rfl ((if0 _ _).trans (teq hc4_101).2) ?_
      show Steps p.tables e below (T99.setTop (mkF m 7 #[.val (.ref va), .val (.int ch), .val (.int fr), .val (.int to_)] [])) _
      refine XS.iconst X99.here hx rfl (hb hby d9_7) ?_
      show Steps p.tables e below (T99.setTop (mkF m 8 #[.val (.ref va), .val (.int ch), .val (.int fr), .val (.int to_)] [(.int (-1 : Int32))])) _
      exact kt
    obtain ⟨fs, hr, hrun, hended, hW, hsame⟩ := X99.leave (v := some (.int (-1 : Int32))) (fun h => by rw [Bd.returns] at h; cases h)
    refine ⟨_, _, k102 _ (retI X99 hx Bd.returns (hb hby d9_8) hr), hrun, hended, _, _, rfl, ?_, ⟨_, rfl⟩, hW, hsame.mono (by decide) (by decide)⟩
    show Qio_2 Z va ch fr to_ f y0 y1 h0 n0 _ T99.heap _
    rw [eq99]
    exact ⟨(by rw [own_eq_own_io_2]; rw [if_pos hc4_101]), N99, rfl⟩
  · obtain ⟨_, _, ⟨T103, L103, kc103, nc103⟩, -, X103, ⟨Lc103, hQ103, l103, y103, z103⟩, st103⟩ := Jvm.LawKit.callS X99 hx (y := (⟨"java/lang/Math", "max", "(II)I"⟩ : MethodName)) hown (mvT hZ (hw _ (List.mem_of_getElem? (i := 58) rfl))) (mvT hZ (hw _ (List.mem_of_getElem? (i := 59) rfl))) (mvT hZ (hw _ (List.mem_of_getElem? (i := 60) rfl))) (mvT hZ (hw _ (List.mem_of_getElem? (i := 61) rfl))) (by decide) (backOf (W := 0) (rm11 l Z a0 hw [] fr (0 : Int32) h0 n0 ) hZ (hw _ (List.mem_of_getElem? (i := 61) rfl)) (hw _ (List.mem_of_getElem? (i := 60) rfl)) (by decide) (by decide)) (g := (mkF m 11 #[.val (.ref va), .val (.int ch), .val (.int fr), .val (.int to_)] [(.int (0 : Int32)), (.int fr)])) rfl (by rw [hml]; rfl) (argsL := [(.int fr), (.int (0 : Int32))]) (rest := []) (lenOf pd_4 rfl) rfl (by show 2 * 0 + _ ≤ _; exact Nat.le_of_eq rfl) (hb hby d9_11) (fun _ _ => ⟨rfl, eq99, (by decide : 0 + 0 ≤ _), (by decide : 0 + 0 ≤ _)⟩)
    dsimp only [Pt.U, Pt.locs, Pt.cells, Pt.slots] at X103 l103 y103 z103 st103 hQ103
    rw [l103, y103, z103] at X103
    replace X103 : Stand p l e ({ frames := 1, cells := 0, slots := 0, locals := 17 } : Room) s m #[(.ref va), (.int ch), (.int fr), (.int to_)] below meth c T103 _ 0 0 := X103
    obtain ⟨rfl, Nq103, eq103⟩ := hQ103
    have N103 := Fr.app N99 Nq103
    obtain ⟨_, _, ⟨T104, L104, kc104, nc104⟩, -, X104, ⟨Lc104, hQ104, l104, y104, z104⟩, st104⟩ := Jvm.LawKit.callS X103 hx (y := (⟨"java/lang/Math", "min", "(II)I"⟩ : MethodName)) hown (mvT hZ (hw _ (List.mem_of_getElem? (i := 62) rfl))) (mvT hZ (hw _ (List.mem_of_getElem? (i := 63) rfl))) (mvT hZ (hw _ (List.mem_of_getElem? (i := 60) rfl))) (mvT hZ (hw _ (List.mem_of_getElem? (i := 64) rfl))) (by decide) (backOf (W := 0) (rm12 l Z a0 hw [] to_ (2 : Int32) h0 n0 ) hZ (hw _ (List.mem_of_getElem? (i := 64) rfl)) (hw _ (List.mem_of_getElem? (i := 60) rfl)) (by decide) (by decide)) (g := (mkF m 18 #[.val (.ref va), .val (.int ch), .val (.int (own_max fr (0 : Int32))), .val (.int to_)] [(.int (2 : Int32)), (.int to_)])) rfl (by rw [hml]; rfl) (argsL := [(.int to_), (.int (2 : Int32))]) (rest := []) (lenOf pd_4 rfl) rfl (by show 2 * 0 + _ ≤ _; exact Nat.le_of_eq rfl) (hb hby d9_18) (fun _ _ => ⟨rfl, eq103, (by decide : 0 + 0 ≤ _), (by decide : 0 + 0 ≤ _)⟩)
    dsimp only [Pt.U, Pt.locs, Pt.cells, Pt.slots] at X104 l104 y104 z104 st104 hQ104
    rw [l104, y104, z104] at X104
    replace X104 : Stand p l e ({ frames := 1, cells := 0, slots := 0, locals := 17 } : Room) s m #[(.ref va), (.int ch), (.int fr), (.int to_)] below meth c T104 _ 0 0 := X104
    obtain ⟨rfl, Nq104, eq104⟩ := hQ104
    have N104 := Fr.app N103 Nq104
    have hc24_105 : (own_max fr (0 : Int32)) < (own_min to_ (2 : Int32)) := (by rw [hfr, hto]; decide)
    have k106 : ∀ tg_, Steps p.tables e below (T104.setTop (mkF m 29 #[.val (.ref va), .val (.int ch), .val (.int (own_max fr (0 : Int32))), .val (.int (own_min to_ (2 : Int32)))] [])) tg_ → Steps p.tables e below (s₁.setTop (entryFrame m #[(.ref va), (.int ch), (.int fr), (.int to_)] 4)) tg_ := by
      intro tg_ kt
      refine k100 tg_ ?_
      refine XS.ifYes X99.here hx rfl (pc0 := 4) (pc' := 9) rfl (hb hby d9_4) rfl ((if0 _ _).trans (feq hc4_101).2) (by decide) (by decide) ?_
      show Steps p.tables e below (T99.setTop (mkF m 9 #[.val (.ref va), .val (.int ch), .val (.int fr), .val (.int to_)] [])) _
      refine XS.iloadN X99.here hx rfl (hb hby d9_9) rfl ?_
      show Steps p.tables e below (T99.setTop (mkF m 10 #[.val (.ref va), .val (.int ch), .val (.int fr), .val (.int to_)] [(.int fr)])) _
      refine XS.iconst X99.here hx rfl (hb hby d9_10) ?_
      show Steps p.tables e below (T99.setTop (mkF m 11 #[.val (.ref va), .val (.int ch), .val (.int fr), .val (.int to_)] [(.int (0 : Int32)), (.int fr)])) _
      refine st103 _ ?_
      show Steps p.tables e below (T103.setTop (mkF m 14 #[.val (.ref va), .val (.int ch), .val (.int fr), .val (.int to_)] [(.int (own_max fr (0 : Int32)))])) _
      refine XS.istoreN X103.here hx rfl (hb hby d9_14) rfl (l' := #[.val (.ref va), .val (.int ch), .val (.int (own_max fr (0 : Int32))), .val (.int to_)]) rfl ?_
      show Steps p.tables e below (T103.setTop (mkF m 15 #[.val (.ref va), .val (.int ch), .val (.int (own_max fr (0 : Int32))), .val (.int to_)] [])) _
      refine XS.iloadN X103.here hx rfl (hb hby d9_15) rfl ?_
      show Steps p.tables e below (T103.setTop (mkF m 16 #[.val (.ref va), .val (.int ch), .val (.int (own_max fr (0 : Int32))), .val (.int to_)] [(.int to_)])) _
      refine XS.aloadN X103.here hx rfl (hb hby d9_16) rfl rfl ?_
      show Steps p.tables e below (T103.setTop (mkF m 17 #[.val (.ref va), .val (.int ch), .val (.int (own_max fr (0 : Int32))), .val (.int to_)] [(.ref va), (.int to_)])) _
      refine own_len X103 hx hZ eq103 V_va (z := (2 : Int32)) (by decide) (g := (mkF m 17 #[.val (.ref va), .val (.int ch), .val (.int (own_max fr (0 : Int32))), .val (.int to_)] [(.ref va), (.int to_)])) rfl rfl (hb hby d9_17) _ ?_
      show Steps p.tables e below (T103.setTop (mkF m 18 #[.val (.ref va), .val (.int ch), .val (.int (own_max fr (0 : Int32))), .val (.int to_)] [(.int (2 : Int32)), (.int to_)])) _
      refine st104 _ ?_
      show Steps p.tables e below (T104.setTop (mkF m 21 #[.val (.ref va), .val (.int ch), .val (.int (own_max fr (0 : Int32))), .val (.int to_)] [(.int (own_min to_ (2 : Int32)))])) _
      refine XS.istoreN X104.here hx rfl (hb hby d9_21) rfl (l' := #[.val (.ref va), .val (.int ch), .val (.int (own_max fr (0 : Int32))), .val (.int (own_min to_ (2 : Int32)))]) rfl ?_
      show Steps p.tables e below (T104.setTop (mkF m 22 #[.val (.ref va), .val (.int ch), .val (.int (own_max fr (0 : Int32))), .val (.int (own_min to_ (2 : Int32)))] [])) _
      refine XS.iloadN X104.here hx rfl (hb hby d9_22) rfl ?_
      show Steps p.tables e below (T104.setTop (mkF m 23 #[.val (.ref va), .val (.int ch), .val (.int (own_max fr (0 : Int32))), .val (.int (own_min to_ (2 : Int32)))] [(.int (own_max fr (0 : Int32)))])) _
      refine XS.iloadN X104.here hx rfl (hb hby d9_23) rfl ?_
      show Steps p.tables e below (T104.setTop (mkF m 24 #[.val (.ref va), .val (.int ch), .val (.int (own_max fr (0 : Int32))), .val (.int (own_min to_ (2 : Int32)))] [(.int (own_min to_ (2 : Int32))), (.int (own_max fr (0 : Int32)))])) _
      refine XS.icmpYes X104.here hx rfl (pc0 := 24) (pc' := 29) rfl (hb hby d9_24) rfl (tlt hc24_105).1 (by decide) (by decide) ?_
      show Steps p.tables e below (T104.setTop (mkF m 29 #[.val (.ref va), .val (.int ch), .val (.int (own_max fr (0 : Int32))), .val (.int (own_min to_ (2 : Int32)))] [])) _
      exact kt
    have hfrm : (own_max fr (0 : Int32)) = (0 : Int32) := by rw [hfr]; decide
    have hmxm : (own_min to_ (2 : Int32)) = (2 : Int32) := by rw [hto]; decide
    obtain ⟨_, _, ⟨T107, L107, kc107, nc107⟩, -, X107, ⟨Lc107, hQ107, l107, y107, z107⟩, st107⟩ := Jvm.LawKit.callS X104 hx (y := (⟨"java/lang/StringLatin1", "indexOfChar", "([BIII)I"⟩ : MethodName)) hown (mvT hZ (hw _ (List.mem_of_getElem? (i := 65) rfl))) (mvT hZ (hw _ (List.mem_of_getElem? (i := 66) rfl))) (mvT hZ (hw _ (List.mem_of_getElem? (i := 53) rfl))) (mvT hZ (hw _ (List.mem_of_getElem? (i := 67) rfl))) (by decide) (backOf (W := 0) (rmioc_2 l Z a0 hw [] va ch (own_max fr (0 : Int32)) (own_min to_ (2 : Int32)) f y0 y1 h0 n0 V_va hfrm hmxm hy0 hy1) hZ (hw _ (List.mem_of_getElem? (i := 67) rfl)) (hw _ (List.mem_of_getElem? (i := 53) rfl)) (by decide) (by decide)) (g := (mkF m 33 #[.val (.ref va), .val (.int ch), .val (.int (own_max fr (0 : Int32))), .val (.int (own_min to_ (2 : Int32)))] [(.int (own_min to_ (2 : Int32))), (.int (own_max fr (0 : Int32))), (.int ch), (.ref va)])) rfl (by rw [hml]; rfl) (argsL := [(.ref va), (.int ch), (.int (own_max fr (0 : Int32))), (.int (own_min to_ (2 : Int32)))]) (rest := []) (lenOf pd_8 rfl) rfl (by show 2 * 0 + _ ≤ _; exact Nat.le_of_eq rfl) (hb hby d9_33) (fun _ _ => ⟨rfl, eq104, (by decide : 0 + 0 ≤ _), (by decide : 0 + 0 ≤ _)⟩)
    dsimp only [Pt.U, Pt.locs, Pt.cells, Pt.slots] at X107 l107 y107 z107 st107 hQ107
    rw [l107, y107, z107] at X107
    replace X107 : Stand p l e ({ frames := 1, cells := 0, slots := 0, locals := 17 } : Room) s m #[(.ref va), (.int ch), (.int fr), (.int to_)] below meth c T107 _ 0 0 := X107
    obtain ⟨rfl, Nq107, eq107⟩ := hQ107
    have N107 := Fr.app N104 Nq107
    have k108 : ∀ tg_, Steps p.tables e below (T107.setTop (mkF m 36 #[.val (.ref va), .val (.int ch), .val (.int (own_max fr (0 : Int32))), .val (.int (own_min to_ (2 : Int32)))] [(.int (own_ioc_2 ch (own_max fr (0 : Int32)) y0 y1))])) tg_ → Steps p.tables e below (s₁.setTop (entryFrame m #[(.ref va), (.int ch), (.int fr), (.int to_)] 4)) tg_ := by
      intro tg_ kt
      refine k106 tg_ ?_
      refine XS.aloadN X104.here hx rfl (hb hby d9_29) rfl rfl ?_
      show Steps p.tables e below (T104.setTop (mkF m 30 #[.val (.ref va), .val (.int ch), .val (.int (own_max fr (0 : Int32))), .val (.int (own_min to_ (2 : Int32)))] [(.ref va)])) _
      refine XS.iloadN X104.here hx rfl (hb hby d9_30) rfl ?_
      show Steps p.tables e below (T104.setTop (mkF m 31 #[.val (.ref va), .val (.int ch), .val (.int (own_max fr (0 : Int32))), .val (.int (own_min to_ (2 : Int32)))] [(.int ch), (.ref va)])) _
      refine XS.iloadN X104.here hx rfl (hb hby d9_31) rfl ?_
      show Steps p.tables e below (T104.setTop (mkF m 32 #[.val (.ref va), .val (.int ch), .val (.int (own_max fr (0 : Int32))), .val (.int (own_min to_ (2 : Int32)))] [(.int (own_max fr (0 : Int32))), (.int ch), (.ref va)])) _
      refine XS.iloadN X104.here hx rfl (hb hby d9_32) rfl ?_
      show Steps p.tables e below (T104.setTop (mkF m 33 #[.val (.ref va), .val (.int ch), .val (.int (own_max fr (0 : Int32))), .val (.int (own_min to_ (2 : Int32)))] [(.int (own_min to_ (2 : Int32))), (.int (own_max fr (0 : Int32))), (.int ch), (.ref va)])) _
      refine st107 _ ?_
      show Steps p.tables e below (T107.setTop (mkF m 36 #[.val (.ref va), .val (.int ch), .val (.int (own_max fr (0 : Int32))), .val (.int (own_min to_ (2 : Int32)))] [(.int (own_ioc_2 ch (own_max fr (0 : Int32)) y0 y1))])) _
      exact kt
    obtain ⟨fs, hr, hrun, hended, hW, hsame⟩ := X107.leave (v := some (.int (own_ioc_2 ch (own_max fr (0 : Int32)) y0 y1))) (fun h => by rw [Bd.returns] at h; cases h)
    refine ⟨_, _, k108 _ (retI X107 hx Bd.returns (hb hby d9_36) hr), hrun, hended, _, _, rfl, ?_, ⟨_, rfl⟩, hW, hsame.mono (by decide) (by decide)⟩
    show Qio_2 Z va ch fr to_ f y0 y1 h0 n0 _ T107.heap _
    rw [eq107]
    exact ⟨(by rw [own_eq_own_io_2]; rw [if_neg hc4_101]), N107, rfl⟩
theorem ef_ii_2 (m : MethodId) (x0 : Addr) (x1 : Int32) (x2 : Int32) : entryFrame m #[(.ref x0), (.int x1), (.int x2)] 3 = mkF m 0 #[.val (.ref x0), .val (.int x1), .val (.int x2)] [] := by first | (simp [entryFrame, mkF, argsToLocals, Value.category]; done) | rfl
def own_ii_2 (ch : Int32) (fr : Int32) (y0 : Int32) (y1 : Int32) : Int32 := (own_io_2 ch fr (2 : Int32) y0 y1)
theorem own_eq_own_ii_2 (ch : Int32) (fr : Int32) (y0 : Int32) (y1 : Int32) : own_ii_2 ch fr y0 y1 = (own_io_2 ch fr (2 : Int32) y0 y1) := rfl
def Qii_2 (Z : State) (s0 : Addr) (ch : Int32) (fr : Int32) (zc : Int32) (va : Addr) (f : Nat → Int32) (y0 : Int32) (y1 : Int32) (h0 : Heap) (n0 : Nat) (rv_ : Option Value) (h : Heap) (LL_ : List Loc) : Prop := rv_ = some (.int (own_ii_2 ch fr y0 y1)) ∧ Fr n0 LL_ ∧ h = h0
set_option maxRecDepth 65536 in
set_option maxHeartbeats 40000000 in
theorem rmii_2 (l : Launch) (Z : State) (a0 : Array Value) (hw : ∀ d ∈ tables_1, d.before a0 Z = true) (ws : List Jvm.Cond) (s0 : Addr) (ch : Int32) (fr : Int32) (zc : Int32) (va : Addr) (f : Nat → Int32) (y0 : Int32) (y1 : Int32) (h0 : Heap) (n0 : Nat) (E_s0 : Exa Z h0 s0 "java/lang/String") (F_s0_value : Fld Z h0 s0 "java/lang/String" "value" "[B" (.ref va)) (F_s0_coder : Fld Z h0 s0 "java/lang/String" "coder" "B" (.int (0 : Int32))) (V_va : own_AI Z h0 va .byte 2 f) (S_COMPACT_STRINGS : Sta Z h0 "java/lang/String" "COMPACT_STRINGS" "Z" (.int zc)) (hz : ¬ zc = (0 : Int32)) (hfr : fr = (0 : Int32)) (hy0 : f 0 = y0) (hy1 : f 1 = y1) :
    MetFree l (⟨"java/lang/String", "indexOf", "(II)I"⟩ : MethodName) (head1 (Jvm.Cond.code (⟨"java/lang/String", "indexOf", "(II)I"⟩ : MethodName) jdk_42_method_80_code 3 (some .int) :: ws) ({ frames := 2, cells := 0, slots := 0, locals := 32 } : Room)) (fun aa UU => aa = #[(.ref s0), (.int ch), (.int fr)] ∧ Z.Warmed39 UU.vm ∧ UU.heap = h0) (fun _ _ _ _ _ => True) (fun _ UU oo UV => ∃ vv LL, oo = .returned vv ∧ Qii_2 Z s0 ch fr zc va f y0 y1 h0 n0 vv UV.heap LL ∧ FrameEnd UU oo UV LL ({ frames := 2, cells := 0, slots := 0, locals := 32 } : Room).cells ({ frames := 2, cells := 0, slots := 0, locals := 32 } : Room).slots) := by
  refine MetFree.of_bodySF (plainFor_of_name pn_5) hisR ?_
  intro p e s m args below meth c s₁ Bd hml0 hP hK
  obtain ⟨rfl, hZ, hh⟩ := hP
  have hx := Bd.exec
  have hby := Bd.bytes
  have hml : c.maxLocals = 3 := hml0
  have hown : s.vm.findClass "java/lang/String" = some m.cls := findClass_of_methodNamed Bd.named
  have hnm := (name_of_methodNamed Bd.named Bd.method).1
  have X0 : Stand p l e ({ frames := 2, cells := 0, slots := 0, locals := 32 } : Room) s m #[(.ref s0), (.int ch), (.int fr)] below meth c s₁ [] 0 0 := Stand.of_body Bd
  have e0 : s₁.heap = h0 := by rw [← hh, Bd.state]; rfl
  have N0 := Fr.nil n0
  have k0 : ∀ tg_, Steps p.tables e below (s₁.setTop (mkF m 0 #[.val (.ref s0), .val (.int ch), .val (.int fr)] [])) tg_ → Steps p.tables e below (s₁.setTop (entryFrame m #[(.ref s0), (.int ch), (.int fr)] 3)) tg_ := fun tg_ k => castTop (ef_ii_2 m s0 ch fr) k
  have hfr0 := hfr
  obtain ⟨cq109, kq109, q109a, q109b, q109c⟩ := isOf hZ e0 E_s0
  obtain ⟨_, _, ⟨T109, L109, kc109, nc109⟩, -, X109, ⟨Lc109, hQ109, l109, y109, z109⟩, st109⟩ := X0.virtualBack hx (y := (⟨"java/lang/String", "isLatin1", "()Z"⟩ : MethodName)) (z := (⟨"java/lang/String", "isLatin1", "()Z"⟩ : MethodName)) hown (mvT hZ (hw _ (List.mem_of_getElem? (i := 31) rfl))) (mvT hZ (hw _ (List.mem_of_getElem? (i := 32) rfl))) (notFace_of_selects (args := #[]) (mvT hZ (hw _ (List.mem_of_getElem? (i := 34) rfl)))) (mvT hZ (hw _ (List.mem_of_getElem? (i := 34) rfl))) (mvT hZ (hw _ (List.mem_of_getElem? (i := 33) rfl))) (by decide) (backOf (W := 0) (rm6 l Z a0 hw [] s0 zc h0 n0 F_s0_coder S_COMPACT_STRINGS hz) hZ (hw _ (List.mem_of_getElem? (i := 35) rfl)) (hw _ (List.mem_of_getElem? (i := 24) rfl)) (by decide) (by decide)) q109a q109c (g := (mkF m 1 #[.val (.ref s0), .val (.int ch), .val (.int fr)] [(.ref s0)])) rfl (by rw [hml]; rfl) (Steps.refl _) (argsL := []) (rest := []) (lenOf pd_5 rfl) rfl (by show 2 * 0 + _ ≤ _; exact Nat.le_of_eq rfl) (hb hby d5_1) (fun _ _ => ⟨rfl, e0, (by decide : 0 + 0 ≤ _), (by decide : 0 + 0 ≤ _)⟩)
  dsimp only [Pt.U, Pt.locs, Pt.cells, Pt.slots] at X109 l109 y109 z109 st109 hQ109
  rw [l109, y109, z109] at X109
  replace X109 : Stand p l e ({ frames := 2, cells := 0, slots := 0, locals := 32 } : Room) s m #[(.ref s0), (.int ch), (.int fr)] below meth c T109 _ 0 0 := X109
  obtain ⟨rfl, Nq109, eq109⟩ := hQ109
  have N109 := Fr.app N0 Nq109
  obtain ⟨T110, X110, e110, st110⟩ := getF X109 hx hZ hown (host := "") (Or.inl (hw _ (List.mem_of_getElem? (i := 39) rfl))) Via.refl eq109 F_s0_value (g := (mkF m 8 #[.val (.ref s0), .val (.int ch), .val (.int fr)] [(.ref s0)])) rfl rfl (hb hby d5_8)
  obtain ⟨cq111, kq111, q111a, q111b, q111c⟩ := isOf hZ e110 E_s0
  obtain ⟨_, _, ⟨T111, L111, kc111, nc111⟩, -, X111, ⟨Lc111, hQ111, l111, y111, z111⟩, st111⟩ := X110.virtualBack hx (y := (⟨"java/lang/String", "length", "()I"⟩ : MethodName)) (z := (⟨"java/lang/String", "length", "()I"⟩ : MethodName)) hown (mvT hZ (hw _ (List.mem_of_getElem? (i := 41) rfl))) (mvT hZ (hw _ (List.mem_of_getElem? (i := 42) rfl))) (notFace_of_selects (args := #[]) (mvT hZ (hw _ (List.mem_of_getElem? (i := 44) rfl)))) (mvT hZ (hw _ (List.mem_of_getElem? (i := 44) rfl))) (mvT hZ (hw _ (List.mem_of_getElem? (i := 43) rfl))) (by decide) (backOf (W := 3) (rmlen_2 l Z a0 hw [] s0 zc va f h0 n0 E_s0 F_s0_value F_s0_coder V_va S_COMPACT_STRINGS hz) hZ (hw _ (List.mem_of_getElem? (i := 45) rfl)) (hw _ (List.mem_of_getElem? (i := 24) rfl)) (by decide) (by decide)) q111a q111c (g := (mkF m 14 #[.val (.ref s0), .val (.int ch), .val (.int fr)] [(.ref s0), (.int fr), (.int ch), (.ref va)])) rfl (by rw [hml]; rfl) (Steps.refl _) (argsL := []) (rest := [(.int fr), (.int ch), (.ref va)]) (lenOf pd_6 rfl) rfl (by show 2 * 0 + _ ≤ _; exact Nat.le_of_eq rfl) (hb hby d5_14) (fun _ _ => ⟨rfl, e110, (by decide : 0 + 0 ≤ _), (by decide : 0 + 0 ≤ _)⟩)
  dsimp only [Pt.U, Pt.locs, Pt.cells, Pt.slots] at X111 l111 y111 z111 st111 hQ111
  rw [l111, y111, z111] at X111
  replace X111 : Stand p l e ({ frames := 2, cells := 0, slots := 0, locals := 32 } : Room) s m #[(.ref s0), (.int ch), (.int fr)] below meth c T111 _ 0 0 := X111
  obtain ⟨rfl, Nq111, eq111⟩ := hQ111
  have N111 := Fr.app N109 Nq111
  obtain ⟨_, _, ⟨T112, L112, kc112, nc112⟩, -, X112, ⟨Lc112, hQ112, l112, y112, z112⟩, st112⟩ := Jvm.LawKit.callS X111 hx (y := (⟨"java/lang/StringLatin1", "indexOf", "([BIII)I"⟩ : MethodName)) hown (mvT hZ (hw _ (List.mem_of_getElem? (i := 51) rfl))) (mvT hZ (hw _ (List.mem_of_getElem? (i := 52) rfl))) (mvT hZ (hw _ (List.mem_of_getElem? (i := 53) rfl))) (mvT hZ (hw _ (List.mem_of_getElem? (i := 54) rfl))) (by decide) (backOf (W := 0) (rmio_2 l Z a0 hw [] va ch fr (2 : Int32) f y0 y1 h0 n0 V_va hfr0 rfl hy0 hy1) hZ (hw _ (List.mem_of_getElem? (i := 54) rfl)) (hw _ (List.mem_of_getElem? (i := 53) rfl)) (by decide) (by decide)) (g := (mkF m 17 #[.val (.ref s0), .val (.int ch), .val (.int fr)] [(.int (2 : Int32)), (.int fr), (.int ch), (.ref va)])) rfl (by rw [hml]; rfl) (argsL := [(.ref va), (.int ch), (.int fr), (.int (2 : Int32))]) (rest := []) (lenOf pd_8 rfl) rfl (by show 2 * 0 + _ ≤ _; exact Nat.le_of_eq rfl) (hb hby d5_17) (fun _ _ => ⟨rfl, eq111, (by decide : 0 + 0 ≤ _), (by decide : 0 + 0 ≤ _)⟩)
  dsimp only [Pt.U, Pt.locs, Pt.cells, Pt.slots] at X112 l112 y112 z112 st112 hQ112
  rw [l112, y112, z112] at X112
  replace X112 : Stand p l e ({ frames := 2, cells := 0, slots := 0, locals := 32 } : Room) s m #[(.ref s0), (.int ch), (.int fr)] below meth c T112 _ 0 0 := X112
  obtain ⟨rfl, Nq112, eq112⟩ := hQ112
  have N112 := Fr.app N111 Nq112
  have k113 : ∀ tg_, Steps p.tables e below (T112.setTop (mkF m 36 #[.val (.ref s0), .val (.int ch), .val (.int fr)] [(.int (own_io_2 ch fr (2 : Int32) y0 y1))])) tg_ → Steps p.tables e below (s₁.setTop (entryFrame m #[(.ref s0), (.int ch), (.int fr)] 3)) tg_ := by
    intro tg_ kt
    refine k0 tg_ ?_
    refine XS.aloadN X0.here hx rfl (hb hby d5_0) rfl rfl ?_
    show Steps p.tables e below (s₁.setTop (mkF m 1 #[.val (.ref s0), .val (.int ch), .val (.int fr)] [(.ref s0)])) _
    refine st109.trans ?_
    show Steps p.tables e below (T109.setTop (mkF m 4 #[.val (.ref s0), .val (.int ch), .val (.int fr)] [(.int (1 : Int32))])) _
    refine XS.ifNo X109.here hx rfl (hb hby d5_4) rfl ((if0 _ _).trans (feq (by decide : ¬ ((1 : Int32) = (0 : Int32)))).1) ?_
    show Steps p.tables e below (T109.setTop (mkF m 7 #[.val (.ref s0), .val (.int ch), .val (.int fr)] [])) _
    refine XS.aloadN X109.here hx rfl (hb hby d5_7) rfl rfl ?_
    show Steps p.tables e below (T109.setTop (mkF m 8 #[.val (.ref s0), .val (.int ch), .val (.int fr)] [(.ref s0)])) _
    refine st110 _ ?_
    show Steps p.tables e below (T110.setTop (mkF m 11 #[.val (.ref s0), .val (.int ch), .val (.int fr)] [(.ref va)])) _
    refine XS.iloadN X110.here hx rfl (hb hby d5_11) rfl ?_
    show Steps p.tables e below (T110.setTop (mkF m 12 #[.val (.ref s0), .val (.int ch), .val (.int fr)] [(.int ch), (.ref va)])) _
    refine XS.iloadN X110.here hx rfl (hb hby d5_12) rfl ?_
    show Steps p.tables e below (T110.setTop (mkF m 13 #[.val (.ref s0), .val (.int ch), .val (.int fr)] [(.int fr), (.int ch), (.ref va)])) _
    refine XS.aloadN X110.here hx rfl (hb hby d5_13) rfl rfl ?_
    show Steps p.tables e below (T110.setTop (mkF m 14 #[.val (.ref s0), .val (.int ch), .val (.int fr)] [(.ref s0), (.int fr), (.int ch), (.ref va)])) _
    refine st111.trans ?_
    show Steps p.tables e below (T111.setTop (mkF m 17 #[.val (.ref s0), .val (.int ch), .val (.int fr)] [(.int (2 : Int32)), (.int fr), (.int ch), (.ref va)])) _
    refine st112 _ ?_
    show Steps p.tables e below (T112.setTop (mkF m 20 #[.val (.ref s0), .val (.int ch), .val (.int fr)] [(.int (own_io_2 ch fr (2 : Int32) y0 y1))])) _
    refine XS.goto X112.here hx rfl (pc0 := 20) (pc' := 36) rfl (hb hby d5_20) (by decide) (by decide) ?_
    show Steps p.tables e below (T112.setTop (mkF m 36 #[.val (.ref s0), .val (.int ch), .val (.int fr)] [(.int (own_io_2 ch fr (2 : Int32) y0 y1))])) _
    exact kt
  obtain ⟨fs, hr, hrun, hended, hW, hsame⟩ := X112.leave (v := some (.int (own_io_2 ch fr (2 : Int32) y0 y1))) (fun h => by rw [Bd.returns] at h; cases h)
  refine ⟨_, _, k113 _ (retI X112 hx Bd.returns (hb hby d5_36) hr), hrun, hended, _, _, rfl, ?_, ⟨_, rfl⟩, hW, hsame.mono (by decide) (by decide)⟩
  show Qii_2 Z s0 ch fr zc va f y0 y1 h0 n0 _ T112.heap _
  rw [eq112]
  exact ⟨(by rw [own_eq_own_ii_2]), N112, rfl⟩
theorem ef_ix_2 (m : MethodId) (x0 : Addr) (x1 : Int32) : entryFrame m #[(.ref x0), (.int x1)] 2 = mkF m 0 #[.val (.ref x0), .val (.int x1)] [] := by first | (simp [entryFrame, mkF, argsToLocals, Value.category]; done) | rfl
def own_ix_2 (ch : Int32) (y0 : Int32) (y1 : Int32) : Int32 := (own_ii_2 ch (0 : Int32) y0 y1)
theorem own_eq_own_ix_2 (ch : Int32) (y0 : Int32) (y1 : Int32) : own_ix_2 ch y0 y1 = (own_ii_2 ch (0 : Int32) y0 y1) := rfl
def Qix_2 (Z : State) (s0 : Addr) (ch : Int32) (zc : Int32) (va : Addr) (f : Nat → Int32) (y0 : Int32) (y1 : Int32) (h0 : Heap) (n0 : Nat) (rv_ : Option Value) (h : Heap) (LL_ : List Loc) : Prop := rv_ = some (.int (own_ix_2 ch y0 y1)) ∧ Fr n0 LL_ ∧ h = h0
set_option maxRecDepth 65536 in
set_option maxHeartbeats 40000000 in
theorem rmix_2 (l : Launch) (Z : State) (a0 : Array Value) (hw : ∀ d ∈ tables_1, d.before a0 Z = true) (ws : List Jvm.Cond) (s0 : Addr) (ch : Int32) (zc : Int32) (va : Addr) (f : Nat → Int32) (y0 : Int32) (y1 : Int32) (h0 : Heap) (n0 : Nat) (E_s0 : Exa Z h0 s0 "java/lang/String") (F_s0_value : Fld Z h0 s0 "java/lang/String" "value" "[B" (.ref va)) (F_s0_coder : Fld Z h0 s0 "java/lang/String" "coder" "B" (.int (0 : Int32))) (V_va : own_AI Z h0 va .byte 2 f) (S_COMPACT_STRINGS : Sta Z h0 "java/lang/String" "COMPACT_STRINGS" "Z" (.int zc)) (hz : ¬ zc = (0 : Int32)) (hy0 : f 0 = y0) (hy1 : f 1 = y1) :
    MetFree l (⟨"java/lang/String", "indexOf", "(I)I"⟩ : MethodName) (head1 (Jvm.Cond.code (⟨"java/lang/String", "indexOf", "(I)I"⟩ : MethodName) jdk_42_method_79_code 2 (some .int) :: ws) ({ frames := 3, cells := 0, slots := 0, locals := 46 } : Room)) (fun aa UU => aa = #[(.ref s0), (.int ch)] ∧ Z.Warmed39 UU.vm ∧ UU.heap = h0) (fun _ _ _ _ _ => True) (fun _ UU oo UV => ∃ vv LL, oo = .returned vv ∧ Qix_2 Z s0 ch zc va f y0 y1 h0 n0 vv UV.heap LL ∧ FrameEnd UU oo UV LL ({ frames := 3, cells := 0, slots := 0, locals := 46 } : Room).cells ({ frames := 3, cells := 0, slots := 0, locals := 46 } : Room).slots) := by
  refine MetFree.of_bodySF (plainFor_of_name pn_4) hisR ?_
  intro p e s m args below meth c s₁ Bd hml0 hP hK
  obtain ⟨rfl, hZ, hh⟩ := hP
  have hx := Bd.exec
  have hby := Bd.bytes
  have hml : c.maxLocals = 2 := hml0
  have hown : s.vm.findClass "java/lang/String" = some m.cls := findClass_of_methodNamed Bd.named
  have hnm := (name_of_methodNamed Bd.named Bd.method).1
  have X0 : Stand p l e ({ frames := 3, cells := 0, slots := 0, locals := 46 } : Room) s m #[(.ref s0), (.int ch)] below meth c s₁ [] 0 0 := Stand.of_body Bd
  have e0 : s₁.heap = h0 := by rw [← hh, Bd.state]; rfl
  have N0 := Fr.nil n0
  have k0 : ∀ tg_, Steps p.tables e below (s₁.setTop (mkF m 0 #[.val (.ref s0), .val (.int ch)] [])) tg_ → Steps p.tables e below (s₁.setTop (entryFrame m #[(.ref s0), (.int ch)] 2)) tg_ := fun tg_ k => castTop (ef_ix_2 m s0 ch) k
  obtain ⟨cq114, kq114, q114a, q114b, q114c⟩ := isOf hZ e0 E_s0
  obtain ⟨_, _, ⟨T114, L114, kc114, nc114⟩, -, X114, ⟨Lc114, hQ114, l114, y114, z114⟩, st114⟩ := X0.virtualBack hx (y := (⟨"java/lang/String", "indexOf", "(II)I"⟩ : MethodName)) (z := (⟨"java/lang/String", "indexOf", "(II)I"⟩ : MethodName)) hown (mvT hZ (hw _ (List.mem_of_getElem? (i := 26) rfl))) (mvT hZ (hw _ (List.mem_of_getElem? (i := 27) rfl))) (notFace_of_selects (args := #[]) (mvT hZ (hw _ (List.mem_of_getElem? (i := 29) rfl)))) (mvT hZ (hw _ (List.mem_of_getElem? (i := 29) rfl))) (mvT hZ (hw _ (List.mem_of_getElem? (i := 28) rfl))) (by decide) (backOf (W := 0) (rmii_2 l Z a0 hw [] s0 ch (0 : Int32) zc va f y0 y1 h0 n0 E_s0 F_s0_value F_s0_coder V_va S_COMPACT_STRINGS hz rfl hy0 hy1) hZ (hw _ (List.mem_of_getElem? (i := 30) rfl)) (hw _ (List.mem_of_getElem? (i := 24) rfl)) (by decide) (by decide)) q114a q114c (g := (mkF m 3 #[.val (.ref s0), .val (.int ch)] [(.int (0 : Int32)), (.int ch), (.ref s0)])) rfl (by rw [hml]; rfl) (Steps.refl _) (argsL := [(.int ch), (.int (0 : Int32))]) (rest := []) (lenOf pd_4 rfl) rfl (by show 2 * 0 + _ ≤ _; exact Nat.le_of_eq rfl) (hb hby d4_3) (fun _ _ => ⟨rfl, e0, (by decide : 0 + 0 ≤ _), (by decide : 0 + 0 ≤ _)⟩)
  dsimp only [Pt.U, Pt.locs, Pt.cells, Pt.slots] at X114 l114 y114 z114 st114 hQ114
  rw [l114, y114, z114] at X114
  replace X114 : Stand p l e ({ frames := 3, cells := 0, slots := 0, locals := 46 } : Room) s m #[(.ref s0), (.int ch)] below meth c T114 _ 0 0 := X114
  obtain ⟨rfl, Nq114, eq114⟩ := hQ114
  have N114 := Fr.app N0 Nq114
  have k115 : ∀ tg_, Steps p.tables e below (T114.setTop (mkF m 6 #[.val (.ref s0), .val (.int ch)] [(.int (own_ii_2 ch (0 : Int32) y0 y1))])) tg_ → Steps p.tables e below (s₁.setTop (entryFrame m #[(.ref s0), (.int ch)] 2)) tg_ := by
    intro tg_ kt
    refine k0 tg_ ?_
    refine XS.aloadN X0.here hx rfl (hb hby d4_0) rfl rfl ?_
    show Steps p.tables e below (s₁.setTop (mkF m 1 #[.val (.ref s0), .val (.int ch)] [(.ref s0)])) _
    refine XS.iloadN X0.here hx rfl (hb hby d4_1) rfl ?_
    show Steps p.tables e below (s₁.setTop (mkF m 2 #[.val (.ref s0), .val (.int ch)] [(.int ch), (.ref s0)])) _
    refine XS.iconst X0.here hx rfl (hb hby d4_2) ?_
    show Steps p.tables e below (s₁.setTop (mkF m 3 #[.val (.ref s0), .val (.int ch)] [(.int (0 : Int32)), (.int ch), (.ref s0)])) _
    refine st114.trans ?_
    show Steps p.tables e below (T114.setTop (mkF m 6 #[.val (.ref s0), .val (.int ch)] [(.int (own_ii_2 ch (0 : Int32) y0 y1))])) _
    exact kt
  obtain ⟨fs, hr, hrun, hended, hW, hsame⟩ := X114.leave (v := some (.int (own_ii_2 ch (0 : Int32) y0 y1))) (fun h => by rw [Bd.returns] at h; cases h)
  refine ⟨_, _, k115 _ (retI X114 hx Bd.returns (hb hby d4_6) hr), hrun, hended, _, _, rfl, ?_, ⟨_, rfl⟩, hW, hsame.mono (by decide) (by decide)⟩
  show Qix_2 Z s0 ch zc va f y0 y1 h0 n0 _ T114.heap _
  rw [eq114]
  exact ⟨(by rw [own_eq_own_ix_2]), N114, rfl⟩
theorem ef_tk_2 (m : MethodId) (x0 : Addr) (x1 : Int32) : entryFrame m #[(.ref x0), (.int x1)] 2 = mkF m 0 #[.val (.ref x0), .val (.int x1)] [] := by first | (simp [entryFrame, mkF, argsToLocals, Value.category]; done) | rfl
def own_tk_2 (ch : Int32) (y0 : Int32) (y1 : Int32) : Int32 := (if ch = (58 : Int32) then (0 : Int32) else (if (own_ix_2 ch y0 y1) < (0 : Int32) then (0 : Int32) else (1 : Int32)))
theorem own_eq_own_tk_2 (ch : Int32) (y0 : Int32) (y1 : Int32) : own_tk_2 ch y0 y1 = (if ch = (58 : Int32) then (0 : Int32) else (if (own_ix_2 ch y0 y1) < (0 : Int32) then (0 : Int32) else (1 : Int32))) := rfl
def Qtk_2 (Z : State) (vb : Addr) (ch : Int32) (zc : Int32) (s0 : Addr) (va : Addr) (f : Nat → Int32) (y0 : Int32) (y1 : Int32) (h0 : Heap) (n0 : Nat) (rv_ : Option Value) (h : Heap) (LL_ : List Loc) : Prop := rv_ = some (.int (own_tk_2 ch y0 y1)) ∧ Fr n0 LL_ ∧ h = h0
set_option maxRecDepth 65536 in
set_option maxHeartbeats 40000000 in
theorem rmtk_2 (l : Launch) (Z : State) (a0 : Array Value) (hw : ∀ d ∈ tables_1, d.before a0 Z = true) (ws : List Jvm.Cond) (vb : Addr) (ch : Int32) (zc : Int32) (s0 : Addr) (va : Addr) (f : Nat → Int32) (y0 : Int32) (y1 : Int32) (h0 : Heap) (n0 : Nat) (E_s0 : Exa Z h0 s0 "java/lang/String") (F_vb_options : Fld Z h0 vb "com/example/grendel/grendel/cli/Verb" "options" "Ljava/lang/String;" (.ref s0)) (F_s0_value : Fld Z h0 s0 "java/lang/String" "value" "[B" (.ref va)) (F_s0_coder : Fld Z h0 s0 "java/lang/String" "coder" "B" (.int (0 : Int32))) (V_va : own_AI Z h0 va .byte 2 f) (S_COMPACT_STRINGS : Sta Z h0 "java/lang/String" "COMPACT_STRINGS" "Z" (.int zc)) (hz : ¬ zc = (0 : Int32)) (hy0 : f 0 = y0) (hy1 : f 1 = y1) :
    MetFree l (⟨"com/example/grendel/grendel/cli/Verb", "takes", "(C)Z"⟩ : MethodName) (head1 (Jvm.Cond.code (⟨"com/example/grendel/grendel/cli/Verb", "takes", "(C)Z"⟩ : MethodName) prog_3_method_7_code 2 (some .boolean) :: ws) ({ frames := 4, cells := 0, slots := 0, locals := 59 } : Room)) (fun aa UU => aa = #[(.ref vb), (.int ch)] ∧ Z.Warmed39 UU.vm ∧ UU.heap = h0) (fun _ _ _ _ _ => True) (fun _ UU oo UV => ∃ vv LL, oo = .returned vv ∧ Qtk_2 Z vb ch zc s0 va f y0 y1 h0 n0 vv UV.heap LL ∧ FrameEnd UU oo UV LL ({ frames := 4, cells := 0, slots := 0, locals := 59 } : Room).cells ({ frames := 4, cells := 0, slots := 0, locals := 59 } : Room).slots) := by
  refine MetFree.of_bodySF (plainFor_of_name pn_3) hisR ?_
  intro p e s m args below meth c s₁ Bd hml0 hP hK
  obtain ⟨rfl, hZ, hh⟩ := hP
  have hx := Bd.exec
  have hby := Bd.bytes
  have hml : c.maxLocals = 2 := hml0
  have hown : s.vm.findClass "com/example/grendel/grendel/cli/Verb" = some m.cls := findClass_of_methodNamed Bd.named
  have hnm := (name_of_methodNamed Bd.named Bd.method).1
  have X0 : Stand p l e ({ frames := 4, cells := 0, slots := 0, locals := 59 } : Room) s m #[(.ref vb), (.int ch)] below meth c s₁ [] 0 0 := Stand.of_body Bd
  have e0 : s₁.heap = h0 := by rw [← hh, Bd.state]; rfl
  have N0 := Fr.nil n0
  have k0 : ∀ tg_, Steps p.tables e below (s₁.setTop (mkF m 0 #[.val (.ref vb), .val (.int ch)] [])) tg_ → Steps p.tables e below (s₁.setTop (entryFrame m #[(.ref vb), (.int ch)] 2)) tg_ := fun tg_ k => castTop (ef_tk_2 m vb ch) k
  have k116 : ∀ tg_, Steps p.tables e below (s₁.setTop (mkF m 3 #[.val (.ref vb), .val (.int ch)] [(.int (58 : Int32)), (.int ch)])) tg_ → Steps p.tables e below (s₁.setTop (entryFrame m #[(.ref vb), (.int ch)] 2)) tg_ := by
    intro tg_ kt
    refine k0 tg_ ?_
    refine XS.iloadN X0.here hx rfl (hb hby d3_0) rfl ?_
    show Steps p.tables e below (s₁.setTop (mkF m 1 #[.val (.ref vb), .val (.int ch)] [(.int ch)])) _
    refine XS.bipush X0.here hx rfl (hb hby d3_1) ?_
    show Steps p.tables e below (s₁.setTop (mkF m 3 #[.val (.ref vb), .val (.int ch)] [(.int (58 : Int32)), (.int ch)])) _
    exact kt
  by_cases hc3_117 : ch = (58 : Int32)
  · have k118 : ∀ tg_, Steps p.tables e below (s₁.setTop (mkF m 22 #[.val (.ref vb), .val (.int ch)] [(.int (0 : Int32))])) tg_ → Steps p.tables e below (s₁.setTop (entryFrame m #[(.ref vb), (.int ch)] 2)) tg_ := by
      intro tg_ kt
      refine k116 tg_ ?_
      refine XS.icmpYes X0.here hx rfl (pc0 := 3) (pc' := 21) rfl (hb hby d3_3) rfl (teq hc3_117).1 (by decide) (by decide) ?_
      show Steps p.tables e below (s₁.setTop (mkF m 21 #[.val (.ref vb), .val (.int ch)] [])) _
      refine XS.iconst X0.here hx rfl (hb hby d3_21) ?_
      show Steps p.tables e below (s₁.setTop (mkF m 22 #[.val (.ref vb), .val (.int ch)] [(.int (0 : Int32))])) _
      exact kt
    obtain ⟨fs, hr, hrun, hended, hW, hsame⟩ := X0.leave (v := some (.int (0 : Int32))) (fun h => by rw [Bd.returns] at h; cases h)
    refine ⟨_, _, k118 _ (retN X0 hx (t := .boolean) Bd.returns (by simp) (hb hby d3_22) hr), hrun, hended, _, _, rfl, ?_, ⟨_, rfl⟩, hW, hsame.mono (by decide) (by decide)⟩
    show Qtk_2 Z vb ch zc s0 va f y0 y1 h0 n0 _ s₁.heap _
    rw [e0]
    exact ⟨(by rw [own_eq_own_tk_2]; rw [if_pos hc3_117]), N0, rfl⟩
  · obtain ⟨T119, X119, e119, st119⟩ := getF X0 hx hZ hown (host := "") (Or.inl (hw _ (List.mem_of_getElem? (i := 18) rfl))) Via.refl e0 F_vb_options (g := (mkF m 7 #[.val (.ref vb), .val (.int ch)] [(.ref vb)])) rfl rfl (hb hby d3_7)
    obtain ⟨cq120, kq120, q120a, q120b, q120c⟩ := isOf hZ e119 E_s0
    obtain ⟨_, _, ⟨T120, L120, kc120, nc120⟩, -, X120, ⟨Lc120, hQ120, l120, y120, z120⟩, st120⟩ := X119.virtualBack hx (y := (⟨"java/lang/String", "indexOf", "(I)I"⟩ : MethodName)) (z := (⟨"java/lang/String", "indexOf", "(I)I"⟩ : MethodName)) hown (mvT hZ (hw _ (List.mem_of_getElem? (i := 20) rfl))) (mvT hZ (hw _ (List.mem_of_getElem? (i := 21) rfl))) (notFace_of_selects (args := #[]) (mvT hZ (hw _ (List.mem_of_getElem? (i := 23) rfl)))) (mvT hZ (hw _ (List.mem_of_getElem? (i := 23) rfl))) (mvT hZ (hw _ (List.mem_of_getElem? (i := 22) rfl))) (by decide) (backOf (W := 0) (rmix_2 l Z a0 hw [] s0 ch zc va f y0 y1 h0 n0 E_s0 F_s0_value F_s0_coder V_va S_COMPACT_STRINGS hz hy0 hy1) hZ (hw _ (List.mem_of_getElem? (i := 25) rfl)) (hw _ (List.mem_of_getElem? (i := 24) rfl)) (by decide) (by decide)) q120a q120c (g := (mkF m 11 #[.val (.ref vb), .val (.int ch)] [(.int ch), (.ref s0)])) rfl (by rw [hml]; rfl) (Steps.refl _) (argsL := [(.int ch)]) (rest := []) (lenOf pd_3 rfl) rfl (by show 2 * 0 + _ ≤ _; exact Nat.le_of_eq rfl) (hb hby d3_11) (fun _ _ => ⟨rfl, e119, (by decide : 0 + 0 ≤ _), (by decide : 0 + 0 ≤ _)⟩)
    dsimp only [Pt.U, Pt.locs, Pt.cells, Pt.slots] at X120 l120 y120 z120 st120 hQ120
    rw [l120, y120, z120] at X120
    replace X120 : Stand p l e ({ frames := 4, cells := 0, slots := 0, locals := 59 } : Room) s m #[(.ref vb), (.int ch)] below meth c T120 _ 0 0 := X120
    obtain ⟨rfl, Nq120, eq120⟩ := hQ120
    have N120 := Fr.app N0 Nq120
    have k121 : ∀ tg_, Steps p.tables e below (T120.setTop (mkF m 14 #[.val (.ref vb), .val (.int ch)] [(.int (own_ix_2 ch y0 y1))])) tg_ → Steps p.tables e below (s₁.setTop (entryFrame m #[(.ref vb), (.int ch)] 2)) tg_ := by
      intro tg_ kt
      refine k116 tg_ ?_
      refine XS.icmpNo X0.here hx rfl (hb hby d3_3) rfl (feq hc3_117).1 ?_
      show Steps p.tables e below (s₁.setTop (mkF m 6 #[.val (.ref vb), .val (.int ch)] [])) _
      refine XS.aloadN X0.here hx rfl (hb hby d3_6) rfl rfl ?_
      show Steps p.tables e below (s₁.setTop (mkF m 7 #[.val (.ref vb), .val (.int ch)] [(.ref vb)])) _
      refine st119 _ ?_
      show Steps p.tables e below (T119.setTop (mkF m 10 #[.val (.ref vb), .val (.int ch)] [(.ref s0)])) _
      refine XS.iloadN X119.here hx rfl (hb hby d3_10) rfl ?_
      show Steps p.tables e below (T119.setTop (mkF m 11 #[.val (.ref vb), .val (.int ch)] [(.int ch), (.ref s0)])) _
      refine st120.trans ?_
      show Steps p.tables e below (T120.setTop (mkF m 14 #[.val (.ref vb), .val (.int ch)] [(.int (own_ix_2 ch y0 y1))])) _
      exact kt
    by_cases hc14_122 : (own_ix_2 ch y0 y1) < (0 : Int32)
    · have k123 : ∀ tg_, Steps p.tables e below (T120.setTop (mkF m 22 #[.val (.ref vb), .val (.int ch)] [(.int (0 : Int32))])) tg_ → Steps p.tables e below (s₁.setTop (entryFrame m #[(.ref vb), (.int ch)] 2)) tg_ := by
        intro tg_ kt
        refine k121 tg_ ?_
        refine XS.ifYes X120.here hx rfl (pc0 := 14) (pc' := 21) rfl (hb hby d3_14) rfl ((if0 _ _).trans (tlt hc14_122).1) (by decide) (by decide) ?_
        show Steps p.tables e below (T120.setTop (mkF m 21 #[.val (.ref vb), .val (.int ch)] [])) _
        refine XS.iconst X120.here hx rfl (hb hby d3_21) ?_
        show Steps p.tables e below (T120.setTop (mkF m 22 #[.val (.ref vb), .val (.int ch)] [(.int (0 : Int32))])) _
        exact kt
      obtain ⟨fs, hr, hrun, hended, hW, hsame⟩ := X120.leave (v := some (.int (0 : Int32))) (fun h => by rw [Bd.returns] at h; cases h)
      refine ⟨_, _, k123 _ (retN X120 hx (t := .boolean) Bd.returns (by simp) (hb hby d3_22) hr), hrun, hended, _, _, rfl, ?_, ⟨_, rfl⟩, hW, hsame.mono (by decide) (by decide)⟩
      show Qtk_2 Z vb ch zc s0 va f y0 y1 h0 n0 _ T120.heap _
      rw [eq120]
      exact ⟨(by rw [own_eq_own_tk_2]; rw [if_neg hc3_117, if_pos hc14_122]), N120, rfl⟩
    · have k124 : ∀ tg_, Steps p.tables e below (T120.setTop (mkF m 22 #[.val (.ref vb), .val (.int ch)] [(.int (1 : Int32))])) tg_ → Steps p.tables e below (s₁.setTop (entryFrame m #[(.ref vb), (.int ch)] 2)) tg_ := by
        intro tg_ kt
        refine k121 tg_ ?_
        refine XS.ifNo X120.here hx rfl (hb hby d3_14) rfl ((if0 _ _).trans (flt hc14_122).1) ?_
        show Steps p.tables e below (T120.setTop (mkF m 17 #[.val (.ref vb), .val (.int ch)] [])) _
        refine XS.iconst X120.here hx rfl (hb hby d3_17) ?_
        show Steps p.tables e below (T120.setTop (mkF m 18 #[.val (.ref vb), .val (.int ch)] [(.int (1 : Int32))])) _
        refine XS.goto X120.here hx rfl (pc0 := 18) (pc' := 22) rfl (hb hby d3_18) (by decide) (by decide) ?_
        show Steps p.tables e below (T120.setTop (mkF m 22 #[.val (.ref vb), .val (.int ch)] [(.int (1 : Int32))])) _
        exact kt
      obtain ⟨fs, hr, hrun, hended, hW, hsame⟩ := X120.leave (v := some (.int (1 : Int32))) (fun h => by rw [Bd.returns] at h; cases h)
      refine ⟨_, _, k124 _ (retN X120 hx (t := .boolean) Bd.returns (by simp) (hb hby d3_22) hr), hrun, hended, _, _, rfl, ?_, ⟨_, rfl⟩, hW, hsame.mono (by decide) (by decide)⟩
      show Qtk_2 Z vb ch zc s0 va f y0 y1 h0 n0 _ T120.heap _
      rw [eq120]
      exact ⟨(by rw [own_eq_own_tk_2]; rw [if_neg hc3_117, if_neg hc14_122]), N120, rfl⟩
theorem d2_0 : decode method_4_code 0 = .ok (.iload_n 0, 1) := by decide +kernel
theorem d2_1 : decode method_4_code 1 = .ok (.ifCond .eq 8, 3) := by decide +kernel
theorem d2_4 : decode method_4_code 4 = .ok (.iload_n 0, 1) := by decide +kernel
theorem d2_5 : decode method_4_code 5 = .ok (.iconst 2, 1) := by decide +kernel
theorem d2_6 : decode method_4_code 6 = .ok (.if_icmp .ne 15, 3) := by decide +kernel
theorem d2_9 : decode method_4_code 9 = .ok (.iload_n 1, 1) := by decide +kernel
theorem d2_10 : decode method_4_code 10 = .ok (.bipush 115, 2) := by decide +kernel
theorem d2_12 : decode method_4_code 12 = .ok (.if_icmp .ne 7, 3) := by decide +kernel
theorem d2_15 : decode method_4_code 15 = .ok (.iconst 1, 1) := by decide +kernel
theorem d2_16 : decode method_4_code 16 = .ok (.goto 4, 3) := by decide +kernel
theorem d2_19 : decode method_4_code 19 = .ok (.iconst 0, 1) := by decide +kernel
theorem d2_20 : decode method_4_code 20 = .ok (.ireturn, 1) := by decide +kernel
theorem d2_21 : decode method_4_code 21 = .ok (.iload_n 0, 1) := by decide +kernel
theorem d2_22 : decode method_4_code 22 = .ok (.iconst 1, 1) := by decide +kernel
theorem d2_23 : decode method_4_code 23 = .ok (.if_icmp .ne 21, 3) := by decide +kernel
theorem d2_26 : decode method_4_code 26 = .ok (.iload_n 1, 1) := by decide +kernel
theorem d2_27 : decode method_4_code 27 = .ok (.bipush 115, 2) := by decide +kernel
theorem d2_29 : decode method_4_code 29 = .ok (.if_icmp .eq 9, 3) := by decide +kernel
theorem d2_32 : decode method_4_code 32 = .ok (.iload_n 1, 1) := by decide +kernel
theorem d2_33 : decode method_4_code 33 = .ok (.bipush 101, 2) := by decide +kernel
theorem d2_35 : decode method_4_code 35 = .ok (.if_icmp .ne 7, 3) := by decide +kernel
theorem d2_38 : decode method_4_code 38 = .ok (.iconst 1, 1) := by decide +kernel
theorem d2_39 : decode method_4_code 39 = .ok (.goto 4, 3) := by decide +kernel
theorem d2_42 : decode method_4_code 42 = .ok (.iconst 0, 1) := by decide +kernel
theorem d2_43 : decode method_4_code 43 = .ok (.ireturn, 1) := by decide +kernel
theorem d2_44 : decode method_4_code 44 = .ok (.iload_n 0, 1) := by decide +kernel
theorem d2_45 : decode method_4_code 45 = .ok (.iconst 5, 1) := by decide +kernel
theorem d2_46 : decode method_4_code 46 = .ok (.if_icmp .ne 15, 3) := by decide +kernel
theorem d2_49 : decode method_4_code 49 = .ok (.iload_n 1, 1) := by decide +kernel
theorem d2_50 : decode method_4_code 50 = .ok (.bipush 118, 2) := by decide +kernel
theorem d2_52 : decode method_4_code 52 = .ok (.if_icmp .ne 7, 3) := by decide +kernel
theorem d2_55 : decode method_4_code 55 = .ok (.iconst 1, 1) := by decide +kernel
theorem d2_56 : decode method_4_code 56 = .ok (.goto 4, 3) := by decide +kernel
theorem d2_59 : decode method_4_code 59 = .ok (.iconst 0, 1) := by decide +kernel
theorem d2_60 : decode method_4_code 60 = .ok (.ireturn, 1) := by decide +kernel
theorem d2_61 : decode method_4_code 61 = .ok (.iconst 0, 1) := by decide +kernel
theorem d2_62 : decode method_4_code 62 = .ok (.ireturn, 1) := by decide +kernel
theorem pn_2 : plainName "com/example/grendel/grendel/cli/VerbTakesPinLaw" = true := by first | (simp [plainName, overriddenIn]; done) | decide +kernel
theorem ef_2 (m : MethodId) (x0 : Int32) (x1 : Int32) : entryFrame m #[(.int x0), (.int x1)] 2 = mkF m 0 #[.val (.int x0), .val (.int x1)] [] := by first | (simp [entryFrame, mkF, argsToLocals, Value.category]; done) | rfl
def own_exp (kk : Int32) (ch : Int32) : Int32 := (if kk = (0 : Int32) then (if ch = (115 : Int32) then (1 : Int32) else (0 : Int32)) else (if kk = (2 : Int32) then (if ch = (115 : Int32) then (1 : Int32) else (0 : Int32)) else (if kk = (1 : Int32) then (if ch = (115 : Int32) then (1 : Int32) else (if ch = (101 : Int32) then (1 : Int32) else (0 : Int32))) else (if kk = (5 : Int32) then (if ch = (118 : Int32) then (1 : Int32) else (0 : Int32)) else (0 : Int32)))))
theorem own_eq_own_exp (kk : Int32) (ch : Int32) : own_exp kk ch = (if kk = (0 : Int32) then (if ch = (115 : Int32) then (1 : Int32) else (0 : Int32)) else (if kk = (2 : Int32) then (if ch = (115 : Int32) then (1 : Int32) else (0 : Int32)) else (if kk = (1 : Int32) then (if ch = (115 : Int32) then (1 : Int32) else (if ch = (101 : Int32) then (1 : Int32) else (0 : Int32))) else (if kk = (5 : Int32) then (if ch = (118 : Int32) then (1 : Int32) else (0 : Int32)) else (0 : Int32))))) := rfl
def Q2 (Z : State) (kk : Int32) (ch : Int32) (h0 : Heap) (n0 : Nat) (rv_ : Option Value) (h : Heap) (LL_ : List Loc) : Prop := rv_ = some (.int (own_exp kk ch)) ∧ Fr n0 LL_ ∧ h = h0
set_option maxRecDepth 65536 in
set_option maxHeartbeats 40000000 in
theorem rm2 (l : Launch) (Z : State) (a0 : Array Value) (hw : ∀ d ∈ tables_1, d.before a0 Z = true) (ws : List Jvm.Cond) (kk : Int32) (ch : Int32) (h0 : Heap) (n0 : Nat) :
    MetFree l (⟨"com/example/grendel/grendel/cli/VerbTakesPinLaw", "expect", "(IC)Z"⟩ : MethodName) (head1 (Jvm.Cond.code (⟨"com/example/grendel/grendel/cli/VerbTakesPinLaw", "expect", "(IC)Z"⟩ : MethodName) method_4_code 2 (some .boolean) :: ws) ({ frames := 0, cells := 0, slots := 0, locals := 0 } : Room)) (fun aa UU => aa = #[(.int kk), (.int ch)] ∧ Z.Warmed39 UU.vm ∧ UU.heap = h0) (fun _ _ _ _ _ => True) (fun _ UU oo UV => ∃ vv LL, oo = .returned vv ∧ Q2 Z kk ch h0 n0 vv UV.heap LL ∧ FrameEnd UU oo UV LL ({ frames := 0, cells := 0, slots := 0, locals := 0 } : Room).cells ({ frames := 0, cells := 0, slots := 0, locals := 0 } : Room).slots) := by
  refine MetFree.of_bodySF (plainFor_of_name pn_2) hisR ?_
  intro p e s m args below meth c s₁ Bd hml0 hP hK
  obtain ⟨rfl, hZ, hh⟩ := hP
  have hx := Bd.exec
  have hby := Bd.bytes
  have hml : c.maxLocals = 2 := hml0
  have hown : s.vm.findClass "com/example/grendel/grendel/cli/VerbTakesPinLaw" = some m.cls := findClass_of_methodNamed Bd.named
  have hnm := (name_of_methodNamed Bd.named Bd.method).1
  have X0 : Stand p l e ({ frames := 0, cells := 0, slots := 0, locals := 0 } : Room) s m #[(.int kk), (.int ch)] below meth c s₁ [] 0 0 := Stand.of_body Bd
  have e0 : s₁.heap = h0 := by rw [← hh, Bd.state]; rfl
  have N0 := Fr.nil n0
  have k0 : ∀ tg_, Steps p.tables e below (s₁.setTop (mkF m 0 #[.val (.int kk), .val (.int ch)] [])) tg_ → Steps p.tables e below (s₁.setTop (entryFrame m #[(.int kk), (.int ch)] 2)) tg_ := fun tg_ k => castTop (ef_2 m kk ch) k
  have k125 : ∀ tg_, Steps p.tables e below (s₁.setTop (mkF m 1 #[.val (.int kk), .val (.int ch)] [(.int kk)])) tg_ → Steps p.tables e below (s₁.setTop (entryFrame m #[(.int kk), (.int ch)] 2)) tg_ := by
    intro tg_ kt
    refine k0 tg_ ?_
    refine XS.iloadN X0.here hx rfl (hb hby d2_0) rfl ?_
    show Steps p.tables e below (s₁.setTop (mkF m 1 #[.val (.int kk), .val (.int ch)] [(.int kk)])) _
    exact kt
  by_cases hc1_126 : kk = (0 : Int32)
  · have k127 : ∀ tg_, Steps p.tables e below (s₁.setTop (mkF m 12 #[.val (.int kk), .val (.int ch)] [(.int (115 : Int32)), (.int ch)])) tg_ → Steps p.tables e below (s₁.setTop (entryFrame m #[(.int kk), (.int ch)] 2)) tg_ := by
      intro tg_ kt
      refine k125 tg_ ?_
      refine XS.ifYes X0.here hx rfl (pc0 := 1) (pc' := 9) rfl (hb hby d2_1) rfl ((if0 _ _).trans (teq hc1_126).1) (by decide) (by decide) ?_
      show Steps p.tables e below (s₁.setTop (mkF m 9 #[.val (.int kk), .val (.int ch)] [])) _
      refine XS.iloadN X0.here hx rfl (hb hby d2_9) rfl ?_
      show Steps p.tables e below (s₁.setTop (mkF m 10 #[.val (.int kk), .val (.int ch)] [(.int ch)])) _
      refine XS.bipush X0.here hx rfl (hb hby d2_10) ?_
      show Steps p.tables e below (s₁.setTop (mkF m 12 #[.val (.int kk), .val (.int ch)] [(.int (115 : Int32)), (.int ch)])) _
      exact kt
    by_cases hc12_128 : ch = (115 : Int32)
    · have k129 : ∀ tg_, Steps p.tables e below (s₁.setTop (mkF m 20 #[.val (.int kk), .val (.int ch)] [(.int (1 : Int32))])) tg_ → Steps p.tables e below (s₁.setTop (entryFrame m #[(.int kk), (.int ch)] 2)) tg_ := by
        intro tg_ kt
        refine k127 tg_ ?_
        refine XS.icmpNo X0.here hx rfl (hb hby d2_12) rfl (teq hc12_128).2 ?_
        show Steps p.tables e below (s₁.setTop (mkF m 15 #[.val (.int kk), .val (.int ch)] [])) _
        refine XS.iconst X0.here hx rfl (hb hby d2_15) ?_
        show Steps p.tables e below (s₁.setTop (mkF m 16 #[.val (.int kk), .val (.int ch)] [(.int (1 : Int32))])) _
        refine XS.goto X0.here hx rfl (pc0 := 16) (pc' := 20) rfl (hb hby d2_16) (by decide) (by decide) ?_
        show Steps p.tables e below (s₁.setTop (mkF m 20 #[.val (.int kk), .val (.int ch)] [(.int (1 : Int32))])) _
        exact kt
      obtain ⟨fs, hr, hrun, hended, hW, hsame⟩ := X0.leave (v := some (.int (1 : Int32))) (fun h => by rw [Bd.returns] at h; cases h)
      refine ⟨_, _, k129 _ (retN X0 hx (t := .boolean) Bd.returns (by simp) (hb hby d2_20) hr), hrun, hended, _, _, rfl, ?_, ⟨_, rfl⟩, hW, hsame.mono (by decide) (by decide)⟩
      show Q2 Z kk ch h0 n0 _ s₁.heap _
      rw [e0]
      exact ⟨(by rw [own_eq_own_exp]; rw [if_pos hc1_126, if_pos hc12_128]), N0, rfl⟩
    · have k130 : ∀ tg_, Steps p.tables e below (s₁.setTop (mkF m 20 #[.val (.int kk), .val (.int ch)] [(.int (0 : Int32))])) tg_ → Steps p.tables e below (s₁.setTop (entryFrame m #[(.int kk), (.int ch)] 2)) tg_ := by
        intro tg_ kt
        refine k127 tg_ ?_
        refine XS.icmpYes X0.here hx rfl (pc0 := 12) (pc' := 19) rfl (hb hby d2_12) rfl (feq hc12_128).2 (by decide) (by decide) ?_
        show Steps p.tables e below (s₁.setTop (mkF m 19 #[.val (.int kk), .val (.int ch)] [])) _
        refine XS.iconst X0.here hx rfl (hb hby d2_19) ?_
        show Steps p.tables e below (s₁.setTop (mkF m 20 #[.val (.int kk), .val (.int ch)] [(.int (0 : Int32))])) _
        exact kt
      obtain ⟨fs, hr, hrun, hended, hW, hsame⟩ := X0.leave (v := some (.int (0 : Int32))) (fun h => by rw [Bd.returns] at h; cases h)
      refine ⟨_, _, k130 _ (retN X0 hx (t := .boolean) Bd.returns (by simp) (hb hby d2_20) hr), hrun, hended, _, _, rfl, ?_, ⟨_, rfl⟩, hW, hsame.mono (by decide) (by decide)⟩
      show Q2 Z kk ch h0 n0 _ s₁.heap _
      rw [e0]
      exact ⟨(by rw [own_eq_own_exp]; rw [if_pos hc1_126, if_neg hc12_128]), N0, rfl⟩
  · have k131 : ∀ tg_, Steps p.tables e below (s₁.setTop (mkF m 6 #[.val (.int kk), .val (.int ch)] [(.int (2 : Int32)), (.int kk)])) tg_ → Steps p.tables e below (s₁.setTop (entryFrame m #[(.int kk), (.int ch)] 2)) tg_ := by
      intro tg_ kt
      refine k125 tg_ ?_
      refine XS.ifNo X0.here hx rfl (hb hby d2_1) rfl ((if0 _ _).trans (feq hc1_126).1) ?_
      show Steps p.tables e below (s₁.setTop (mkF m 4 #[.val (.int kk), .val (.int ch)] [])) _
      refine XS.iloadN X0.here hx rfl (hb hby d2_4) rfl ?_
      show Steps p.tables e below (s₁.setTop (mkF m 5 #[.val (.int kk), .val (.int ch)] [(.int kk)])) _
      refine XS.iconst X0.here hx rfl (hb hby d2_5) ?_
      show Steps p.tables e below (s₁.setTop (mkF m 6 #[.val (.int kk), .val (.int ch)] [(.int (2 : Int32)), (.int kk)])) _
      exact kt
    by_cases hc6_132 : kk = (2 : Int32)
    · have k133 : ∀ tg_, Steps p.tables e below (s₁.setTop (mkF m 12 #[.val (.int kk), .val (.int ch)] [(.int (115 : Int32)), (.int ch)])) tg_ → Steps p.tables e below (s₁.setTop (entryFrame m #[(.int kk), (.int ch)] 2)) tg_ := by
        intro tg_ kt
        refine k131 tg_ ?_
        refine XS.icmpNo X0.here hx rfl (hb hby d2_6) rfl (teq hc6_132).2 ?_
        show Steps p.tables e below (s₁.setTop (mkF m 9 #[.val (.int kk), .val (.int ch)] [])) _
        refine XS.iloadN X0.here hx rfl (hb hby d2_9) rfl ?_
        show Steps p.tables e below (s₁.setTop (mkF m 10 #[.val (.int kk), .val (.int ch)] [(.int ch)])) _
        refine XS.bipush X0.here hx rfl (hb hby d2_10) ?_
        show Steps p.tables e below (s₁.setTop (mkF m 12 #[.val (.int kk), .val (.int ch)] [(.int (115 : Int32)), (.int ch)])) _
        exact kt
      by_cases hc12_134 : ch = (115 : Int32)
      · have k135 : ∀ tg_, Steps p.tables e below (s₁.setTop (mkF m 20 #[.val (.int kk), .val (.int ch)] [(.int (1 : Int32))])) tg_ → Steps p.tables e below (s₁.setTop (entryFrame m #[(.int kk), (.int ch)] 2)) tg_ := by
          intro tg_ kt
          refine k133 tg_ ?_
          refine XS.icmpNo X0.here hx rfl (hb hby d2_12) rfl (teq hc12_134).2 ?_
          show Steps p.tables e below (s₁.setTop (mkF m 15 #[.val (.int kk), .val (.int ch)] [])) _
          refine XS.iconst X0.here hx rfl (hb hby d2_15) ?_
          show Steps p.tables e below (s₁.setTop (mkF m 16 #[.val (.int kk), .val (.int ch)] [(.int (1 : Int32))])) _
          refine XS.goto X0.here hx rfl (pc0 := 16) (pc' := 20) rfl (hb hby d2_16) (by decide) (by decide) ?_
          show Steps p.tables e below (s₁.setTop (mkF m 20 #[.val (.int kk), .val (.int ch)] [(.int (1 : Int32))])) _
          exact kt
        obtain ⟨fs, hr, hrun, hended, hW, hsame⟩ := X0.leave (v := some (.int (1 : Int32))) (fun h => by rw [Bd.returns] at h; cases h)
        refine ⟨_, _, k135 _ (retN X0 hx (t := .boolean) Bd.returns (by simp) (hb hby d2_20) hr), hrun, hended, _, _, rfl, ?_, ⟨_, rfl⟩, hW, hsame.mono (by decide) (by decide)⟩
        show Q2 Z kk ch h0 n0 _ s₁.heap _
        rw [e0]
        exact ⟨(by rw [own_eq_own_exp]; rw [if_neg hc1_126, if_pos hc6_132, if_pos hc12_134]), N0, rfl⟩
      · have k136 : ∀ tg_, Steps p.tables e below (s₁.setTop (mkF m 20 #[.val (.int kk), .val (.int ch)] [(.int (0 : Int32))])) tg_ → Steps p.tables e below (s₁.setTop (entryFrame m #[(.int kk), (.int ch)] 2)) tg_ := by
          intro tg_ kt
          refine k133 tg_ ?_
          refine XS.icmpYes X0.here hx rfl (pc0 := 12) (pc' := 19) rfl (hb hby d2_12) rfl (feq hc12_134).2 (by decide) (by decide) ?_
          show Steps p.tables e below (s₁.setTop (mkF m 19 #[.val (.int kk), .val (.int ch)] [])) _
          refine XS.iconst X0.here hx rfl (hb hby d2_19) ?_
          show Steps p.tables e below (s₁.setTop (mkF m 20 #[.val (.int kk), .val (.int ch)] [(.int (0 : Int32))])) _
          exact kt
        obtain ⟨fs, hr, hrun, hended, hW, hsame⟩ := X0.leave (v := some (.int (0 : Int32))) (fun h => by rw [Bd.returns] at h; cases h)
        refine ⟨_, _, k136 _ (retN X0 hx (t := .boolean) Bd.returns (by simp) (hb hby d2_20) hr), hrun, hended, _, _, rfl, ?_, ⟨_, rfl⟩, hW, hsame.mono (by decide) (by decide)⟩
        show Q2 Z kk ch h0 n0 _ s₁.heap _
        rw [e0]
        exact ⟨(by rw [own_eq_own_exp]; rw [if_neg hc1_126, if_pos hc6_132, if_neg hc12_134]), N0, rfl⟩
    · have k137 : ∀ tg_, Steps p.tables e below (s₁.setTop (mkF m 23 #[.val (.int kk), .val (.int ch)] [(.int (1 : Int32)), (.int kk)])) tg_ → Steps p.tables e below (s₁.setTop (entryFrame m #[(.int kk), (.int ch)] 2)) tg_ := by
        intro tg_ kt
        refine k131 tg_ ?_
        refine XS.icmpYes X0.here hx rfl (pc0 := 6) (pc' := 21) rfl (hb hby d2_6) rfl (feq hc6_132).2 (by decide) (by decide) ?_
        show Steps p.tables e below (s₁.setTop (mkF m 21 #[.val (.int kk), .val (.int ch)] [])) _
        refine XS.iloadN X0.here hx rfl (hb hby d2_21) rfl ?_
        show Steps p.tables e below (s₁.setTop (mkF m 22 #[.val (.int kk), .val (.int ch)] [(.int kk)])) _
        refine XS.iconst X0.here hx rfl (hb hby d2_22) ?_
        show Steps p.tables e below (s₁.setTop (mkF m 23 #[.val (.int kk), .val (.int ch)] [(.int (1 : Int32)), (.int kk)])) _
        exact kt
      by_cases hc23_138 : kk = (1 : Int32)
      · have k139 : ∀ tg_, Steps p.tables e below (s₁.setTop (mkF m 29 #[.val (.int kk), .val (.int ch)] [(.int (115 : Int32)), (.int ch)])) tg_ → Steps p.tables e below (s₁.setTop (entryFrame m #[(.int kk), (.int ch)] 2)) tg_ := by
          intro tg_ kt
          refine k137 tg_ ?_
          refine XS.icmpNo X0.here hx rfl (hb hby d2_23) rfl (teq hc23_138).2 ?_
          show Steps p.tables e below (s₁.setTop (mkF m 26 #[.val (.int kk), .val (.int ch)] [])) _
          refine XS.iloadN X0.here hx rfl (hb hby d2_26) rfl ?_
          show Steps p.tables e below (s₁.setTop (mkF m 27 #[.val (.int kk), .val (.int ch)] [(.int ch)])) _
          refine XS.bipush X0.here hx rfl (hb hby d2_27) ?_
          show Steps p.tables e below (s₁.setTop (mkF m 29 #[.val (.int kk), .val (.int ch)] [(.int (115 : Int32)), (.int ch)])) _
          exact kt
        by_cases hc29_140 : ch = (115 : Int32)
        · have k141 : ∀ tg_, Steps p.tables e below (s₁.setTop (mkF m 43 #[.val (.int kk), .val (.int ch)] [(.int (1 : Int32))])) tg_ → Steps p.tables e below (s₁.setTop (entryFrame m #[(.int kk), (.int ch)] 2)) tg_ := by
            intro tg_ kt
            refine k139 tg_ ?_
            refine XS.icmpYes X0.here hx rfl (pc0 := 29) (pc' := 38) rfl (hb hby d2_29) rfl (teq hc29_140).1 (by decide) (by decide) ?_
            show Steps p.tables e below (s₁.setTop (mkF m 38 #[.val (.int kk), .val (.int ch)] [])) _
            refine XS.iconst X0.here hx rfl (hb hby d2_38) ?_
            show Steps p.tables e below (s₁.setTop (mkF m 39 #[.val (.int kk), .val (.int ch)] [(.int (1 : Int32))])) _
            refine XS.goto X0.here hx rfl (pc0 := 39) (pc' := 43) rfl (hb hby d2_39) (by decide) (by decide) ?_
            show Steps p.tables e below (s₁.setTop (mkF m 43 #[.val (.int kk), .val (.int ch)] [(.int (1 : Int32))])) _
            exact kt
          obtain ⟨fs, hr, hrun, hended, hW, hsame⟩ := X0.leave (v := some (.int (1 : Int32))) (fun h => by rw [Bd.returns] at h; cases h)
          refine ⟨_, _, k141 _ (retN X0 hx (t := .boolean) Bd.returns (by simp) (hb hby d2_43) hr), hrun, hended, _, _, rfl, ?_, ⟨_, rfl⟩, hW, hsame.mono (by decide) (by decide)⟩
          show Q2 Z kk ch h0 n0 _ s₁.heap _
          rw [e0]
          exact ⟨(by rw [own_eq_own_exp]; rw [if_neg hc1_126, if_neg hc6_132, if_pos hc23_138, if_pos hc29_140]), N0, rfl⟩
        · have k142 : ∀ tg_, Steps p.tables e below (s₁.setTop (mkF m 35 #[.val (.int kk), .val (.int ch)] [(.int (101 : Int32)), (.int ch)])) tg_ → Steps p.tables e below (s₁.setTop (entryFrame m #[(.int kk), (.int ch)] 2)) tg_ := by
            intro tg_ kt
            refine k139 tg_ ?_
            refine XS.icmpNo X0.here hx rfl (hb hby d2_29) rfl (feq hc29_140).1 ?_
            show Steps p.tables e below (s₁.setTop (mkF m 32 #[.val (.int kk), .val (.int ch)] [])) _
            refine XS.iloadN X0.here hx rfl (hb hby d2_32) rfl ?_
            show Steps p.tables e below (s₁.setTop (mkF m 33 #[.val (.int kk), .val (.int ch)] [(.int ch)])) _
            refine XS.bipush X0.here hx rfl (hb hby d2_33) ?_
            show Steps p.tables e below (s₁.setTop (mkF m 35 #[.val (.int kk), .val (.int ch)] [(.int (101 : Int32)), (.int ch)])) _
            exact kt
          by_cases hc35_143 : ch = (101 : Int32)
          · have k144 : ∀ tg_, Steps p.tables e below (s₁.setTop (mkF m 43 #[.val (.int kk), .val (.int ch)] [(.int (1 : Int32))])) tg_ → Steps p.tables e below (s₁.setTop (entryFrame m #[(.int kk), (.int ch)] 2)) tg_ := by
              intro tg_ kt
              refine k142 tg_ ?_
              refine XS.icmpNo X0.here hx rfl (hb hby d2_35) rfl (teq hc35_143).2 ?_
              show Steps p.tables e below (s₁.setTop (mkF m 38 #[.val (.int kk), .val (.int ch)] [])) _
              refine XS.iconst X0.here hx rfl (hb hby d2_38) ?_
              show Steps p.tables e below (s₁.setTop (mkF m 39 #[.val (.int kk), .val (.int ch)] [(.int (1 : Int32))])) _
              refine XS.goto X0.here hx rfl (pc0 := 39) (pc' := 43) rfl (hb hby d2_39) (by decide) (by decide) ?_
              show Steps p.tables e below (s₁.setTop (mkF m 43 #[.val (.int kk), .val (.int ch)] [(.int (1 : Int32))])) _
              exact kt
            obtain ⟨fs, hr, hrun, hended, hW, hsame⟩ := X0.leave (v := some (.int (1 : Int32))) (fun h => by rw [Bd.returns] at h; cases h)
            refine ⟨_, _, k144 _ (retN X0 hx (t := .boolean) Bd.returns (by simp) (hb hby d2_43) hr), hrun, hended, _, _, rfl, ?_, ⟨_, rfl⟩, hW, hsame.mono (by decide) (by decide)⟩
            show Q2 Z kk ch h0 n0 _ s₁.heap _
            rw [e0]
            exact ⟨(by rw [own_eq_own_exp]; rw [if_neg hc1_126, if_neg hc6_132, if_pos hc23_138, if_neg hc29_140, if_pos hc35_143]), N0, rfl⟩
          · have k145 : ∀ tg_, Steps p.tables e below (s₁.setTop (mkF m 43 #[.val (.int kk), .val (.int ch)] [(.int (0 : Int32))])) tg_ → Steps p.tables e below (s₁.setTop (entryFrame m #[(.int kk), (.int ch)] 2)) tg_ := by
              intro tg_ kt
              refine k142 tg_ ?_
              refine XS.icmpYes X0.here hx rfl (pc0 := 35) (pc' := 42) rfl (hb hby d2_35) rfl (feq hc35_143).2 (by decide) (by decide) ?_
              show Steps p.tables e below (s₁.setTop (mkF m 42 #[.val (.int kk), .val (.int ch)] [])) _
              refine XS.iconst X0.here hx rfl (hb hby d2_42) ?_
              show Steps p.tables e below (s₁.setTop (mkF m 43 #[.val (.int kk), .val (.int ch)] [(.int (0 : Int32))])) _
              exact kt
            obtain ⟨fs, hr, hrun, hended, hW, hsame⟩ := X0.leave (v := some (.int (0 : Int32))) (fun h => by rw [Bd.returns] at h; cases h)
            refine ⟨_, _, k145 _ (retN X0 hx (t := .boolean) Bd.returns (by simp) (hb hby d2_43) hr), hrun, hended, _, _, rfl, ?_, ⟨_, rfl⟩, hW, hsame.mono (by decide) (by decide)⟩
            show Q2 Z kk ch h0 n0 _ s₁.heap _
            rw [e0]
            exact ⟨(by rw [own_eq_own_exp]; rw [if_neg hc1_126, if_neg hc6_132, if_pos hc23_138, if_neg hc29_140, if_neg hc35_143]), N0, rfl⟩
      · have k146 : ∀ tg_, Steps p.tables e below (s₁.setTop (mkF m 46 #[.val (.int kk), .val (.int ch)] [(.int (5 : Int32)), (.int kk)])) tg_ → Steps p.tables e below (s₁.setTop (entryFrame m #[(.int kk), (.int ch)] 2)) tg_ := by
          intro tg_ kt
          refine k137 tg_ ?_
          refine XS.icmpYes X0.here hx rfl (pc0 := 23) (pc' := 44) rfl (hb hby d2_23) rfl (feq hc23_138).2 (by decide) (by decide) ?_
          show Steps p.tables e below (s₁.setTop (mkF m 44 #[.val (.int kk), .val (.int ch)] [])) _
          refine XS.iloadN X0.here hx rfl (hb hby d2_44) rfl ?_
          show Steps p.tables e below (s₁.setTop (mkF m 45 #[.val (.int kk), .val (.int ch)] [(.int kk)])) _
          refine XS.iconst X0.here hx rfl (hb hby d2_45) ?_
          show Steps p.tables e below (s₁.setTop (mkF m 46 #[.val (.int kk), .val (.int ch)] [(.int (5 : Int32)), (.int kk)])) _
          exact kt
        by_cases hc46_147 : kk = (5 : Int32)
        · have k148 : ∀ tg_, Steps p.tables e below (s₁.setTop (mkF m 52 #[.val (.int kk), .val (.int ch)] [(.int (118 : Int32)), (.int ch)])) tg_ → Steps p.tables e below (s₁.setTop (entryFrame m #[(.int kk), (.int ch)] 2)) tg_ := by
            intro tg_ kt
            refine k146 tg_ ?_
            refine XS.icmpNo X0.here hx rfl (hb hby d2_46) rfl (teq hc46_147).2 ?_
            show Steps p.tables e below (s₁.setTop (mkF m 49 #[.val (.int kk), .val (.int ch)] [])) _
            refine XS.iloadN X0.here hx rfl (hb hby d2_49) rfl ?_
            show Steps p.tables e below (s₁.setTop (mkF m 50 #[.val (.int kk), .val (.int ch)] [(.int ch)])) _
            refine XS.bipush X0.here hx rfl (hb hby d2_50) ?_
            show Steps p.tables e below (s₁.setTop (mkF m 52 #[.val (.int kk), .val (.int ch)] [(.int (118 : Int32)), (.int ch)])) _
            exact kt
          by_cases hc52_149 : ch = (118 : Int32)
          · have k150 : ∀ tg_, Steps p.tables e below (s₁.setTop (mkF m 60 #[.val (.int kk), .val (.int ch)] [(.int (1 : Int32))])) tg_ → Steps p.tables e below (s₁.setTop (entryFrame m #[(.int kk), (.int ch)] 2)) tg_ := by
              intro tg_ kt
              refine k148 tg_ ?_
              refine XS.icmpNo X0.here hx rfl (hb hby d2_52) rfl (teq hc52_149).2 ?_
              show Steps p.tables e below (s₁.setTop (mkF m 55 #[.val (.int kk), .val (.int ch)] [])) _
              refine XS.iconst X0.here hx rfl (hb hby d2_55) ?_
              show Steps p.tables e below (s₁.setTop (mkF m 56 #[.val (.int kk), .val (.int ch)] [(.int (1 : Int32))])) _
              refine XS.goto X0.here hx rfl (pc0 := 56) (pc' := 60) rfl (hb hby d2_56) (by decide) (by decide) ?_
              show Steps p.tables e below (s₁.setTop (mkF m 60 #[.val (.int kk), .val (.int ch)] [(.int (1 : Int32))])) _
              exact kt
            obtain ⟨fs, hr, hrun, hended, hW, hsame⟩ := X0.leave (v := some (.int (1 : Int32))) (fun h => by rw [Bd.returns] at h; cases h)
            refine ⟨_, _, k150 _ (retN X0 hx (t := .boolean) Bd.returns (by simp) (hb hby d2_60) hr), hrun, hended, _, _, rfl, ?_, ⟨_, rfl⟩, hW, hsame.mono (by decide) (by decide)⟩
            show Q2 Z kk ch h0 n0 _ s₁.heap _
            rw [e0]
            exact ⟨(by rw [own_eq_own_exp]; rw [if_neg hc1_126, if_neg hc6_132, if_neg hc23_138, if_pos hc46_147, if_pos hc52_149]), N0, rfl⟩
          · have k151 : ∀ tg_, Steps p.tables e below (s₁.setTop (mkF m 60 #[.val (.int kk), .val (.int ch)] [(.int (0 : Int32))])) tg_ → Steps p.tables e below (s₁.setTop (entryFrame m #[(.int kk), (.int ch)] 2)) tg_ := by
              intro tg_ kt
              refine k148 tg_ ?_
              refine XS.icmpYes X0.here hx rfl (pc0 := 52) (pc' := 59) rfl (hb hby d2_52) rfl (feq hc52_149).2 (by decide) (by decide) ?_
              show Steps p.tables e below (s₁.setTop (mkF m 59 #[.val (.int kk), .val (.int ch)] [])) _
              refine XS.iconst X0.here hx rfl (hb hby d2_59) ?_
              show Steps p.tables e below (s₁.setTop (mkF m 60 #[.val (.int kk), .val (.int ch)] [(.int (0 : Int32))])) _
              exact kt
            obtain ⟨fs, hr, hrun, hended, hW, hsame⟩ := X0.leave (v := some (.int (0 : Int32))) (fun h => by rw [Bd.returns] at h; cases h)
            refine ⟨_, _, k151 _ (retN X0 hx (t := .boolean) Bd.returns (by simp) (hb hby d2_60) hr), hrun, hended, _, _, rfl, ?_, ⟨_, rfl⟩, hW, hsame.mono (by decide) (by decide)⟩
            show Q2 Z kk ch h0 n0 _ s₁.heap _
            rw [e0]
            exact ⟨(by rw [own_eq_own_exp]; rw [if_neg hc1_126, if_neg hc6_132, if_neg hc23_138, if_pos hc46_147, if_neg hc52_149]), N0, rfl⟩
        · have k152 : ∀ tg_, Steps p.tables e below (s₁.setTop (mkF m 62 #[.val (.int kk), .val (.int ch)] [(.int (0 : Int32))])) tg_ → Steps p.tables e below (s₁.setTop (entryFrame m #[(.int kk), (.int ch)] 2)) tg_ := by
            intro tg_ kt
            refine k146 tg_ ?_
            refine XS.icmpYes X0.here hx rfl (pc0 := 46) (pc' := 61) rfl (hb hby d2_46) rfl (feq hc46_147).2 (by decide) (by decide) ?_
            show Steps p.tables e below (s₁.setTop (mkF m 61 #[.val (.int kk), .val (.int ch)] [])) _
            refine XS.iconst X0.here hx rfl (hb hby d2_61) ?_
            show Steps p.tables e below (s₁.setTop (mkF m 62 #[.val (.int kk), .val (.int ch)] [(.int (0 : Int32))])) _
            exact kt
          obtain ⟨fs, hr, hrun, hended, hW, hsame⟩ := X0.leave (v := some (.int (0 : Int32))) (fun h => by rw [Bd.returns] at h; cases h)
          refine ⟨_, _, k152 _ (retN X0 hx (t := .boolean) Bd.returns (by simp) (hb hby d2_62) hr), hrun, hended, _, _, rfl, ?_, ⟨_, rfl⟩, hW, hsame.mono (by decide) (by decide)⟩
          show Q2 Z kk ch h0 n0 _ s₁.heap _
          rw [e0]
          exact ⟨(by rw [own_eq_own_exp]; rw [if_neg hc1_126, if_neg hc6_132, if_neg hc23_138, if_neg hc46_147]), N0, rfl⟩
theorem d1_0 : decode method_3_code 0 = .ok (.iload_n 0, 1) := by decide +kernel
theorem d1_1 : decode method_3_code 1 = .ok (.ifCond .ne 7, 3) := by decide +kernel
theorem d1_4 : decode method_3_code 4 = .ok (.getstatic 26, 3) := by decide +kernel
theorem d1_7 : decode method_3_code 7 = .ok (.areturn, 1) := by decide +kernel
theorem pn_1 : plainName "com/example/grendel/grendel/cli/VerbTakesPinLaw" = true := by first | (simp [plainName, overriddenIn]; done) | decide +kernel
theorem ef_pick0 (m : MethodId) (x0 : Int32) : entryFrame m #[(.int x0)] 1 = mkF m 0 #[.val (.int x0)] [] := by first | (simp [entryFrame, mkF, argsToLocals, Value.category]; done) | rfl
def Qpick0 (Z : State) (kk : Int32) (xv : Addr) (h0 : Heap) (n0 : Nat) (rv_ : Option Value) (h : Heap) (LL_ : List Loc) : Prop := rv_ = some (.ref xv) ∧ Fr n0 LL_ ∧ h = h0
set_option maxRecDepth 65536 in
set_option maxHeartbeats 40000000 in
theorem rmpick0 (l : Launch) (Z : State) (a0 : Array Value) (hw : ∀ d ∈ tables_1, d.before a0 Z = true) (ws : List Jvm.Cond) (kk : Int32) (xv : Addr) (h0 : Heap) (n0 : Nat) (S_LS : Sta Z h0 "com/example/grendel/grendel/cli/Verb" "LS" "Lcom/example/grendel/grendel/cli/Verb;" (.ref xv)) (hk : kk = (0 : Int32)) :
    MetFree l (⟨"com/example/grendel/grendel/cli/VerbTakesPinLaw", "pick", "(I)Lcom/example/grendel/grendel/cli/Verb;"⟩ : MethodName) (head1 (Jvm.Cond.code (⟨"com/example/grendel/grendel/cli/VerbTakesPinLaw", "pick", "(I)Lcom/example/grendel/grendel/cli/Verb;"⟩ : MethodName) method_3_code 1 (some (.object "com/example/grendel/grendel/cli/Verb")) :: ws) ({ frames := 0, cells := 0, slots := 0, locals := 0 } : Room)) (fun aa UU => aa = #[(.int kk)] ∧ Z.Warmed39 UU.vm ∧ UU.heap = h0) (fun _ _ _ _ _ => True) (fun _ UU oo UV => ∃ vv LL, oo = .returned vv ∧ Qpick0 Z kk xv h0 n0 vv UV.heap LL ∧ FrameEnd UU oo UV LL ({ frames := 0, cells := 0, slots := 0, locals := 0 } : Room).cells ({ frames := 0, cells := 0, slots := 0, locals := 0 } : Room).slots) := by
  refine MetFree.of_bodySF (plainFor_of_name pn_1) hisR ?_
  intro p e s m args below meth c s₁ Bd hml0 hP hK
  obtain ⟨rfl, hZ, hh⟩ := hP
  have hx := Bd.exec
  have hby := Bd.bytes
  have hml : c.maxLocals = 1 := hml0
  have hown : s.vm.findClass "com/example/grendel/grendel/cli/VerbTakesPinLaw" = some m.cls := findClass_of_methodNamed Bd.named
  have hnm := (name_of_methodNamed Bd.named Bd.method).1
  have X0 : Stand p l e ({ frames := 0, cells := 0, slots := 0, locals := 0 } : Room) s m #[(.int kk)] below meth c s₁ [] 0 0 := Stand.of_body Bd
  have e0 : s₁.heap = h0 := by rw [← hh, Bd.state]; rfl
  have N0 := Fr.nil n0
  have k0 : ∀ tg_, Steps p.tables e below (s₁.setTop (mkF m 0 #[.val (.int kk)] [])) tg_ → Steps p.tables e below (s₁.setTop (entryFrame m #[(.int kk)] 1)) tg_ := fun tg_ k => castTop (ef_pick0 m kk) k
  have hc1_153 : kk = (0 : Int32) := (by subst hk; decide)
  obtain ⟨T154, X154, e154, st154⟩ := getS2 X0 hx hZ hown (host := "") (Or.inl (hw _ (List.mem_of_getElem? (i := 5) rfl))) Via.refl e0 S_LS (g := (mkF m 4 #[.val (.int kk)] [])) rfl (hb hby d1_4)
  have k155 : ∀ tg_, Steps p.tables e below (T154.setTop (mkF m 7 #[.val (.int kk)] [(.ref xv)])) tg_ → Steps p.tables e below (s₁.setTop (entryFrame m #[(.int kk)] 1)) tg_ := by
    intro tg_ kt
    refine k0 tg_ ?_
    refine XS.iloadN X0.here hx rfl (hb hby d1_0) rfl ?_
    show Steps p.tables e below (s₁.setTop (mkF m 1 #[.val (.int kk)] [(.int kk)])) _
    refine XS.ifNo X0.here hx rfl (hb hby d1_1) rfl ((if0 _ _).trans (teq hc1_153).2) ?_
    show Steps p.tables e below (s₁.setTop (mkF m 4 #[.val (.int kk)] [])) _
    refine st154 _ ?_
    show Steps p.tables e below (T154.setTop (mkF m 7 #[.val (.int kk)] [(.ref xv)])) _
    exact kt
  obtain ⟨fs, hr, hrun, hended, hW, hsame⟩ := X154.leave (v := some (.ref xv)) (fun h => by rw [Bd.returns] at h; cases h)
  refine ⟨_, _, k155 _ (retOut X154 hx Bd.returns rfl (Or.inr (Or.inr (Or.inr (Or.inr ⟨rfl, rfl, rfl⟩)))) (hb hby d1_7) hr), hrun, hended, _, _, rfl, ?_, ⟨_, rfl⟩, hW, hsame.mono (by decide) (by decide)⟩
  show Qpick0 Z kk xv h0 n0 _ T154.heap _
  rw [e154]
  exact ⟨rfl, N0, rfl⟩
theorem d1_8 : decode method_3_code 8 = .ok (.iload_n 0, 1) := by decide +kernel
theorem d1_9 : decode method_3_code 9 = .ok (.iconst 1, 1) := by decide +kernel
theorem d1_10 : decode method_3_code 10 = .ok (.if_icmp .ne 7, 3) := by decide +kernel
theorem d1_13 : decode method_3_code 13 = .ok (.getstatic 30, 3) := by decide +kernel
theorem d1_16 : decode method_3_code 16 = .ok (.areturn, 1) := by decide +kernel
theorem ef_pick1 (m : MethodId) (x0 : Int32) : entryFrame m #[(.int x0)] 1 = mkF m 0 #[.val (.int x0)] [] := by first | (simp [entryFrame, mkF, argsToLocals, Value.category]; done) | rfl
def Qpick1 (Z : State) (kk : Int32) (xv : Addr) (h0 : Heap) (n0 : Nat) (rv_ : Option Value) (h : Heap) (LL_ : List Loc) : Prop := rv_ = some (.ref xv) ∧ Fr n0 LL_ ∧ h = h0
set_option maxRecDepth 65536 in
set_option maxHeartbeats 40000000 in
theorem rmpick1 (l : Launch) (Z : State) (a0 : Array Value) (hw : ∀ d ∈ tables_1, d.before a0 Z = true) (ws : List Jvm.Cond) (kk : Int32) (xv : Addr) (h0 : Heap) (n0 : Nat) (S_CREATE : Sta Z h0 "com/example/grendel/grendel/cli/Verb" "CREATE" "Lcom/example/grendel/grendel/cli/Verb;" (.ref xv)) (hk : kk = (1 : Int32)) :
    MetFree l (⟨"com/example/grendel/grendel/cli/VerbTakesPinLaw", "pick", "(I)Lcom/example/grendel/grendel/cli/Verb;"⟩ : MethodName) (head1 (Jvm.Cond.code (⟨"com/example/grendel/grendel/cli/VerbTakesPinLaw", "pick", "(I)Lcom/example/grendel/grendel/cli/Verb;"⟩ : MethodName) method_3_code 1 (some (.object "com/example/grendel/grendel/cli/Verb")) :: ws) ({ frames := 0, cells := 0, slots := 0, locals := 0 } : Room)) (fun aa UU => aa = #[(.int kk)] ∧ Z.Warmed39 UU.vm ∧ UU.heap = h0) (fun _ _ _ _ _ => True) (fun _ UU oo UV => ∃ vv LL, oo = .returned vv ∧ Qpick1 Z kk xv h0 n0 vv UV.heap LL ∧ FrameEnd UU oo UV LL ({ frames := 0, cells := 0, slots := 0, locals := 0 } : Room).cells ({ frames := 0, cells := 0, slots := 0, locals := 0 } : Room).slots) := by
  refine MetFree.of_bodySF (plainFor_of_name pn_1) hisR ?_
  intro p e s m args below meth c s₁ Bd hml0 hP hK
  obtain ⟨rfl, hZ, hh⟩ := hP
  have hx := Bd.exec
  have hby := Bd.bytes
  have hml : c.maxLocals = 1 := hml0
  have hown : s.vm.findClass "com/example/grendel/grendel/cli/VerbTakesPinLaw" = some m.cls := findClass_of_methodNamed Bd.named
  have hnm := (name_of_methodNamed Bd.named Bd.method).1
  have X0 : Stand p l e ({ frames := 0, cells := 0, slots := 0, locals := 0 } : Room) s m #[(.int kk)] below meth c s₁ [] 0 0 := Stand.of_body Bd
  have e0 : s₁.heap = h0 := by rw [← hh, Bd.state]; rfl
  have N0 := Fr.nil n0
  have k0 : ∀ tg_, Steps p.tables e below (s₁.setTop (mkF m 0 #[.val (.int kk)] [])) tg_ → Steps p.tables e below (s₁.setTop (entryFrame m #[(.int kk)] 1)) tg_ := fun tg_ k => castTop (ef_pick1 m kk) k
  have hc1_156 : ¬ (kk = (0 : Int32)) := (by subst hk; decide)
  have hc10_157 : kk = (1 : Int32) := (by subst hk; decide)
  obtain ⟨T158, X158, e158, st158⟩ := getS2 X0 hx hZ hown (host := "") (Or.inl (hw _ (List.mem_of_getElem? (i := 80) rfl))) Via.refl e0 S_CREATE (g := (mkF m 13 #[.val (.int kk)] [])) rfl (hb hby d1_13)
  have k159 : ∀ tg_, Steps p.tables e below (T158.setTop (mkF m 16 #[.val (.int kk)] [(.ref xv)])) tg_ → Steps p.tables e below (s₁.setTop (entryFrame m #[(.int kk)] 1)) tg_ := by
    intro tg_ kt
    refine k0 tg_ ?_
    refine XS.iloadN X0.here hx rfl (hb hby d1_0) rfl ?_
    show Steps p.tables e below (s₁.setTop (mkF m 1 #[.val (.int kk)] [(.int kk)])) _
    refine XS.ifYes X0.here hx rfl (pc0 := 1) (pc' := 8) rfl (hb hby d1_1) rfl ((if0 _ _).trans (feq hc1_156).2) (by decide) (by decide) ?_
    show Steps p.tables e below (s₁.setTop (mkF m 8 #[.val (.int kk)] [])) _
    refine XS.iloadN X0.here hx rfl (hb hby d1_8) rfl ?_
    show Steps p.tables e below (s₁.setTop (mkF m 9 #[.val (.int kk)] [(.int kk)])) _
    refine XS.iconst X0.here hx rfl (hb hby d1_9) ?_
    show Steps p.tables e below (s₁.setTop (mkF m 10 #[.val (.int kk)] [(.int (1 : Int32)), (.int kk)])) _
    refine XS.icmpNo X0.here hx rfl (hb hby d1_10) rfl (teq hc10_157).2 ?_
    show Steps p.tables e below (s₁.setTop (mkF m 13 #[.val (.int kk)] [])) _
    refine st158 _ ?_
    show Steps p.tables e below (T158.setTop (mkF m 16 #[.val (.int kk)] [(.ref xv)])) _
    exact kt
  obtain ⟨fs, hr, hrun, hended, hW, hsame⟩ := X158.leave (v := some (.ref xv)) (fun h => by rw [Bd.returns] at h; cases h)
  refine ⟨_, _, k159 _ (retOut X158 hx Bd.returns rfl (Or.inr (Or.inr (Or.inr (Or.inr ⟨rfl, rfl, rfl⟩)))) (hb hby d1_16) hr), hrun, hended, _, _, rfl, ?_, ⟨_, rfl⟩, hW, hsame.mono (by decide) (by decide)⟩
  show Qpick1 Z kk xv h0 n0 _ T158.heap _
  rw [e158]
  exact ⟨rfl, N0, rfl⟩
theorem d1_17 : decode method_3_code 17 = .ok (.iload_n 0, 1) := by decide +kernel
theorem d1_18 : decode method_3_code 18 = .ok (.iconst 2, 1) := by decide +kernel
theorem d1_19 : decode method_3_code 19 = .ok (.if_icmp .ne 7, 3) := by decide +kernel
theorem d1_22 : decode method_3_code 22 = .ok (.getstatic 33, 3) := by decide +kernel
theorem d1_25 : decode method_3_code 25 = .ok (.areturn, 1) := by decide +kernel
theorem ef_pick2 (m : MethodId) (x0 : Int32) : entryFrame m #[(.int x0)] 1 = mkF m 0 #[.val (.int x0)] [] := by first | (simp [entryFrame, mkF, argsToLocals, Value.category]; done) | rfl
def Qpick2 (Z : State) (kk : Int32) (xv : Addr) (h0 : Heap) (n0 : Nat) (rv_ : Option Value) (h : Heap) (LL_ : List Loc) : Prop := rv_ = some (.ref xv) ∧ Fr n0 LL_ ∧ h = h0
set_option maxRecDepth 65536 in
set_option maxHeartbeats 40000000 in
theorem rmpick2 (l : Launch) (Z : State) (a0 : Array Value) (hw : ∀ d ∈ tables_1, d.before a0 Z = true) (ws : List Jvm.Cond) (kk : Int32) (xv : Addr) (h0 : Heap) (n0 : Nat) (S_GET : Sta Z h0 "com/example/grendel/grendel/cli/Verb" "GET" "Lcom/example/grendel/grendel/cli/Verb;" (.ref xv)) (hk : kk = (2 : Int32)) :
    MetFree l (⟨"com/example/grendel/grendel/cli/VerbTakesPinLaw", "pick", "(I)Lcom/example/grendel/grendel/cli/Verb;"⟩ : MethodName) (head1 (Jvm.Cond.code (⟨"com/example/grendel/grendel/cli/VerbTakesPinLaw", "pick", "(I)Lcom/example/grendel/grendel/cli/Verb;"⟩ : MethodName) method_3_code 1 (some (.object "com/example/grendel/grendel/cli/Verb")) :: ws) ({ frames := 0, cells := 0, slots := 0, locals := 0 } : Room)) (fun aa UU => aa = #[(.int kk)] ∧ Z.Warmed39 UU.vm ∧ UU.heap = h0) (fun _ _ _ _ _ => True) (fun _ UU oo UV => ∃ vv LL, oo = .returned vv ∧ Qpick2 Z kk xv h0 n0 vv UV.heap LL ∧ FrameEnd UU oo UV LL ({ frames := 0, cells := 0, slots := 0, locals := 0 } : Room).cells ({ frames := 0, cells := 0, slots := 0, locals := 0 } : Room).slots) := by
  refine MetFree.of_bodySF (plainFor_of_name pn_1) hisR ?_
  intro p e s m args below meth c s₁ Bd hml0 hP hK
  obtain ⟨rfl, hZ, hh⟩ := hP
  have hx := Bd.exec
  have hby := Bd.bytes
  have hml : c.maxLocals = 1 := hml0
  have hown : s.vm.findClass "com/example/grendel/grendel/cli/VerbTakesPinLaw" = some m.cls := findClass_of_methodNamed Bd.named
  have hnm := (name_of_methodNamed Bd.named Bd.method).1
  have X0 : Stand p l e ({ frames := 0, cells := 0, slots := 0, locals := 0 } : Room) s m #[(.int kk)] below meth c s₁ [] 0 0 := Stand.of_body Bd
  have e0 : s₁.heap = h0 := by rw [← hh, Bd.state]; rfl
  have N0 := Fr.nil n0
  have k0 : ∀ tg_, Steps p.tables e below (s₁.setTop (mkF m 0 #[.val (.int kk)] [])) tg_ → Steps p.tables e below (s₁.setTop (entryFrame m #[(.int kk)] 1)) tg_ := fun tg_ k => castTop (ef_pick2 m kk) k
  have hc1_160 : ¬ (kk = (0 : Int32)) := (by subst hk; decide)
  have hc10_161 : ¬ (kk = (1 : Int32)) := (by subst hk; decide)
  have hc19_162 : kk = (2 : Int32) := (by subst hk; decide)
  obtain ⟨T163, X163, e163, st163⟩ := getS2 X0 hx hZ hown (host := "") (Or.inl (hw _ (List.mem_of_getElem? (i := 76) rfl))) Via.refl e0 S_GET (g := (mkF m 22 #[.val (.int kk)] [])) rfl (hb hby d1_22)
  have k164 : ∀ tg_, Steps p.tables e below (T163.setTop (mkF m 25 #[.val (.int kk)] [(.ref xv)])) tg_ → Steps p.tables e below (s₁.setTop (entryFrame m #[(.int kk)] 1)) tg_ := by
    intro tg_ kt
    refine k0 tg_ ?_
    refine XS.iloadN X0.here hx rfl (hb hby d1_0) rfl ?_
    show Steps p.tables e below (s₁.setTop (mkF m 1 #[.val (.int kk)] [(.int kk)])) _
    refine XS.ifYes X0.here hx rfl (pc0 := 1) (pc' := 8) rfl (hb hby d1_1) rfl ((if0 _ _).trans (feq hc1_160).2) (by decide) (by decide) ?_
    show Steps p.tables e below (s₁.setTop (mkF m 8 #[.val (.int kk)] [])) _
    refine XS.iloadN X0.here hx rfl (hb hby d1_8) rfl ?_
    show Steps p.tables e below (s₁.setTop (mkF m 9 #[.val (.int kk)] [(.int kk)])) _
    refine XS.iconst X0.here hx rfl (hb hby d1_9) ?_
    show Steps p.tables e below (s₁.setTop (mkF m 10 #[.val (.int kk)] [(.int (1 : Int32)), (.int kk)])) _
    refine XS.icmpYes X0.here hx rfl (pc0 := 10) (pc' := 17) rfl (hb hby d1_10) rfl (feq hc10_161).2 (by decide) (by decide) ?_
    show Steps p.tables e below (s₁.setTop (mkF m 17 #[.val (.int kk)] [])) _
    refine XS.iloadN X0.here hx rfl (hb hby d1_17) rfl ?_
    show Steps p.tables e below (s₁.setTop (mkF m 18 #[.val (.int kk)] [(.int kk)])) _
    refine XS.iconst X0.here hx rfl (hb hby d1_18) ?_
    show Steps p.tables e below (s₁.setTop (mkF m 19 #[.val (.int kk)] [(.int (2 : Int32)), (.int kk)])) _
    refine XS.icmpNo X0.here hx rfl (hb hby d1_19) rfl (teq hc19_162).2 ?_
    show Steps p.tables e below (s₁.setTop (mkF m 22 #[.val (.int kk)] [])) _
    refine st163 _ ?_
    show Steps p.tables e below (T163.setTop (mkF m 25 #[.val (.int kk)] [(.ref xv)])) _
    exact kt
  obtain ⟨fs, hr, hrun, hended, hW, hsame⟩ := X163.leave (v := some (.ref xv)) (fun h => by rw [Bd.returns] at h; cases h)
  refine ⟨_, _, k164 _ (retOut X163 hx Bd.returns rfl (Or.inr (Or.inr (Or.inr (Or.inr ⟨rfl, rfl, rfl⟩)))) (hb hby d1_25) hr), hrun, hended, _, _, rfl, ?_, ⟨_, rfl⟩, hW, hsame.mono (by decide) (by decide)⟩
  show Qpick2 Z kk xv h0 n0 _ T163.heap _
  rw [e163]
  exact ⟨rfl, N0, rfl⟩
theorem d1_26 : decode method_3_code 26 = .ok (.iload_n 0, 1) := by decide +kernel
theorem d1_27 : decode method_3_code 27 = .ok (.iconst 3, 1) := by decide +kernel
theorem d1_28 : decode method_3_code 28 = .ok (.if_icmp .ne 7, 3) := by decide +kernel
theorem d1_31 : decode method_3_code 31 = .ok (.getstatic 36, 3) := by decide +kernel
theorem d1_34 : decode method_3_code 34 = .ok (.areturn, 1) := by decide +kernel
theorem ef_pick3 (m : MethodId) (x0 : Int32) : entryFrame m #[(.int x0)] 1 = mkF m 0 #[.val (.int x0)] [] := by first | (simp [entryFrame, mkF, argsToLocals, Value.category]; done) | rfl
def Qpick3 (Z : State) (kk : Int32) (xv : Addr) (h0 : Heap) (n0 : Nat) (rv_ : Option Value) (h : Heap) (LL_ : List Loc) : Prop := rv_ = some (.ref xv) ∧ Fr n0 LL_ ∧ h = h0
set_option maxRecDepth 65536 in
set_option maxHeartbeats 40000000 in
theorem rmpick3 (l : Launch) (Z : State) (a0 : Array Value) (hw : ∀ d ∈ tables_1, d.before a0 Z = true) (ws : List Jvm.Cond) (kk : Int32) (xv : Addr) (h0 : Heap) (n0 : Nat) (S_SET : Sta Z h0 "com/example/grendel/grendel/cli/Verb" "SET" "Lcom/example/grendel/grendel/cli/Verb;" (.ref xv)) (hk : kk = (3 : Int32)) :
    MetFree l (⟨"com/example/grendel/grendel/cli/VerbTakesPinLaw", "pick", "(I)Lcom/example/grendel/grendel/cli/Verb;"⟩ : MethodName) (head1 (Jvm.Cond.code (⟨"com/example/grendel/grendel/cli/VerbTakesPinLaw", "pick", "(I)Lcom/example/grendel/grendel/cli/Verb;"⟩ : MethodName) method_3_code 1 (some (.object "com/example/grendel/grendel/cli/Verb")) :: ws) ({ frames := 0, cells := 0, slots := 0, locals := 0 } : Room)) (fun aa UU => aa = #[(.int kk)] ∧ Z.Warmed39 UU.vm ∧ UU.heap = h0) (fun _ _ _ _ _ => True) (fun _ UU oo UV => ∃ vv LL, oo = .returned vv ∧ Qpick3 Z kk xv h0 n0 vv UV.heap LL ∧ FrameEnd UU oo UV LL ({ frames := 0, cells := 0, slots := 0, locals := 0 } : Room).cells ({ frames := 0, cells := 0, slots := 0, locals := 0 } : Room).slots) := by
  refine MetFree.of_bodySF (plainFor_of_name pn_1) hisR ?_
  intro p e s m args below meth c s₁ Bd hml0 hP hK
  obtain ⟨rfl, hZ, hh⟩ := hP
  have hx := Bd.exec
  have hby := Bd.bytes
  have hml : c.maxLocals = 1 := hml0
  have hown : s.vm.findClass "com/example/grendel/grendel/cli/VerbTakesPinLaw" = some m.cls := findClass_of_methodNamed Bd.named
  have hnm := (name_of_methodNamed Bd.named Bd.method).1
  have X0 : Stand p l e ({ frames := 0, cells := 0, slots := 0, locals := 0 } : Room) s m #[(.int kk)] below meth c s₁ [] 0 0 := Stand.of_body Bd
  have e0 : s₁.heap = h0 := by rw [← hh, Bd.state]; rfl
  have N0 := Fr.nil n0
  have k0 : ∀ tg_, Steps p.tables e below (s₁.setTop (mkF m 0 #[.val (.int kk)] [])) tg_ → Steps p.tables e below (s₁.setTop (entryFrame m #[(.int kk)] 1)) tg_ := fun tg_ k => castTop (ef_pick3 m kk) k
  have hc1_165 : ¬ (kk = (0 : Int32)) := (by subst hk; decide)
  have hc10_166 : ¬ (kk = (1 : Int32)) := (by subst hk; decide)
  have hc19_167 : ¬ (kk = (2 : Int32)) := (by subst hk; decide)
  have hc28_168 : kk = (3 : Int32) := (by subst hk; decide)
  obtain ⟨T169, X169, e169, st169⟩ := getS2 X0 hx hZ hown (host := "") (Or.inl (hw _ (List.mem_of_getElem? (i := 78) rfl))) Via.refl e0 S_SET (g := (mkF m 31 #[.val (.int kk)] [])) rfl (hb hby d1_31)
  have k170 : ∀ tg_, Steps p.tables e below (T169.setTop (mkF m 34 #[.val (.int kk)] [(.ref xv)])) tg_ → Steps p.tables e below (s₁.setTop (entryFrame m #[(.int kk)] 1)) tg_ := by
    intro tg_ kt
    refine k0 tg_ ?_
    refine XS.iloadN X0.here hx rfl (hb hby d1_0) rfl ?_
    show Steps p.tables e below (s₁.setTop (mkF m 1 #[.val (.int kk)] [(.int kk)])) _
    refine XS.ifYes X0.here hx rfl (pc0 := 1) (pc' := 8) rfl (hb hby d1_1) rfl ((if0 _ _).trans (feq hc1_165).2) (by decide) (by decide) ?_
    show Steps p.tables e below (s₁.setTop (mkF m 8 #[.val (.int kk)] [])) _
    refine XS.iloadN X0.here hx rfl (hb hby d1_8) rfl ?_
    show Steps p.tables e below (s₁.setTop (mkF m 9 #[.val (.int kk)] [(.int kk)])) _
    refine XS.iconst X0.here hx rfl (hb hby d1_9) ?_
    show Steps p.tables e below (s₁.setTop (mkF m 10 #[.val (.int kk)] [(.int (1 : Int32)), (.int kk)])) _
    refine XS.icmpYes X0.here hx rfl (pc0 := 10) (pc' := 17) rfl (hb hby d1_10) rfl (feq hc10_166).2 (by decide) (by decide) ?_
    show Steps p.tables e below (s₁.setTop (mkF m 17 #[.val (.int kk)] [])) _
    refine XS.iloadN X0.here hx rfl (hb hby d1_17) rfl ?_
    show Steps p.tables e below (s₁.setTop (mkF m 18 #[.val (.int kk)] [(.int kk)])) _
    refine XS.iconst X0.here hx rfl (hb hby d1_18) ?_
    show Steps p.tables e below (s₁.setTop (mkF m 19 #[.val (.int kk)] [(.int (2 : Int32)), (.int kk)])) _
    refine XS.icmpYes X0.here hx rfl (pc0 := 19) (pc' := 26) rfl (hb hby d1_19) rfl (feq hc19_167).2 (by decide) (by decide) ?_
    show Steps p.tables e below (s₁.setTop (mkF m 26 #[.val (.int kk)] [])) _
    refine XS.iloadN X0.here hx rfl (hb hby d1_26) rfl ?_
    show Steps p.tables e below (s₁.setTop (mkF m 27 #[.val (.int kk)] [(.int kk)])) _
    refine XS.iconst X0.here hx rfl (hb hby d1_27) ?_
    show Steps p.tables e below (s₁.setTop (mkF m 28 #[.val (.int kk)] [(.int (3 : Int32)), (.int kk)])) _
    refine XS.icmpNo X0.here hx rfl (hb hby d1_28) rfl (teq hc28_168).2 ?_
    show Steps p.tables e below (s₁.setTop (mkF m 31 #[.val (.int kk)] [])) _
    refine st169 _ ?_
    show Steps p.tables e below (T169.setTop (mkF m 34 #[.val (.int kk)] [(.ref xv)])) _
    exact kt
  obtain ⟨fs, hr, hrun, hended, hW, hsame⟩ := X169.leave (v := some (.ref xv)) (fun h => by rw [Bd.returns] at h; cases h)
  refine ⟨_, _, k170 _ (retOut X169 hx Bd.returns rfl (Or.inr (Or.inr (Or.inr (Or.inr ⟨rfl, rfl, rfl⟩)))) (hb hby d1_34) hr), hrun, hended, _, _, rfl, ?_, ⟨_, rfl⟩, hW, hsame.mono (by decide) (by decide)⟩
  show Qpick3 Z kk xv h0 n0 _ T169.heap _
  rw [e169]
  exact ⟨rfl, N0, rfl⟩
theorem d1_35 : decode method_3_code 35 = .ok (.iload_n 0, 1) := by decide +kernel
theorem d1_36 : decode method_3_code 36 = .ok (.iconst 4, 1) := by decide +kernel
theorem d1_37 : decode method_3_code 37 = .ok (.if_icmp .ne 7, 3) := by decide +kernel
theorem d1_40 : decode method_3_code 40 = .ok (.getstatic 39, 3) := by decide +kernel
theorem d1_43 : decode method_3_code 43 = .ok (.areturn, 1) := by decide +kernel
theorem ef_pick4 (m : MethodId) (x0 : Int32) : entryFrame m #[(.int x0)] 1 = mkF m 0 #[.val (.int x0)] [] := by first | (simp [entryFrame, mkF, argsToLocals, Value.category]; done) | rfl
def Qpick4 (Z : State) (kk : Int32) (xv : Addr) (h0 : Heap) (n0 : Nat) (rv_ : Option Value) (h : Heap) (LL_ : List Loc) : Prop := rv_ = some (.ref xv) ∧ Fr n0 LL_ ∧ h = h0
set_option maxRecDepth 65536 in
set_option maxHeartbeats 40000000 in
theorem rmpick4 (l : Launch) (Z : State) (a0 : Array Value) (hw : ∀ d ∈ tables_1, d.before a0 Z = true) (ws : List Jvm.Cond) (kk : Int32) (xv : Addr) (h0 : Heap) (n0 : Nat) (S_STAT : Sta Z h0 "com/example/grendel/grendel/cli/Verb" "STAT" "Lcom/example/grendel/grendel/cli/Verb;" (.ref xv)) (hk : kk = (4 : Int32)) :
    MetFree l (⟨"com/example/grendel/grendel/cli/VerbTakesPinLaw", "pick", "(I)Lcom/example/grendel/grendel/cli/Verb;"⟩ : MethodName) (head1 (Jvm.Cond.code (⟨"com/example/grendel/grendel/cli/VerbTakesPinLaw", "pick", "(I)Lcom/example/grendel/grendel/cli/Verb;"⟩ : MethodName) method_3_code 1 (some (.object "com/example/grendel/grendel/cli/Verb")) :: ws) ({ frames := 0, cells := 0, slots := 0, locals := 0 } : Room)) (fun aa UU => aa = #[(.int kk)] ∧ Z.Warmed39 UU.vm ∧ UU.heap = h0) (fun _ _ _ _ _ => True) (fun _ UU oo UV => ∃ vv LL, oo = .returned vv ∧ Qpick4 Z kk xv h0 n0 vv UV.heap LL ∧ FrameEnd UU oo UV LL ({ frames := 0, cells := 0, slots := 0, locals := 0 } : Room).cells ({ frames := 0, cells := 0, slots := 0, locals := 0 } : Room).slots) := by
  refine MetFree.of_bodySF (plainFor_of_name pn_1) hisR ?_
  intro p e s m args below meth c s₁ Bd hml0 hP hK
  obtain ⟨rfl, hZ, hh⟩ := hP
  have hx := Bd.exec
  have hby := Bd.bytes
  have hml : c.maxLocals = 1 := hml0
  have hown : s.vm.findClass "com/example/grendel/grendel/cli/VerbTakesPinLaw" = some m.cls := findClass_of_methodNamed Bd.named
  have hnm := (name_of_methodNamed Bd.named Bd.method).1
  have X0 : Stand p l e ({ frames := 0, cells := 0, slots := 0, locals := 0 } : Room) s m #[(.int kk)] below meth c s₁ [] 0 0 := Stand.of_body Bd
  have e0 : s₁.heap = h0 := by rw [← hh, Bd.state]; rfl
  have N0 := Fr.nil n0
  have k0 : ∀ tg_, Steps p.tables e below (s₁.setTop (mkF m 0 #[.val (.int kk)] [])) tg_ → Steps p.tables e below (s₁.setTop (entryFrame m #[(.int kk)] 1)) tg_ := fun tg_ k => castTop (ef_pick4 m kk) k
  have hc1_171 : ¬ (kk = (0 : Int32)) := (by subst hk; decide)
  have hc10_172 : ¬ (kk = (1 : Int32)) := (by subst hk; decide)
  have hc19_173 : ¬ (kk = (2 : Int32)) := (by subst hk; decide)
  have hc28_174 : ¬ (kk = (3 : Int32)) := (by subst hk; decide)
  have hc37_175 : kk = (4 : Int32) := (by subst hk; decide)
  obtain ⟨T176, X176, e176, st176⟩ := getS2 X0 hx hZ hown (host := "") (Or.inl (hw _ (List.mem_of_getElem? (i := 68) rfl))) Via.refl e0 S_STAT (g := (mkF m 40 #[.val (.int kk)] [])) rfl (hb hby d1_40)
  have k177 : ∀ tg_, Steps p.tables e below (T176.setTop (mkF m 43 #[.val (.int kk)] [(.ref xv)])) tg_ → Steps p.tables e below (s₁.setTop (entryFrame m #[(.int kk)] 1)) tg_ := by
    intro tg_ kt
    refine k0 tg_ ?_
    refine XS.iloadN X0.here hx rfl (hb hby d1_0) rfl ?_
    show Steps p.tables e below (s₁.setTop (mkF m 1 #[.val (.int kk)] [(.int kk)])) _
    refine XS.ifYes X0.here hx rfl (pc0 := 1) (pc' := 8) rfl (hb hby d1_1) rfl ((if0 _ _).trans (feq hc1_171).2) (by decide) (by decide) ?_
    show Steps p.tables e below (s₁.setTop (mkF m 8 #[.val (.int kk)] [])) _
    refine XS.iloadN X0.here hx rfl (hb hby d1_8) rfl ?_
    show Steps p.tables e below (s₁.setTop (mkF m 9 #[.val (.int kk)] [(.int kk)])) _
    refine XS.iconst X0.here hx rfl (hb hby d1_9) ?_
    show Steps p.tables e below (s₁.setTop (mkF m 10 #[.val (.int kk)] [(.int (1 : Int32)), (.int kk)])) _
    refine XS.icmpYes X0.here hx rfl (pc0 := 10) (pc' := 17) rfl (hb hby d1_10) rfl (feq hc10_172).2 (by decide) (by decide) ?_
    show Steps p.tables e below (s₁.setTop (mkF m 17 #[.val (.int kk)] [])) _
    refine XS.iloadN X0.here hx rfl (hb hby d1_17) rfl ?_
    show Steps p.tables e below (s₁.setTop (mkF m 18 #[.val (.int kk)] [(.int kk)])) _
    refine XS.iconst X0.here hx rfl (hb hby d1_18) ?_
    show Steps p.tables e below (s₁.setTop (mkF m 19 #[.val (.int kk)] [(.int (2 : Int32)), (.int kk)])) _
    refine XS.icmpYes X0.here hx rfl (pc0 := 19) (pc' := 26) rfl (hb hby d1_19) rfl (feq hc19_173).2 (by decide) (by decide) ?_
    show Steps p.tables e below (s₁.setTop (mkF m 26 #[.val (.int kk)] [])) _
    refine XS.iloadN X0.here hx rfl (hb hby d1_26) rfl ?_
    show Steps p.tables e below (s₁.setTop (mkF m 27 #[.val (.int kk)] [(.int kk)])) _
    refine XS.iconst X0.here hx rfl (hb hby d1_27) ?_
    show Steps p.tables e below (s₁.setTop (mkF m 28 #[.val (.int kk)] [(.int (3 : Int32)), (.int kk)])) _
    refine XS.icmpYes X0.here hx rfl (pc0 := 28) (pc' := 35) rfl (hb hby d1_28) rfl (feq hc28_174).2 (by decide) (by decide) ?_
    show Steps p.tables e below (s₁.setTop (mkF m 35 #[.val (.int kk)] [])) _
    refine XS.iloadN X0.here hx rfl (hb hby d1_35) rfl ?_
    show Steps p.tables e below (s₁.setTop (mkF m 36 #[.val (.int kk)] [(.int kk)])) _
    refine XS.iconst X0.here hx rfl (hb hby d1_36) ?_
    show Steps p.tables e below (s₁.setTop (mkF m 37 #[.val (.int kk)] [(.int (4 : Int32)), (.int kk)])) _
    refine XS.icmpNo X0.here hx rfl (hb hby d1_37) rfl (teq hc37_175).2 ?_
    show Steps p.tables e below (s₁.setTop (mkF m 40 #[.val (.int kk)] [])) _
    refine st176 _ ?_
    show Steps p.tables e below (T176.setTop (mkF m 43 #[.val (.int kk)] [(.ref xv)])) _
    exact kt
  obtain ⟨fs, hr, hrun, hended, hW, hsame⟩ := X176.leave (v := some (.ref xv)) (fun h => by rw [Bd.returns] at h; cases h)
  refine ⟨_, _, k177 _ (retOut X176 hx Bd.returns rfl (Or.inr (Or.inr (Or.inr (Or.inr ⟨rfl, rfl, rfl⟩)))) (hb hby d1_43) hr), hrun, hended, _, _, rfl, ?_, ⟨_, rfl⟩, hW, hsame.mono (by decide) (by decide)⟩
  show Qpick4 Z kk xv h0 n0 _ T176.heap _
  rw [e176]
  exact ⟨rfl, N0, rfl⟩
theorem d1_44 : decode method_3_code 44 = .ok (.iload_n 0, 1) := by decide +kernel
theorem d1_45 : decode method_3_code 45 = .ok (.iconst 5, 1) := by decide +kernel
theorem d1_46 : decode method_3_code 46 = .ok (.if_icmp .ne 7, 3) := by decide +kernel
theorem d1_49 : decode method_3_code 49 = .ok (.getstatic 42, 3) := by decide +kernel
theorem d1_52 : decode method_3_code 52 = .ok (.areturn, 1) := by decide +kernel
theorem ef_pick5 (m : MethodId) (x0 : Int32) : entryFrame m #[(.int x0)] 1 = mkF m 0 #[.val (.int x0)] [] := by first | (simp [entryFrame, mkF, argsToLocals, Value.category]; done) | rfl
def Qpick5 (Z : State) (kk : Int32) (xv : Addr) (h0 : Heap) (n0 : Nat) (rv_ : Option Value) (h : Heap) (LL_ : List Loc) : Prop := rv_ = some (.ref xv) ∧ Fr n0 LL_ ∧ h = h0
set_option maxRecDepth 65536 in
set_option maxHeartbeats 40000000 in
theorem rmpick5 (l : Launch) (Z : State) (a0 : Array Value) (hw : ∀ d ∈ tables_1, d.before a0 Z = true) (ws : List Jvm.Cond) (kk : Int32) (xv : Addr) (h0 : Heap) (n0 : Nat) (S_DELETE : Sta Z h0 "com/example/grendel/grendel/cli/Verb" "DELETE" "Lcom/example/grendel/grendel/cli/Verb;" (.ref xv)) (hk : kk = (5 : Int32)) :
    MetFree l (⟨"com/example/grendel/grendel/cli/VerbTakesPinLaw", "pick", "(I)Lcom/example/grendel/grendel/cli/Verb;"⟩ : MethodName) (head1 (Jvm.Cond.code (⟨"com/example/grendel/grendel/cli/VerbTakesPinLaw", "pick", "(I)Lcom/example/grendel/grendel/cli/Verb;"⟩ : MethodName) method_3_code 1 (some (.object "com/example/grendel/grendel/cli/Verb")) :: ws) ({ frames := 0, cells := 0, slots := 0, locals := 0 } : Room)) (fun aa UU => aa = #[(.int kk)] ∧ Z.Warmed39 UU.vm ∧ UU.heap = h0) (fun _ _ _ _ _ => True) (fun _ UU oo UV => ∃ vv LL, oo = .returned vv ∧ Qpick5 Z kk xv h0 n0 vv UV.heap LL ∧ FrameEnd UU oo UV LL ({ frames := 0, cells := 0, slots := 0, locals := 0 } : Room).cells ({ frames := 0, cells := 0, slots := 0, locals := 0 } : Room).slots) := by
  refine MetFree.of_bodySF (plainFor_of_name pn_1) hisR ?_
  intro p e s m args below meth c s₁ Bd hml0 hP hK
  obtain ⟨rfl, hZ, hh⟩ := hP
  have hx := Bd.exec
  have hby := Bd.bytes
  have hml : c.maxLocals = 1 := hml0
  have hown : s.vm.findClass "com/example/grendel/grendel/cli/VerbTakesPinLaw" = some m.cls := findClass_of_methodNamed Bd.named
  have hnm := (name_of_methodNamed Bd.named Bd.method).1
  have X0 : Stand p l e ({ frames := 0, cells := 0, slots := 0, locals := 0 } : Room) s m #[(.int kk)] below meth c s₁ [] 0 0 := Stand.of_body Bd
  have e0 : s₁.heap = h0 := by rw [← hh, Bd.state]; rfl
  have N0 := Fr.nil n0
  have k0 : ∀ tg_, Steps p.tables e below (s₁.setTop (mkF m 0 #[.val (.int kk)] [])) tg_ → Steps p.tables e below (s₁.setTop (entryFrame m #[(.int kk)] 1)) tg_ := fun tg_ k => castTop (ef_pick5 m kk) k
  have hc1_178 : ¬ (kk = (0 : Int32)) := (by subst hk; decide)
  have hc10_179 : ¬ (kk = (1 : Int32)) := (by subst hk; decide)
  have hc19_180 : ¬ (kk = (2 : Int32)) := (by subst hk; decide)
  have hc28_181 : ¬ (kk = (3 : Int32)) := (by subst hk; decide)
  have hc37_182 : ¬ (kk = (4 : Int32)) := (by subst hk; decide)
  have hc46_183 : kk = (5 : Int32) := (by subst hk; decide)
  obtain ⟨T184, X184, e184, st184⟩ := getS2 X0 hx hZ hown (host := "") (Or.inl (hw _ (List.mem_of_getElem? (i := 82) rfl))) Via.refl e0 S_DELETE (g := (mkF m 49 #[.val (.int kk)] [])) rfl (hb hby d1_49)
  have k185 : ∀ tg_, Steps p.tables e below (T184.setTop (mkF m 52 #[.val (.int kk)] [(.ref xv)])) tg_ → Steps p.tables e below (s₁.setTop (entryFrame m #[(.int kk)] 1)) tg_ := by
    intro tg_ kt
    refine k0 tg_ ?_
    refine XS.iloadN X0.here hx rfl (hb hby d1_0) rfl ?_
    show Steps p.tables e below (s₁.setTop (mkF m 1 #[.val (.int kk)] [(.int kk)])) _
    refine XS.ifYes X0.here hx rfl (pc0 := 1) (pc' := 8) rfl (hb hby d1_1) rfl ((if0 _ _).trans (feq hc1_178).2) (by decide) (by decide) ?_
    show Steps p.tables e below (s₁.setTop (mkF m 8 #[.val (.int kk)] [])) _
    refine XS.iloadN X0.here hx rfl (hb hby d1_8) rfl ?_
    show Steps p.tables e below (s₁.setTop (mkF m 9 #[.val (.int kk)] [(.int kk)])) _
    refine XS.iconst X0.here hx rfl (hb hby d1_9) ?_
    show Steps p.tables e below (s₁.setTop (mkF m 10 #[.val (.int kk)] [(.int (1 : Int32)), (.int kk)])) _
    refine XS.icmpYes X0.here hx rfl (pc0 := 10) (pc' := 17) rfl (hb hby d1_10) rfl (feq hc10_179).2 (by decide) (by decide) ?_
    show Steps p.tables e below (s₁.setTop (mkF m 17 #[.val (.int kk)] [])) _
    refine XS.iloadN X0.here hx rfl (hb hby d1_17) rfl ?_
    show Steps p.tables e below (s₁.setTop (mkF m 18 #[.val (.int kk)] [(.int kk)])) _
    refine XS.iconst X0.here hx rfl (hb hby d1_18) ?_
    show Steps p.tables e below (s₁.setTop (mkF m 19 #[.val (.int kk)] [(.int (2 : Int32)), (.int kk)])) _
    refine XS.icmpYes X0.here hx rfl (pc0 := 19) (pc' := 26) rfl (hb hby d1_19) rfl (feq hc19_180).2 (by decide) (by decide) ?_
    show Steps p.tables e below (s₁.setTop (mkF m 26 #[.val (.int kk)] [])) _
    refine XS.iloadN X0.here hx rfl (hb hby d1_26) rfl ?_
    show Steps p.tables e below (s₁.setTop (mkF m 27 #[.val (.int kk)] [(.int kk)])) _
    refine XS.iconst X0.here hx rfl (hb hby d1_27) ?_
    show Steps p.tables e below (s₁.setTop (mkF m 28 #[.val (.int kk)] [(.int (3 : Int32)), (.int kk)])) _
    refine XS.icmpYes X0.here hx rfl (pc0 := 28) (pc' := 35) rfl (hb hby d1_28) rfl (feq hc28_181).2 (by decide) (by decide) ?_
    show Steps p.tables e below (s₁.setTop (mkF m 35 #[.val (.int kk)] [])) _
    refine XS.iloadN X0.here hx rfl (hb hby d1_35) rfl ?_
    show Steps p.tables e below (s₁.setTop (mkF m 36 #[.val (.int kk)] [(.int kk)])) _
    refine XS.iconst X0.here hx rfl (hb hby d1_36) ?_
    show Steps p.tables e below (s₁.setTop (mkF m 37 #[.val (.int kk)] [(.int (4 : Int32)), (.int kk)])) _
    refine XS.icmpYes X0.here hx rfl (pc0 := 37) (pc' := 44) rfl (hb hby d1_37) rfl (feq hc37_182).2 (by decide) (by decide) ?_
    show Steps p.tables e below (s₁.setTop (mkF m 44 #[.val (.int kk)] [])) _
    refine XS.iloadN X0.here hx rfl (hb hby d1_44) rfl ?_
    show Steps p.tables e below (s₁.setTop (mkF m 45 #[.val (.int kk)] [(.int kk)])) _
    refine XS.iconst X0.here hx rfl (hb hby d1_45) ?_
    show Steps p.tables e below (s₁.setTop (mkF m 46 #[.val (.int kk)] [(.int (5 : Int32)), (.int kk)])) _
    refine XS.icmpNo X0.here hx rfl (hb hby d1_46) rfl (teq hc46_183).2 ?_
    show Steps p.tables e below (s₁.setTop (mkF m 49 #[.val (.int kk)] [])) _
    refine st184 _ ?_
    show Steps p.tables e below (T184.setTop (mkF m 52 #[.val (.int kk)] [(.ref xv)])) _
    exact kt
  obtain ⟨fs, hr, hrun, hended, hW, hsame⟩ := X184.leave (v := some (.ref xv)) (fun h => by rw [Bd.returns] at h; cases h)
  refine ⟨_, _, k185 _ (retOut X184 hx Bd.returns rfl (Or.inr (Or.inr (Or.inr (Or.inr ⟨rfl, rfl, rfl⟩)))) (hb hby d1_52) hr), hrun, hended, _, _, rfl, ?_, ⟨_, rfl⟩, hW, hsame.mono (by decide) (by decide)⟩
  show Qpick5 Z kk xv h0 n0 _ T184.heap _
  rw [e184]
  exact ⟨rfl, N0, rfl⟩
theorem d1_53 : decode method_3_code 53 = .ok (.iload_n 0, 1) := by decide +kernel
theorem d1_54 : decode method_3_code 54 = .ok (.bipush 6, 2) := by decide +kernel
theorem d1_56 : decode method_3_code 56 = .ok (.if_icmp .ne 7, 3) := by decide +kernel
theorem d1_59 : decode method_3_code 59 = .ok (.getstatic 45, 3) := by decide +kernel
theorem d1_62 : decode method_3_code 62 = .ok (.areturn, 1) := by decide +kernel
theorem ef_pick6 (m : MethodId) (x0 : Int32) : entryFrame m #[(.int x0)] 1 = mkF m 0 #[.val (.int x0)] [] := by first | (simp [entryFrame, mkF, argsToLocals, Value.category]; done) | rfl
def Qpick6 (Z : State) (kk : Int32) (xv : Addr) (h0 : Heap) (n0 : Nat) (rv_ : Option Value) (h : Heap) (LL_ : List Loc) : Prop := rv_ = some (.ref xv) ∧ Fr n0 LL_ ∧ h = h0
set_option maxRecDepth 65536 in
set_option maxHeartbeats 40000000 in
theorem rmpick6 (l : Launch) (Z : State) (a0 : Array Value) (hw : ∀ d ∈ tables_1, d.before a0 Z = true) (ws : List Jvm.Cond) (kk : Int32) (xv : Addr) (h0 : Heap) (n0 : Nat) (S_DELETEALL : Sta Z h0 "com/example/grendel/grendel/cli/Verb" "DELETEALL" "Lcom/example/grendel/grendel/cli/Verb;" (.ref xv)) (hk : kk = (6 : Int32)) :
    MetFree l (⟨"com/example/grendel/grendel/cli/VerbTakesPinLaw", "pick", "(I)Lcom/example/grendel/grendel/cli/Verb;"⟩ : MethodName) (head1 (Jvm.Cond.code (⟨"com/example/grendel/grendel/cli/VerbTakesPinLaw", "pick", "(I)Lcom/example/grendel/grendel/cli/Verb;"⟩ : MethodName) method_3_code 1 (some (.object "com/example/grendel/grendel/cli/Verb")) :: ws) ({ frames := 0, cells := 0, slots := 0, locals := 0 } : Room)) (fun aa UU => aa = #[(.int kk)] ∧ Z.Warmed39 UU.vm ∧ UU.heap = h0) (fun _ _ _ _ _ => True) (fun _ UU oo UV => ∃ vv LL, oo = .returned vv ∧ Qpick6 Z kk xv h0 n0 vv UV.heap LL ∧ FrameEnd UU oo UV LL ({ frames := 0, cells := 0, slots := 0, locals := 0 } : Room).cells ({ frames := 0, cells := 0, slots := 0, locals := 0 } : Room).slots) := by
  refine MetFree.of_bodySF (plainFor_of_name pn_1) hisR ?_
  intro p e s m args below meth c s₁ Bd hml0 hP hK
  obtain ⟨rfl, hZ, hh⟩ := hP
  have hx := Bd.exec
  have hby := Bd.bytes
  have hml : c.maxLocals = 1 := hml0
  have hown : s.vm.findClass "com/example/grendel/grendel/cli/VerbTakesPinLaw" = some m.cls := findClass_of_methodNamed Bd.named
  have hnm := (name_of_methodNamed Bd.named Bd.method).1
  have X0 : Stand p l e ({ frames := 0, cells := 0, slots := 0, locals := 0 } : Room) s m #[(.int kk)] below meth c s₁ [] 0 0 := Stand.of_body Bd
  have e0 : s₁.heap = h0 := by rw [← hh, Bd.state]; rfl
  have N0 := Fr.nil n0
  have k0 : ∀ tg_, Steps p.tables e below (s₁.setTop (mkF m 0 #[.val (.int kk)] [])) tg_ → Steps p.tables e below (s₁.setTop (entryFrame m #[(.int kk)] 1)) tg_ := fun tg_ k => castTop (ef_pick6 m kk) k
  have hc1_186 : ¬ (kk = (0 : Int32)) := (by subst hk; decide)
  have hc10_187 : ¬ (kk = (1 : Int32)) := (by subst hk; decide)
  have hc19_188 : ¬ (kk = (2 : Int32)) := (by subst hk; decide)
  have hc28_189 : ¬ (kk = (3 : Int32)) := (by subst hk; decide)
  have hc37_190 : ¬ (kk = (4 : Int32)) := (by subst hk; decide)
  have hc46_191 : ¬ (kk = (5 : Int32)) := (by subst hk; decide)
  have hc56_192 : kk = (6 : Int32) := (by subst hk; decide)
  obtain ⟨T193, X193, e193, st193⟩ := getS2 X0 hx hZ hown (host := "") (Or.inl (hw _ (List.mem_of_getElem? (i := 72) rfl))) Via.refl e0 S_DELETEALL (g := (mkF m 59 #[.val (.int kk)] [])) rfl (hb hby d1_59)
  have k194 : ∀ tg_, Steps p.tables e below (T193.setTop (mkF m 62 #[.val (.int kk)] [(.ref xv)])) tg_ → Steps p.tables e below (s₁.setTop (entryFrame m #[(.int kk)] 1)) tg_ := by
    intro tg_ kt
    refine k0 tg_ ?_
    refine XS.iloadN X0.here hx rfl (hb hby d1_0) rfl ?_
    show Steps p.tables e below (s₁.setTop (mkF m 1 #[.val (.int kk)] [(.int kk)])) _
    refine XS.ifYes X0.here hx rfl (pc0 := 1) (pc' := 8) rfl (hb hby d1_1) rfl ((if0 _ _).trans (feq hc1_186).2) (by decide) (by decide) ?_
    show Steps p.tables e below (s₁.setTop (mkF m 8 #[.val (.int kk)] [])) _
    refine XS.iloadN X0.here hx rfl (hb hby d1_8) rfl ?_
    show Steps p.tables e below (s₁.setTop (mkF m 9 #[.val (.int kk)] [(.int kk)])) _
    refine XS.iconst X0.here hx rfl (hb hby d1_9) ?_
    show Steps p.tables e below (s₁.setTop (mkF m 10 #[.val (.int kk)] [(.int (1 : Int32)), (.int kk)])) _
    refine XS.icmpYes X0.here hx rfl (pc0 := 10) (pc' := 17) rfl (hb hby d1_10) rfl (feq hc10_187).2 (by decide) (by decide) ?_
    show Steps p.tables e below (s₁.setTop (mkF m 17 #[.val (.int kk)] [])) _
    refine XS.iloadN X0.here hx rfl (hb hby d1_17) rfl ?_
    show Steps p.tables e below (s₁.setTop (mkF m 18 #[.val (.int kk)] [(.int kk)])) _
    refine XS.iconst X0.here hx rfl (hb hby d1_18) ?_
    show Steps p.tables e below (s₁.setTop (mkF m 19 #[.val (.int kk)] [(.int (2 : Int32)), (.int kk)])) _
    refine XS.icmpYes X0.here hx rfl (pc0 := 19) (pc' := 26) rfl (hb hby d1_19) rfl (feq hc19_188).2 (by decide) (by decide) ?_
    show Steps p.tables e below (s₁.setTop (mkF m 26 #[.val (.int kk)] [])) _
    refine XS.iloadN X0.here hx rfl (hb hby d1_26) rfl ?_
    show Steps p.tables e below (s₁.setTop (mkF m 27 #[.val (.int kk)] [(.int kk)])) _
    refine XS.iconst X0.here hx rfl (hb hby d1_27) ?_
    show Steps p.tables e below (s₁.setTop (mkF m 28 #[.val (.int kk)] [(.int (3 : Int32)), (.int kk)])) _
    refine XS.icmpYes X0.here hx rfl (pc0 := 28) (pc' := 35) rfl (hb hby d1_28) rfl (feq hc28_189).2 (by decide) (by decide) ?_
    show Steps p.tables e below (s₁.setTop (mkF m 35 #[.val (.int kk)] [])) _
    refine XS.iloadN X0.here hx rfl (hb hby d1_35) rfl ?_
    show Steps p.tables e below (s₁.setTop (mkF m 36 #[.val (.int kk)] [(.int kk)])) _
    refine XS.iconst X0.here hx rfl (hb hby d1_36) ?_
    show Steps p.tables e below (s₁.setTop (mkF m 37 #[.val (.int kk)] [(.int (4 : Int32)), (.int kk)])) _
    refine XS.icmpYes X0.here hx rfl (pc0 := 37) (pc' := 44) rfl (hb hby d1_37) rfl (feq hc37_190).2 (by decide) (by decide) ?_
    show Steps p.tables e below (s₁.setTop (mkF m 44 #[.val (.int kk)] [])) _
    refine XS.iloadN X0.here hx rfl (hb hby d1_44) rfl ?_
    show Steps p.tables e below (s₁.setTop (mkF m 45 #[.val (.int kk)] [(.int kk)])) _
    refine XS.iconst X0.here hx rfl (hb hby d1_45) ?_
    show Steps p.tables e below (s₁.setTop (mkF m 46 #[.val (.int kk)] [(.int (5 : Int32)), (.int kk)])) _
    refine XS.icmpYes X0.here hx rfl (pc0 := 46) (pc' := 53) rfl (hb hby d1_46) rfl (feq hc46_191).2 (by decide) (by decide) ?_
    show Steps p.tables e below (s₁.setTop (mkF m 53 #[.val (.int kk)] [])) _
    refine XS.iloadN X0.here hx rfl (hb hby d1_53) rfl ?_
    show Steps p.tables e below (s₁.setTop (mkF m 54 #[.val (.int kk)] [(.int kk)])) _
    refine XS.bipush X0.here hx rfl (hb hby d1_54) ?_
    show Steps p.tables e below (s₁.setTop (mkF m 56 #[.val (.int kk)] [(.int (6 : Int32)), (.int kk)])) _
    refine XS.icmpNo X0.here hx rfl (hb hby d1_56) rfl (teq hc56_192).2 ?_
    show Steps p.tables e below (s₁.setTop (mkF m 59 #[.val (.int kk)] [])) _
    refine st193 _ ?_
    show Steps p.tables e below (T193.setTop (mkF m 62 #[.val (.int kk)] [(.ref xv)])) _
    exact kt
  obtain ⟨fs, hr, hrun, hended, hW, hsame⟩ := X193.leave (v := some (.ref xv)) (fun h => by rw [Bd.returns] at h; cases h)
  refine ⟨_, _, k194 _ (retOut X193 hx Bd.returns rfl (Or.inr (Or.inr (Or.inr (Or.inr ⟨rfl, rfl, rfl⟩)))) (hb hby d1_62) hr), hrun, hended, _, _, rfl, ?_, ⟨_, rfl⟩, hW, hsame.mono (by decide) (by decide)⟩
  show Qpick6 Z kk xv h0 n0 _ T193.heap _
  rw [e193]
  exact ⟨rfl, N0, rfl⟩
theorem d1_63 : decode method_3_code 63 = .ok (.iload_n 0, 1) := by decide +kernel
theorem d1_64 : decode method_3_code 64 = .ok (.bipush 7, 2) := by decide +kernel
theorem d1_66 : decode method_3_code 66 = .ok (.if_icmp .ne 7, 3) := by decide +kernel
theorem d1_69 : decode method_3_code 69 = .ok (.getstatic 48, 3) := by decide +kernel
theorem d1_72 : decode method_3_code 72 = .ok (.areturn, 1) := by decide +kernel
theorem ef_pick7 (m : MethodId) (x0 : Int32) : entryFrame m #[(.int x0)] 1 = mkF m 0 #[.val (.int x0)] [] := by first | (simp [entryFrame, mkF, argsToLocals, Value.category]; done) | rfl
def Qpick7 (Z : State) (kk : Int32) (xv : Addr) (h0 : Heap) (n0 : Nat) (rv_ : Option Value) (h : Heap) (LL_ : List Loc) : Prop := rv_ = some (.ref xv) ∧ Fr n0 LL_ ∧ h = h0
set_option maxRecDepth 65536 in
set_option maxHeartbeats 40000000 in
theorem rmpick7 (l : Launch) (Z : State) (a0 : Array Value) (hw : ∀ d ∈ tables_1, d.before a0 Z = true) (ws : List Jvm.Cond) (kk : Int32) (xv : Addr) (h0 : Heap) (n0 : Nat) (S_SYNC : Sta Z h0 "com/example/grendel/grendel/cli/Verb" "SYNC" "Lcom/example/grendel/grendel/cli/Verb;" (.ref xv)) (hk : kk = (7 : Int32)) :
    MetFree l (⟨"com/example/grendel/grendel/cli/VerbTakesPinLaw", "pick", "(I)Lcom/example/grendel/grendel/cli/Verb;"⟩ : MethodName) (head1 (Jvm.Cond.code (⟨"com/example/grendel/grendel/cli/VerbTakesPinLaw", "pick", "(I)Lcom/example/grendel/grendel/cli/Verb;"⟩ : MethodName) method_3_code 1 (some (.object "com/example/grendel/grendel/cli/Verb")) :: ws) ({ frames := 0, cells := 0, slots := 0, locals := 0 } : Room)) (fun aa UU => aa = #[(.int kk)] ∧ Z.Warmed39 UU.vm ∧ UU.heap = h0) (fun _ _ _ _ _ => True) (fun _ UU oo UV => ∃ vv LL, oo = .returned vv ∧ Qpick7 Z kk xv h0 n0 vv UV.heap LL ∧ FrameEnd UU oo UV LL ({ frames := 0, cells := 0, slots := 0, locals := 0 } : Room).cells ({ frames := 0, cells := 0, slots := 0, locals := 0 } : Room).slots) := by
  refine MetFree.of_bodySF (plainFor_of_name pn_1) hisR ?_
  intro p e s m args below meth c s₁ Bd hml0 hP hK
  obtain ⟨rfl, hZ, hh⟩ := hP
  have hx := Bd.exec
  have hby := Bd.bytes
  have hml : c.maxLocals = 1 := hml0
  have hown : s.vm.findClass "com/example/grendel/grendel/cli/VerbTakesPinLaw" = some m.cls := findClass_of_methodNamed Bd.named
  have hnm := (name_of_methodNamed Bd.named Bd.method).1
  have X0 : Stand p l e ({ frames := 0, cells := 0, slots := 0, locals := 0 } : Room) s m #[(.int kk)] below meth c s₁ [] 0 0 := Stand.of_body Bd
  have e0 : s₁.heap = h0 := by rw [← hh, Bd.state]; rfl
  have N0 := Fr.nil n0
  have k0 : ∀ tg_, Steps p.tables e below (s₁.setTop (mkF m 0 #[.val (.int kk)] [])) tg_ → Steps p.tables e below (s₁.setTop (entryFrame m #[(.int kk)] 1)) tg_ := fun tg_ k => castTop (ef_pick7 m kk) k
  have hc1_195 : ¬ (kk = (0 : Int32)) := (by subst hk; decide)
  have hc10_196 : ¬ (kk = (1 : Int32)) := (by subst hk; decide)
  have hc19_197 : ¬ (kk = (2 : Int32)) := (by subst hk; decide)
  have hc28_198 : ¬ (kk = (3 : Int32)) := (by subst hk; decide)
  have hc37_199 : ¬ (kk = (4 : Int32)) := (by subst hk; decide)
  have hc46_200 : ¬ (kk = (5 : Int32)) := (by subst hk; decide)
  have hc56_201 : ¬ (kk = (6 : Int32)) := (by subst hk; decide)
  have hc66_202 : kk = (7 : Int32) := (by subst hk; decide)
  obtain ⟨T203, X203, e203, st203⟩ := getS2 X0 hx hZ hown (host := "") (Or.inl (hw _ (List.mem_of_getElem? (i := 84) rfl))) Via.refl e0 S_SYNC (g := (mkF m 69 #[.val (.int kk)] [])) rfl (hb hby d1_69)
  have k204 : ∀ tg_, Steps p.tables e below (T203.setTop (mkF m 72 #[.val (.int kk)] [(.ref xv)])) tg_ → Steps p.tables e below (s₁.setTop (entryFrame m #[(.int kk)] 1)) tg_ := by
    intro tg_ kt
    refine k0 tg_ ?_
    refine XS.iloadN X0.here hx rfl (hb hby d1_0) rfl ?_
    show Steps p.tables e below (s₁.setTop (mkF m 1 #[.val (.int kk)] [(.int kk)])) _
    refine XS.ifYes X0.here hx rfl (pc0 := 1) (pc' := 8) rfl (hb hby d1_1) rfl ((if0 _ _).trans (feq hc1_195).2) (by decide) (by decide) ?_
    show Steps p.tables e below (s₁.setTop (mkF m 8 #[.val (.int kk)] [])) _
    refine XS.iloadN X0.here hx rfl (hb hby d1_8) rfl ?_
    show Steps p.tables e below (s₁.setTop (mkF m 9 #[.val (.int kk)] [(.int kk)])) _
    refine XS.iconst X0.here hx rfl (hb hby d1_9) ?_
    show Steps p.tables e below (s₁.setTop (mkF m 10 #[.val (.int kk)] [(.int (1 : Int32)), (.int kk)])) _
    refine XS.icmpYes X0.here hx rfl (pc0 := 10) (pc' := 17) rfl (hb hby d1_10) rfl (feq hc10_196).2 (by decide) (by decide) ?_
    show Steps p.tables e below (s₁.setTop (mkF m 17 #[.val (.int kk)] [])) _
    refine XS.iloadN X0.here hx rfl (hb hby d1_17) rfl ?_
    show Steps p.tables e below (s₁.setTop (mkF m 18 #[.val (.int kk)] [(.int kk)])) _
    refine XS.iconst X0.here hx rfl (hb hby d1_18) ?_
    show Steps p.tables e below (s₁.setTop (mkF m 19 #[.val (.int kk)] [(.int (2 : Int32)), (.int kk)])) _
    refine XS.icmpYes X0.here hx rfl (pc0 := 19) (pc' := 26) rfl (hb hby d1_19) rfl (feq hc19_197).2 (by decide) (by decide) ?_
    show Steps p.tables e below (s₁.setTop (mkF m 26 #[.val (.int kk)] [])) _
    refine XS.iloadN X0.here hx rfl (hb hby d1_26) rfl ?_
    show Steps p.tables e below (s₁.setTop (mkF m 27 #[.val (.int kk)] [(.int kk)])) _
    refine XS.iconst X0.here hx rfl (hb hby d1_27) ?_
    show Steps p.tables e below (s₁.setTop (mkF m 28 #[.val (.int kk)] [(.int (3 : Int32)), (.int kk)])) _
    refine XS.icmpYes X0.here hx rfl (pc0 := 28) (pc' := 35) rfl (hb hby d1_28) rfl (feq hc28_198).2 (by decide) (by decide) ?_
    show Steps p.tables e below (s₁.setTop (mkF m 35 #[.val (.int kk)] [])) _
    refine XS.iloadN X0.here hx rfl (hb hby d1_35) rfl ?_
    show Steps p.tables e below (s₁.setTop (mkF m 36 #[.val (.int kk)] [(.int kk)])) _
    refine XS.iconst X0.here hx rfl (hb hby d1_36) ?_
    show Steps p.tables e below (s₁.setTop (mkF m 37 #[.val (.int kk)] [(.int (4 : Int32)), (.int kk)])) _
    refine XS.icmpYes X0.here hx rfl (pc0 := 37) (pc' := 44) rfl (hb hby d1_37) rfl (feq hc37_199).2 (by decide) (by decide) ?_
    show Steps p.tables e below (s₁.setTop (mkF m 44 #[.val (.int kk)] [])) _
    refine XS.iloadN X0.here hx rfl (hb hby d1_44) rfl ?_
    show Steps p.tables e below (s₁.setTop (mkF m 45 #[.val (.int kk)] [(.int kk)])) _
    refine XS.iconst X0.here hx rfl (hb hby d1_45) ?_
    show Steps p.tables e below (s₁.setTop (mkF m 46 #[.val (.int kk)] [(.int (5 : Int32)), (.int kk)])) _
    refine XS.icmpYes X0.here hx rfl (pc0 := 46) (pc' := 53) rfl (hb hby d1_46) rfl (feq hc46_200).2 (by decide) (by decide) ?_
    show Steps p.tables e below (s₁.setTop (mkF m 53 #[.val (.int kk)] [])) _
    refine XS.iloadN X0.here hx rfl (hb hby d1_53) rfl ?_
    show Steps p.tables e below (s₁.setTop (mkF m 54 #[.val (.int kk)] [(.int kk)])) _
    refine XS.bipush X0.here hx rfl (hb hby d1_54) ?_
    show Steps p.tables e below (s₁.setTop (mkF m 56 #[.val (.int kk)] [(.int (6 : Int32)), (.int kk)])) _
    refine XS.icmpYes X0.here hx rfl (pc0 := 56) (pc' := 63) rfl (hb hby d1_56) rfl (feq hc56_201).2 (by decide) (by decide) ?_
    show Steps p.tables e below (s₁.setTop (mkF m 63 #[.val (.int kk)] [])) _
    refine XS.iloadN X0.here hx rfl (hb hby d1_63) rfl ?_
    show Steps p.tables e below (s₁.setTop (mkF m 64 #[.val (.int kk)] [(.int kk)])) _
    refine XS.bipush X0.here hx rfl (hb hby d1_64) ?_
    show Steps p.tables e below (s₁.setTop (mkF m 66 #[.val (.int kk)] [(.int (7 : Int32)), (.int kk)])) _
    refine XS.icmpNo X0.here hx rfl (hb hby d1_66) rfl (teq hc66_202).2 ?_
    show Steps p.tables e below (s₁.setTop (mkF m 69 #[.val (.int kk)] [])) _
    refine st203 _ ?_
    show Steps p.tables e below (T203.setTop (mkF m 72 #[.val (.int kk)] [(.ref xv)])) _
    exact kt
  obtain ⟨fs, hr, hrun, hended, hW, hsame⟩ := X203.leave (v := some (.ref xv)) (fun h => by rw [Bd.returns] at h; cases h)
  refine ⟨_, _, k204 _ (retOut X203 hx Bd.returns rfl (Or.inr (Or.inr (Or.inr (Or.inr ⟨rfl, rfl, rfl⟩)))) (hb hby d1_72) hr), hrun, hended, _, _, rfl, ?_, ⟨_, rfl⟩, hW, hsame.mono (by decide) (by decide)⟩
  show Qpick7 Z kk xv h0 n0 _ T203.heap _
  rw [e203]
  exact ⟨rfl, N0, rfl⟩
theorem d1_73 : decode method_3_code 73 = .ok (.iload_n 0, 1) := by decide +kernel
theorem d1_74 : decode method_3_code 74 = .ok (.bipush 8, 2) := by decide +kernel
theorem d1_76 : decode method_3_code 76 = .ok (.if_icmp .ne 7, 3) := by decide +kernel
theorem d1_79 : decode method_3_code 79 = .ok (.getstatic 51, 3) := by decide +kernel
theorem d1_82 : decode method_3_code 82 = .ok (.areturn, 1) := by decide +kernel
theorem ef_pick8 (m : MethodId) (x0 : Int32) : entryFrame m #[(.int x0)] 1 = mkF m 0 #[.val (.int x0)] [] := by first | (simp [entryFrame, mkF, argsToLocals, Value.category]; done) | rfl
def Qpick8 (Z : State) (kk : Int32) (xv : Addr) (h0 : Heap) (n0 : Nat) (rv_ : Option Value) (h : Heap) (LL_ : List Loc) : Prop := rv_ = some (.ref xv) ∧ Fr n0 LL_ ∧ h = h0
set_option maxRecDepth 65536 in
set_option maxHeartbeats 40000000 in
theorem rmpick8 (l : Launch) (Z : State) (a0 : Array Value) (hw : ∀ d ∈ tables_1, d.before a0 Z = true) (ws : List Jvm.Cond) (kk : Int32) (xv : Addr) (h0 : Heap) (n0 : Nat) (S_HELP : Sta Z h0 "com/example/grendel/grendel/cli/Verb" "HELP" "Lcom/example/grendel/grendel/cli/Verb;" (.ref xv)) (hk : kk = (8 : Int32)) :
    MetFree l (⟨"com/example/grendel/grendel/cli/VerbTakesPinLaw", "pick", "(I)Lcom/example/grendel/grendel/cli/Verb;"⟩ : MethodName) (head1 (Jvm.Cond.code (⟨"com/example/grendel/grendel/cli/VerbTakesPinLaw", "pick", "(I)Lcom/example/grendel/grendel/cli/Verb;"⟩ : MethodName) method_3_code 1 (some (.object "com/example/grendel/grendel/cli/Verb")) :: ws) ({ frames := 0, cells := 0, slots := 0, locals := 0 } : Room)) (fun aa UU => aa = #[(.int kk)] ∧ Z.Warmed39 UU.vm ∧ UU.heap = h0) (fun _ _ _ _ _ => True) (fun _ UU oo UV => ∃ vv LL, oo = .returned vv ∧ Qpick8 Z kk xv h0 n0 vv UV.heap LL ∧ FrameEnd UU oo UV LL ({ frames := 0, cells := 0, slots := 0, locals := 0 } : Room).cells ({ frames := 0, cells := 0, slots := 0, locals := 0 } : Room).slots) := by
  refine MetFree.of_bodySF (plainFor_of_name pn_1) hisR ?_
  intro p e s m args below meth c s₁ Bd hml0 hP hK
  obtain ⟨rfl, hZ, hh⟩ := hP
  have hx := Bd.exec
  have hby := Bd.bytes
  have hml : c.maxLocals = 1 := hml0
  have hown : s.vm.findClass "com/example/grendel/grendel/cli/VerbTakesPinLaw" = some m.cls := findClass_of_methodNamed Bd.named
  have hnm := (name_of_methodNamed Bd.named Bd.method).1
  have X0 : Stand p l e ({ frames := 0, cells := 0, slots := 0, locals := 0 } : Room) s m #[(.int kk)] below meth c s₁ [] 0 0 := Stand.of_body Bd
  have e0 : s₁.heap = h0 := by rw [← hh, Bd.state]; rfl
  have N0 := Fr.nil n0
  have k0 : ∀ tg_, Steps p.tables e below (s₁.setTop (mkF m 0 #[.val (.int kk)] [])) tg_ → Steps p.tables e below (s₁.setTop (entryFrame m #[(.int kk)] 1)) tg_ := fun tg_ k => castTop (ef_pick8 m kk) k
  have hc1_205 : ¬ (kk = (0 : Int32)) := (by subst hk; decide)
  have hc10_206 : ¬ (kk = (1 : Int32)) := (by subst hk; decide)
  have hc19_207 : ¬ (kk = (2 : Int32)) := (by subst hk; decide)
  have hc28_208 : ¬ (kk = (3 : Int32)) := (by subst hk; decide)
  have hc37_209 : ¬ (kk = (4 : Int32)) := (by subst hk; decide)
  have hc46_210 : ¬ (kk = (5 : Int32)) := (by subst hk; decide)
  have hc56_211 : ¬ (kk = (6 : Int32)) := (by subst hk; decide)
  have hc66_212 : ¬ (kk = (7 : Int32)) := (by subst hk; decide)
  have hc76_213 : kk = (8 : Int32) := (by subst hk; decide)
  obtain ⟨T214, X214, e214, st214⟩ := getS2 X0 hx hZ hown (host := "") (Or.inl (hw _ (List.mem_of_getElem? (i := 70) rfl))) Via.refl e0 S_HELP (g := (mkF m 79 #[.val (.int kk)] [])) rfl (hb hby d1_79)
  have k215 : ∀ tg_, Steps p.tables e below (T214.setTop (mkF m 82 #[.val (.int kk)] [(.ref xv)])) tg_ → Steps p.tables e below (s₁.setTop (entryFrame m #[(.int kk)] 1)) tg_ := by
    intro tg_ kt
    refine k0 tg_ ?_
    refine XS.iloadN X0.here hx rfl (hb hby d1_0) rfl ?_
    show Steps p.tables e below (s₁.setTop (mkF m 1 #[.val (.int kk)] [(.int kk)])) _
    refine XS.ifYes X0.here hx rfl (pc0 := 1) (pc' := 8) rfl (hb hby d1_1) rfl ((if0 _ _).trans (feq hc1_205).2) (by decide) (by decide) ?_
    show Steps p.tables e below (s₁.setTop (mkF m 8 #[.val (.int kk)] [])) _
    refine XS.iloadN X0.here hx rfl (hb hby d1_8) rfl ?_
    show Steps p.tables e below (s₁.setTop (mkF m 9 #[.val (.int kk)] [(.int kk)])) _
    refine XS.iconst X0.here hx rfl (hb hby d1_9) ?_
    show Steps p.tables e below (s₁.setTop (mkF m 10 #[.val (.int kk)] [(.int (1 : Int32)), (.int kk)])) _
    refine XS.icmpYes X0.here hx rfl (pc0 := 10) (pc' := 17) rfl (hb hby d1_10) rfl (feq hc10_206).2 (by decide) (by decide) ?_
    show Steps p.tables e below (s₁.setTop (mkF m 17 #[.val (.int kk)] [])) _
    refine XS.iloadN X0.here hx rfl (hb hby d1_17) rfl ?_
    show Steps p.tables e below (s₁.setTop (mkF m 18 #[.val (.int kk)] [(.int kk)])) _
    refine XS.iconst X0.here hx rfl (hb hby d1_18) ?_
    show Steps p.tables e below (s₁.setTop (mkF m 19 #[.val (.int kk)] [(.int (2 : Int32)), (.int kk)])) _
    refine XS.icmpYes X0.here hx rfl (pc0 := 19) (pc' := 26) rfl (hb hby d1_19) rfl (feq hc19_207).2 (by decide) (by decide) ?_
    show Steps p.tables e below (s₁.setTop (mkF m 26 #[.val (.int kk)] [])) _
    refine XS.iloadN X0.here hx rfl (hb hby d1_26) rfl ?_
    show Steps p.tables e below (s₁.setTop (mkF m 27 #[.val (.int kk)] [(.int kk)])) _
    refine XS.iconst X0.here hx rfl (hb hby d1_27) ?_
    show Steps p.tables e below (s₁.setTop (mkF m 28 #[.val (.int kk)] [(.int (3 : Int32)), (.int kk)])) _
    refine XS.icmpYes X0.here hx rfl (pc0 := 28) (pc' := 35) rfl (hb hby d1_28) rfl (feq hc28_208).2 (by decide) (by decide) ?_
    show Steps p.tables e below (s₁.setTop (mkF m 35 #[.val (.int kk)] [])) _
    refine XS.iloadN X0.here hx rfl (hb hby d1_35) rfl ?_
    show Steps p.tables e below (s₁.setTop (mkF m 36 #[.val (.int kk)] [(.int kk)])) _
    refine XS.iconst X0.here hx rfl (hb hby d1_36) ?_
    show Steps p.tables e below (s₁.setTop (mkF m 37 #[.val (.int kk)] [(.int (4 : Int32)), (.int kk)])) _
    refine XS.icmpYes X0.here hx rfl (pc0 := 37) (pc' := 44) rfl (hb hby d1_37) rfl (feq hc37_209).2 (by decide) (by decide) ?_
    show Steps p.tables e below (s₁.setTop (mkF m 44 #[.val (.int kk)] [])) _
    refine XS.iloadN X0.here hx rfl (hb hby d1_44) rfl ?_
    show Steps p.tables e below (s₁.setTop (mkF m 45 #[.val (.int kk)] [(.int kk)])) _
    refine XS.iconst X0.here hx rfl (hb hby d1_45) ?_
    show Steps p.tables e below (s₁.setTop (mkF m 46 #[.val (.int kk)] [(.int (5 : Int32)), (.int kk)])) _
    refine XS.icmpYes X0.here hx rfl (pc0 := 46) (pc' := 53) rfl (hb hby d1_46) rfl (feq hc46_210).2 (by decide) (by decide) ?_
    show Steps p.tables e below (s₁.setTop (mkF m 53 #[.val (.int kk)] [])) _
    refine XS.iloadN X0.here hx rfl (hb hby d1_53) rfl ?_
    show Steps p.tables e below (s₁.setTop (mkF m 54 #[.val (.int kk)] [(.int kk)])) _
    refine XS.bipush X0.here hx rfl (hb hby d1_54) ?_
    show Steps p.tables e below (s₁.setTop (mkF m 56 #[.val (.int kk)] [(.int (6 : Int32)), (.int kk)])) _
    refine XS.icmpYes X0.here hx rfl (pc0 := 56) (pc' := 63) rfl (hb hby d1_56) rfl (feq hc56_211).2 (by decide) (by decide) ?_
    show Steps p.tables e below (s₁.setTop (mkF m 63 #[.val (.int kk)] [])) _
    refine XS.iloadN X0.here hx rfl (hb hby d1_63) rfl ?_
    show Steps p.tables e below (s₁.setTop (mkF m 64 #[.val (.int kk)] [(.int kk)])) _
    refine XS.bipush X0.here hx rfl (hb hby d1_64) ?_
    show Steps p.tables e below (s₁.setTop (mkF m 66 #[.val (.int kk)] [(.int (7 : Int32)), (.int kk)])) _
    refine XS.icmpYes X0.here hx rfl (pc0 := 66) (pc' := 73) rfl (hb hby d1_66) rfl (feq hc66_212).2 (by decide) (by decide) ?_
    show Steps p.tables e below (s₁.setTop (mkF m 73 #[.val (.int kk)] [])) _
    refine XS.iloadN X0.here hx rfl (hb hby d1_73) rfl ?_
    show Steps p.tables e below (s₁.setTop (mkF m 74 #[.val (.int kk)] [(.int kk)])) _
    refine XS.bipush X0.here hx rfl (hb hby d1_74) ?_
    show Steps p.tables e below (s₁.setTop (mkF m 76 #[.val (.int kk)] [(.int (8 : Int32)), (.int kk)])) _
    refine XS.icmpNo X0.here hx rfl (hb hby d1_76) rfl (teq hc76_213).2 ?_
    show Steps p.tables e below (s₁.setTop (mkF m 79 #[.val (.int kk)] [])) _
    refine st214 _ ?_
    show Steps p.tables e below (T214.setTop (mkF m 82 #[.val (.int kk)] [(.ref xv)])) _
    exact kt
  obtain ⟨fs, hr, hrun, hended, hW, hsame⟩ := X214.leave (v := some (.ref xv)) (fun h => by rw [Bd.returns] at h; cases h)
  refine ⟨_, _, k215 _ (retOut X214 hx Bd.returns rfl (Or.inr (Or.inr (Or.inr (Or.inr ⟨rfl, rfl, rfl⟩)))) (hb hby d1_82) hr), hrun, hended, _, _, rfl, ?_, ⟨_, rfl⟩, hW, hsame.mono (by decide) (by decide)⟩
  show Qpick8 Z kk xv h0 n0 _ T214.heap _
  rw [e214]
  exact ⟨rfl, N0, rfl⟩
theorem d1_83 : decode method_3_code 83 = .ok (.getstatic 54, 3) := by decide +kernel
theorem d1_86 : decode method_3_code 86 = .ok (.areturn, 1) := by decide +kernel
theorem ef_pick9 (m : MethodId) (x0 : Int32) : entryFrame m #[(.int x0)] 1 = mkF m 0 #[.val (.int x0)] [] := by first | (simp [entryFrame, mkF, argsToLocals, Value.category]; done) | rfl
def Qpick9 (Z : State) (kk : Int32) (xv : Addr) (h0 : Heap) (n0 : Nat) (rv_ : Option Value) (h : Heap) (LL_ : List Loc) : Prop := rv_ = some (.ref xv) ∧ Fr n0 LL_ ∧ h = h0
set_option maxRecDepth 65536 in
set_option maxHeartbeats 40000000 in
theorem rmpick9 (l : Launch) (Z : State) (a0 : Array Value) (hw : ∀ d ∈ tables_1, d.before a0 Z = true) (ws : List Jvm.Cond) (kk : Int32) (xv : Addr) (h0 : Heap) (n0 : Nat) (S_QUIT : Sta Z h0 "com/example/grendel/grendel/cli/Verb" "QUIT" "Lcom/example/grendel/grendel/cli/Verb;" (.ref xv)) (hk : kk = (9 : Int32)) :
    MetFree l (⟨"com/example/grendel/grendel/cli/VerbTakesPinLaw", "pick", "(I)Lcom/example/grendel/grendel/cli/Verb;"⟩ : MethodName) (head1 (Jvm.Cond.code (⟨"com/example/grendel/grendel/cli/VerbTakesPinLaw", "pick", "(I)Lcom/example/grendel/grendel/cli/Verb;"⟩ : MethodName) method_3_code 1 (some (.object "com/example/grendel/grendel/cli/Verb")) :: ws) ({ frames := 0, cells := 0, slots := 0, locals := 0 } : Room)) (fun aa UU => aa = #[(.int kk)] ∧ Z.Warmed39 UU.vm ∧ UU.heap = h0) (fun _ _ _ _ _ => True) (fun _ UU oo UV => ∃ vv LL, oo = .returned vv ∧ Qpick9 Z kk xv h0 n0 vv UV.heap LL ∧ FrameEnd UU oo UV LL ({ frames := 0, cells := 0, slots := 0, locals := 0 } : Room).cells ({ frames := 0, cells := 0, slots := 0, locals := 0 } : Room).slots) := by
  refine MetFree.of_bodySF (plainFor_of_name pn_1) hisR ?_
  intro p e s m args below meth c s₁ Bd hml0 hP hK
  obtain ⟨rfl, hZ, hh⟩ := hP
  have hx := Bd.exec
  have hby := Bd.bytes
  have hml : c.maxLocals = 1 := hml0
  have hown : s.vm.findClass "com/example/grendel/grendel/cli/VerbTakesPinLaw" = some m.cls := findClass_of_methodNamed Bd.named
  have hnm := (name_of_methodNamed Bd.named Bd.method).1
  have X0 : Stand p l e ({ frames := 0, cells := 0, slots := 0, locals := 0 } : Room) s m #[(.int kk)] below meth c s₁ [] 0 0 := Stand.of_body Bd
  have e0 : s₁.heap = h0 := by rw [← hh, Bd.state]; rfl
  have N0 := Fr.nil n0
  have k0 : ∀ tg_, Steps p.tables e below (s₁.setTop (mkF m 0 #[.val (.int kk)] [])) tg_ → Steps p.tables e below (s₁.setTop (entryFrame m #[(.int kk)] 1)) tg_ := fun tg_ k => castTop (ef_pick9 m kk) k
  have hc1_216 : ¬ (kk = (0 : Int32)) := (by subst hk; decide)
  have hc10_217 : ¬ (kk = (1 : Int32)) := (by subst hk; decide)
  have hc19_218 : ¬ (kk = (2 : Int32)) := (by subst hk; decide)
  have hc28_219 : ¬ (kk = (3 : Int32)) := (by subst hk; decide)
  have hc37_220 : ¬ (kk = (4 : Int32)) := (by subst hk; decide)
  have hc46_221 : ¬ (kk = (5 : Int32)) := (by subst hk; decide)
  have hc56_222 : ¬ (kk = (6 : Int32)) := (by subst hk; decide)
  have hc66_223 : ¬ (kk = (7 : Int32)) := (by subst hk; decide)
  have hc76_224 : ¬ (kk = (8 : Int32)) := (by subst hk; decide)
  obtain ⟨T225, X225, e225, st225⟩ := getS2 X0 hx hZ hown (host := "") (Or.inl (hw _ (List.mem_of_getElem? (i := 74) rfl))) Via.refl e0 S_QUIT (g := (mkF m 83 #[.val (.int kk)] [])) rfl (hb hby d1_83)
  have k226 : ∀ tg_, Steps p.tables e below (T225.setTop (mkF m 86 #[.val (.int kk)] [(.ref xv)])) tg_ → Steps p.tables e below (s₁.setTop (entryFrame m #[(.int kk)] 1)) tg_ := by
    intro tg_ kt
    refine k0 tg_ ?_
    refine XS.iloadN X0.here hx rfl (hb hby d1_0) rfl ?_
    show Steps p.tables e below (s₁.setTop (mkF m 1 #[.val (.int kk)] [(.int kk)])) _
    refine XS.ifYes X0.here hx rfl (pc0 := 1) (pc' := 8) rfl (hb hby d1_1) rfl ((if0 _ _).trans (feq hc1_216).2) (by decide) (by decide) ?_
    show Steps p.tables e below (s₁.setTop (mkF m 8 #[.val (.int kk)] [])) _
    refine XS.iloadN X0.here hx rfl (hb hby d1_8) rfl ?_
    show Steps p.tables e below (s₁.setTop (mkF m 9 #[.val (.int kk)] [(.int kk)])) _
    refine XS.iconst X0.here hx rfl (hb hby d1_9) ?_
    show Steps p.tables e below (s₁.setTop (mkF m 10 #[.val (.int kk)] [(.int (1 : Int32)), (.int kk)])) _
    refine XS.icmpYes X0.here hx rfl (pc0 := 10) (pc' := 17) rfl (hb hby d1_10) rfl (feq hc10_217).2 (by decide) (by decide) ?_
    show Steps p.tables e below (s₁.setTop (mkF m 17 #[.val (.int kk)] [])) _
    refine XS.iloadN X0.here hx rfl (hb hby d1_17) rfl ?_
    show Steps p.tables e below (s₁.setTop (mkF m 18 #[.val (.int kk)] [(.int kk)])) _
    refine XS.iconst X0.here hx rfl (hb hby d1_18) ?_
    show Steps p.tables e below (s₁.setTop (mkF m 19 #[.val (.int kk)] [(.int (2 : Int32)), (.int kk)])) _
    refine XS.icmpYes X0.here hx rfl (pc0 := 19) (pc' := 26) rfl (hb hby d1_19) rfl (feq hc19_218).2 (by decide) (by decide) ?_
    show Steps p.tables e below (s₁.setTop (mkF m 26 #[.val (.int kk)] [])) _
    refine XS.iloadN X0.here hx rfl (hb hby d1_26) rfl ?_
    show Steps p.tables e below (s₁.setTop (mkF m 27 #[.val (.int kk)] [(.int kk)])) _
    refine XS.iconst X0.here hx rfl (hb hby d1_27) ?_
    show Steps p.tables e below (s₁.setTop (mkF m 28 #[.val (.int kk)] [(.int (3 : Int32)), (.int kk)])) _
    refine XS.icmpYes X0.here hx rfl (pc0 := 28) (pc' := 35) rfl (hb hby d1_28) rfl (feq hc28_219).2 (by decide) (by decide) ?_
    show Steps p.tables e below (s₁.setTop (mkF m 35 #[.val (.int kk)] [])) _
    refine XS.iloadN X0.here hx rfl (hb hby d1_35) rfl ?_
    show Steps p.tables e below (s₁.setTop (mkF m 36 #[.val (.int kk)] [(.int kk)])) _
    refine XS.iconst X0.here hx rfl (hb hby d1_36) ?_
    show Steps p.tables e below (s₁.setTop (mkF m 37 #[.val (.int kk)] [(.int (4 : Int32)), (.int kk)])) _
    refine XS.icmpYes X0.here hx rfl (pc0 := 37) (pc' := 44) rfl (hb hby d1_37) rfl (feq hc37_220).2 (by decide) (by decide) ?_
    show Steps p.tables e below (s₁.setTop (mkF m 44 #[.val (.int kk)] [])) _
    refine XS.iloadN X0.here hx rfl (hb hby d1_44) rfl ?_
    show Steps p.tables e below (s₁.setTop (mkF m 45 #[.val (.int kk)] [(.int kk)])) _
    refine XS.iconst X0.here hx rfl (hb hby d1_45) ?_
    show Steps p.tables e below (s₁.setTop (mkF m 46 #[.val (.int kk)] [(.int (5 : Int32)), (.int kk)])) _
    refine XS.icmpYes X0.here hx rfl (pc0 := 46) (pc' := 53) rfl (hb hby d1_46) rfl (feq hc46_221).2 (by decide) (by decide) ?_
    show Steps p.tables e below (s₁.setTop (mkF m 53 #[.val (.int kk)] [])) _
    refine XS.iloadN X0.here hx rfl (hb hby d1_53) rfl ?_
    show Steps p.tables e below (s₁.setTop (mkF m 54 #[.val (.int kk)] [(.int kk)])) _
    refine XS.bipush X0.here hx rfl (hb hby d1_54) ?_
    show Steps p.tables e below (s₁.setTop (mkF m 56 #[.val (.int kk)] [(.int (6 : Int32)), (.int kk)])) _
    refine XS.icmpYes X0.here hx rfl (pc0 := 56) (pc' := 63) rfl (hb hby d1_56) rfl (feq hc56_222).2 (by decide) (by decide) ?_
    show Steps p.tables e below (s₁.setTop (mkF m 63 #[.val (.int kk)] [])) _
    refine XS.iloadN X0.here hx rfl (hb hby d1_63) rfl ?_
    show Steps p.tables e below (s₁.setTop (mkF m 64 #[.val (.int kk)] [(.int kk)])) _
    refine XS.bipush X0.here hx rfl (hb hby d1_64) ?_
    show Steps p.tables e below (s₁.setTop (mkF m 66 #[.val (.int kk)] [(.int (7 : Int32)), (.int kk)])) _
    refine XS.icmpYes X0.here hx rfl (pc0 := 66) (pc' := 73) rfl (hb hby d1_66) rfl (feq hc66_223).2 (by decide) (by decide) ?_
    show Steps p.tables e below (s₁.setTop (mkF m 73 #[.val (.int kk)] [])) _
    refine XS.iloadN X0.here hx rfl (hb hby d1_73) rfl ?_
    show Steps p.tables e below (s₁.setTop (mkF m 74 #[.val (.int kk)] [(.int kk)])) _
    refine XS.bipush X0.here hx rfl (hb hby d1_74) ?_
    show Steps p.tables e below (s₁.setTop (mkF m 76 #[.val (.int kk)] [(.int (8 : Int32)), (.int kk)])) _
    refine XS.icmpYes X0.here hx rfl (pc0 := 76) (pc' := 83) rfl (hb hby d1_76) rfl (feq hc76_224).2 (by decide) (by decide) ?_
    show Steps p.tables e below (s₁.setTop (mkF m 83 #[.val (.int kk)] [])) _
    refine st225 _ ?_
    show Steps p.tables e below (T225.setTop (mkF m 86 #[.val (.int kk)] [(.ref xv)])) _
    exact kt
  obtain ⟨fs, hr, hrun, hended, hW, hsame⟩ := X225.leave (v := some (.ref xv)) (fun h => by rw [Bd.returns] at h; cases h)
  refine ⟨_, _, k226 _ (retOut X225 hx Bd.returns rfl (Or.inr (Or.inr (Or.inr (Or.inr ⟨rfl, rfl, rfl⟩)))) (hb hby d1_86) hr), hrun, hended, _, _, rfl, ?_, ⟨_, rfl⟩, hW, hsame.mono (by decide) (by decide)⟩
  show Qpick9 Z kk xv h0 n0 _ T225.heap _
  rw [e225]
  exact ⟨rfl, N0, rfl⟩
theorem own_256 {P : Int32 → Prop} (h : ∀ n : Fin 256, P (Int32.ofNat n.val)) (ch : Int32) (a : ¬ ch < (0 : Int32)) (b : ¬ (255 : Int32) < ch) : P ch := by
  rw [Int32.lt_iff_toInt_lt] at a b
  have o0 : (0 : Int32).toInt = 0 := by decide
  have o2 : (255 : Int32).toInt = 255 := by decide
  rw [o0] at a; rw [o2] at b
  have q := h ⟨ch.toInt.toNat, by omega⟩
  have e : Int32.ofNat ch.toInt.toNat = ch := by
    apply Int32.toInt_inj.mp
    rw [Int32.toInt_ofNat_of_lt (by omega)]; omega
  simpa only [e] using q
theorem own_ce0 {ch : Int32} (h : own_ce ch = 0) : ¬ ch = 115 ∧ ¬ ch = 101 ∧ ¬ ch = 118 := ⟨by rintro rfl; revert h; decide, by rintro rfl; revert h; decide, by rintro rfl; revert h; decide⟩
theorem own_ce1 {ch : Int32} (h : ¬ own_ce ch = 0) : ¬ ch < (0 : Int32) ∧ ¬ (255 : Int32) < ch := ⟨fun q => h (by rw [own_ce, if_pos q]), fun q => h (by rw [own_ce]; split <;> first | rfl | rw [if_pos q])⟩
theorem own_lw0 (ch k : Int32) (h : k = (0 : Int32)) : own_tk_1 ch (115 : Int32) = own_exp k ch := by
  subst h
  by_cases q : own_ce ch = 0
  · obtain ⟨a, b, d⟩ := own_ce0 q
    have e : own_exp (0 : Int32) ch = 0 := by simp only [own_exp, if_neg a, if_neg b, if_neg d]; decide
    rw [e]; simp only [own_tk_1, own_ix_1, own_ii_1, own_io_1, if_pos q]; split; rfl; decide
  · obtain ⟨a, b⟩ := own_ce1 q
    exact own_256 (P := fun ch => own_tk_1 ch (115 : Int32) = own_exp (0 : Int32) ch) (by decide +kernel) ch a b
theorem own_lw1 (ch k : Int32) (h : k = (1 : Int32)) : own_tk_2 ch (115 : Int32) (101 : Int32) = own_exp k ch := by
  subst h
  by_cases q : own_ce ch = 0
  · obtain ⟨a, b, d⟩ := own_ce0 q
    have e : own_exp (1 : Int32) ch = 0 := by simp only [own_exp, if_neg a, if_neg b, if_neg d]; decide
    rw [e]; simp only [own_tk_2, own_ix_2, own_ii_2, own_io_2, if_pos q]; split; rfl; decide
  · obtain ⟨a, b⟩ := own_ce1 q
    exact own_256 (P := fun ch => own_tk_2 ch (115 : Int32) (101 : Int32) = own_exp (1 : Int32) ch) (by decide +kernel) ch a b
theorem own_lw2 (ch k : Int32) (h : k = (2 : Int32)) : own_tk_1 ch (115 : Int32) = own_exp k ch := by
  subst h
  by_cases q : own_ce ch = 0
  · obtain ⟨a, b, d⟩ := own_ce0 q
    have e : own_exp (2 : Int32) ch = 0 := by simp only [own_exp, if_neg a, if_neg b, if_neg d]; decide
    rw [e]; simp only [own_tk_1, own_ix_1, own_ii_1, own_io_1, if_pos q]; split; rfl; decide
  · obtain ⟨a, b⟩ := own_ce1 q
    exact own_256 (P := fun ch => own_tk_1 ch (115 : Int32) = own_exp (2 : Int32) ch) (by decide +kernel) ch a b
theorem own_lw3 (ch k : Int32) (h : k = (3 : Int32)) : own_tk_0 ch = own_exp k ch := by
  subst h
  by_cases q : own_ce ch = 0
  · obtain ⟨a, b, d⟩ := own_ce0 q
    have e : own_exp (3 : Int32) ch = 0 := by simp only [own_exp, if_neg a, if_neg b, if_neg d]; decide
    rw [e]; simp only [own_tk_0, own_ix_0, own_ii_0, own_io_0, if_pos q]; split; rfl; decide
  · obtain ⟨a, b⟩ := own_ce1 q
    exact own_256 (P := fun ch => own_tk_0 ch = own_exp (3 : Int32) ch) (by decide +kernel) ch a b
theorem own_lw4 (ch k : Int32) (h : k = (4 : Int32)) : own_tk_0 ch = own_exp k ch := by
  subst h
  by_cases q : own_ce ch = 0
  · obtain ⟨a, b, d⟩ := own_ce0 q
    have e : own_exp (4 : Int32) ch = 0 := by simp only [own_exp, if_neg a, if_neg b, if_neg d]; decide
    rw [e]; simp only [own_tk_0, own_ix_0, own_ii_0, own_io_0, if_pos q]; split; rfl; decide
  · obtain ⟨a, b⟩ := own_ce1 q
    exact own_256 (P := fun ch => own_tk_0 ch = own_exp (4 : Int32) ch) (by decide +kernel) ch a b
theorem own_lw5 (ch k : Int32) (h : k = (5 : Int32)) : own_tk_2 ch (118 : Int32) (58 : Int32) = own_exp k ch := by
  subst h
  by_cases q : own_ce ch = 0
  · obtain ⟨a, b, d⟩ := own_ce0 q
    have e : own_exp (5 : Int32) ch = 0 := by simp only [own_exp, if_neg a, if_neg b, if_neg d]; decide
    rw [e]; simp only [own_tk_2, own_ix_2, own_ii_2, own_io_2, if_pos q]; split; rfl; decide
  · obtain ⟨a, b⟩ := own_ce1 q
    exact own_256 (P := fun ch => own_tk_2 ch (118 : Int32) (58 : Int32) = own_exp (5 : Int32) ch) (by decide +kernel) ch a b
theorem own_lw6 (ch k : Int32) (h : k = (6 : Int32)) : own_tk_0 ch = own_exp k ch := by
  subst h
  by_cases q : own_ce ch = 0
  · obtain ⟨a, b, d⟩ := own_ce0 q
    have e : own_exp (6 : Int32) ch = 0 := by simp only [own_exp, if_neg a, if_neg b, if_neg d]; decide
    rw [e]; simp only [own_tk_0, own_ix_0, own_ii_0, own_io_0, if_pos q]; split; rfl; decide
  · obtain ⟨a, b⟩ := own_ce1 q
    exact own_256 (P := fun ch => own_tk_0 ch = own_exp (6 : Int32) ch) (by decide +kernel) ch a b
theorem own_lw7 (ch k : Int32) (h : k = (7 : Int32)) : own_tk_0 ch = own_exp k ch := by
  subst h
  by_cases q : own_ce ch = 0
  · obtain ⟨a, b, d⟩ := own_ce0 q
    have e : own_exp (7 : Int32) ch = 0 := by simp only [own_exp, if_neg a, if_neg b, if_neg d]; decide
    rw [e]; simp only [own_tk_0, own_ix_0, own_ii_0, own_io_0, if_pos q]; split; rfl; decide
  · obtain ⟨a, b⟩ := own_ce1 q
    exact own_256 (P := fun ch => own_tk_0 ch = own_exp (7 : Int32) ch) (by decide +kernel) ch a b
theorem own_lw8 (ch k : Int32) (h : k = (8 : Int32)) : own_tk_0 ch = own_exp k ch := by
  subst h
  by_cases q : own_ce ch = 0
  · obtain ⟨a, b, d⟩ := own_ce0 q
    have e : own_exp (8 : Int32) ch = 0 := by simp only [own_exp, if_neg a, if_neg b, if_neg d]; decide
    rw [e]; simp only [own_tk_0, own_ix_0, own_ii_0, own_io_0, if_pos q]; split; rfl; decide
  · obtain ⟨a, b⟩ := own_ce1 q
    exact own_256 (P := fun ch => own_tk_0 ch = own_exp (8 : Int32) ch) (by decide +kernel) ch a b
theorem own_lw9 (ch k : Int32) (h : k = (9 : Int32)) : own_tk_0 ch = own_exp k ch := by
  subst h
  by_cases q : own_ce ch = 0
  · obtain ⟨a, b, d⟩ := own_ce0 q
    have e : own_exp (9 : Int32) ch = 0 := by simp only [own_exp, if_neg a, if_neg b, if_neg d]; decide
    rw [e]; simp only [own_tk_0, own_ix_0, own_ii_0, own_io_0, if_pos q]; split; rfl; decide
  · obtain ⟨a, b⟩ := own_ce1 q
    exact own_256 (P := fun ch => own_tk_0 ch = own_exp (9 : Int32) ch) (by decide +kernel) ch a b
theorem pd_0 : parseMethodDescriptor "(I)Lcom/example/grendel/grendel/cli/Verb;" = some ⟨[.int], some (.object "com/example/grendel/grendel/cli/Verb")⟩ := by decide +kernel
theorem pd_1 : parseMethodDescriptor "(IC)Z" = some ⟨[.int, .char], some .boolean⟩ := by decide +kernel
theorem pd_2 : parseMethodDescriptor "(C)Z" = some ⟨[.char], some .boolean⟩ := by decide +kernel
theorem pn_0 : plainName "com/example/grendel/grendel/cli/VerbTakesPinLaw" = true := by first | (simp [plainName, overriddenIn]; done) | decide +kernel
theorem ef_0 (m : MethodId) (x0 : Int32) (x1 : Int32) : entryFrame m #[(.int x0), (.int x1)] maxLocals = mkF m 0 #[.val (.int x0), .val (.int x1), .unset, .unset, .unset, .unset] [] := by first | (simp [entryFrame, mkF, argsToLocals, Value.category, maxLocals]; done) | rfl
def Q0 (Z : State) (p0 : Int32) (p1 : Int32) (zc : Int32) (ol : Addr) (olv : Addr) (fol : Nat → Int32) (oc : Addr) (ocv : Addr) (foc : Nat → Int32) (od : Addr) (odv : Addr) (fod : Nat → Int32) (oe : Addr) (oev : Addr) (foe : Nat → Int32) (vls : Addr) (vcr : Addr) (vge : Addr) (vse : Addr) (vst : Addr) (vde : Addr) (vda : Addr) (vsy : Addr) (vhe : Addr) (vqu : Addr) (h0 : Heap) (n0 : Nat) (rv_ : Option Value) (h : Heap) (LL_ : List Loc) : Prop := rv_ = some (.int 1) ∧ Fr n0 LL_
set_option maxRecDepth 65536 in
set_option maxHeartbeats 40000000 in
theorem rm0 (l : Launch) (Z : State) (a0 : Array Value) (hw : ∀ d ∈ tables_1, d.before a0 Z = true) (ws : List Jvm.Cond) (p0 : Int32) (p1 : Int32) (zc : Int32) (ol : Addr) (olv : Addr) (fol : Nat → Int32) (oc : Addr) (ocv : Addr) (foc : Nat → Int32) (od : Addr) (odv : Addr) (fod : Nat → Int32) (oe : Addr) (oev : Addr) (foe : Nat → Int32) (vls : Addr) (vcr : Addr) (vge : Addr) (vse : Addr) (vst : Addr) (vde : Addr) (vda : Addr) (vsy : Addr) (vhe : Addr) (vqu : Addr) (h0 : Heap) (n0 : Nat) (Z0 : n0 ≤ h0.size) (S_cs : Sta Z h0 "java/lang/String" "COMPACT_STRINGS" "Z" (.int zc)) (hz : ¬ zc = (0 : Int32)) (S_vls : Sta Z h0 "com/example/grendel/grendel/cli/Verb" "LS" "Lcom/example/grendel/grendel/cli/Verb;" (.ref vls)) (E_vls : Exa Z h0 vls "com/example/grendel/grendel/cli/Verb") (F_vls : Fld Z h0 vls "com/example/grendel/grendel/cli/Verb" "options" "Ljava/lang/String;" (.ref ol)) (S_vcr : Sta Z h0 "com/example/grendel/grendel/cli/Verb" "CREATE" "Lcom/example/grendel/grendel/cli/Verb;" (.ref vcr)) (E_vcr : Exa Z h0 vcr "com/example/grendel/grendel/cli/Verb") (F_vcr : Fld Z h0 vcr "com/example/grendel/grendel/cli/Verb" "options" "Ljava/lang/String;" (.ref oc)) (S_vge : Sta Z h0 "com/example/grendel/grendel/cli/Verb" "GET" "Lcom/example/grendel/grendel/cli/Verb;" (.ref vge)) (E_vge : Exa Z h0 vge "com/example/grendel/grendel/cli/Verb") (F_vge : Fld Z h0 vge "com/example/grendel/grendel/cli/Verb" "options" "Ljava/lang/String;" (.ref ol)) (S_vse : Sta Z h0 "com/example/grendel/grendel/cli/Verb" "SET" "Lcom/example/grendel/grendel/cli/Verb;" (.ref vse)) (E_vse : Exa Z h0 vse "com/example/grendel/grendel/cli/Verb") (F_vse : Fld Z h0 vse "com/example/grendel/grendel/cli/Verb" "options" "Ljava/lang/String;" (.ref oe)) (S_vst : Sta Z h0 "com/example/grendel/grendel/cli/Verb" "STAT" "Lcom/example/grendel/grendel/cli/Verb;" (.ref vst)) (E_vst : Exa Z h0 vst "com/example/grendel/grendel/cli/Verb") (F_vst : Fld Z h0 vst "com/example/grendel/grendel/cli/Verb" "options" "Ljava/lang/String;" (.ref oe)) (S_vde : Sta Z h0 "com/example/grendel/grendel/cli/Verb" "DELETE" "Lcom/example/grendel/grendel/cli/Verb;" (.ref vde)) (E_vde : Exa Z h0 vde "com/example/grendel/grendel/cli/Verb") (F_vde : Fld Z h0 vde "com/example/grendel/grendel/cli/Verb" "options" "Ljava/lang/String;" (.ref od)) (S_vda : Sta Z h0 "com/example/grendel/grendel/cli/Verb" "DELETEALL" "Lcom/example/grendel/grendel/cli/Verb;" (.ref vda)) (E_vda : Exa Z h0 vda "com/example/grendel/grendel/cli/Verb") (F_vda : Fld Z h0 vda "com/example/grendel/grendel/cli/Verb" "options" "Ljava/lang/String;" (.ref oe)) (S_vsy : Sta Z h0 "com/example/grendel/grendel/cli/Verb" "SYNC" "Lcom/example/grendel/grendel/cli/Verb;" (.ref vsy)) (E_vsy : Exa Z h0 vsy "com/example/grendel/grendel/cli/Verb") (F_vsy : Fld Z h0 vsy "com/example/grendel/grendel/cli/Verb" "options" "Ljava/lang/String;" (.ref oe)) (S_vhe : Sta Z h0 "com/example/grendel/grendel/cli/Verb" "HELP" "Lcom/example/grendel/grendel/cli/Verb;" (.ref vhe)) (E_vhe : Exa Z h0 vhe "com/example/grendel/grendel/cli/Verb") (F_vhe : Fld Z h0 vhe "com/example/grendel/grendel/cli/Verb" "options" "Ljava/lang/String;" (.ref oe)) (S_vqu : Sta Z h0 "com/example/grendel/grendel/cli/Verb" "QUIT" "Lcom/example/grendel/grendel/cli/Verb;" (.ref vqu)) (E_vqu : Exa Z h0 vqu "com/example/grendel/grendel/cli/Verb") (F_vqu : Fld Z h0 vqu "com/example/grendel/grendel/cli/Verb" "options" "Ljava/lang/String;" (.ref oe)) (E_ol : Exa Z h0 ol "java/lang/String") (Fv_ol : Fld Z h0 ol "java/lang/String" "value" "[B" (.ref olv)) (Fc_ol : Fld Z h0 ol "java/lang/String" "coder" "B" (.int (0 : Int32))) (V_ol : own_AI Z h0 olv .byte 1 fol) (hy_ol_0 : fol 0 = (115 : Int32)) (E_oc : Exa Z h0 oc "java/lang/String") (Fv_oc : Fld Z h0 oc "java/lang/String" "value" "[B" (.ref ocv)) (Fc_oc : Fld Z h0 oc "java/lang/String" "coder" "B" (.int (0 : Int32))) (V_oc : own_AI Z h0 ocv .byte 2 foc) (hy_oc_0 : foc 0 = (115 : Int32)) (hy_oc_1 : foc 1 = (101 : Int32)) (E_od : Exa Z h0 od "java/lang/String") (Fv_od : Fld Z h0 od "java/lang/String" "value" "[B" (.ref odv)) (Fc_od : Fld Z h0 od "java/lang/String" "coder" "B" (.int (0 : Int32))) (V_od : own_AI Z h0 odv .byte 2 fod) (hy_od_0 : fod 0 = (118 : Int32)) (hy_od_1 : fod 1 = (58 : Int32)) (E_oe : Exa Z h0 oe "java/lang/String") (Fv_oe : Fld Z h0 oe "java/lang/String" "value" "[B" (.ref oev)) (Fc_oe : Fld Z h0 oe "java/lang/String" "coder" "B" (.int (0 : Int32))) (V_oe : own_AI Z h0 oev .byte 0 foe) :
    MetFree l x (head1 (Jvm.Cond.code x code maxLocals ret :: ws) room_1) (fun aa UU => aa = #[(.int p0), (.int p1)] ∧ Z.Warmed39 UU.vm ∧ UU.heap = h0) (fun _ _ _ _ _ => True) (fun _ UU oo UV => ∃ vv LL, oo = .returned vv ∧ Q0 Z p0 p1 zc ol olv fol oc ocv foc od odv fod oe oev foe vls vcr vge vse vst vde vda vsy vhe vqu h0 n0 vv UV.heap LL ∧ FrameEnd UU oo UV LL room_1.cells room_1.slots) := by
  refine MetFree.of_bodySF (plainFor_of_name pn_0) hisR ?_
  intro p e s m args below meth c s₁ Bd hml0 hP hK
  obtain ⟨rfl, hZ, hh⟩ := hP
  have hx := Bd.exec
  have hby := Bd.bytes
  have hml : c.maxLocals = 6 := hml0
  have hown : s.vm.findClass "com/example/grendel/grendel/cli/VerbTakesPinLaw" = some m.cls := findClass_of_methodNamed Bd.named
  have hnm := (name_of_methodNamed Bd.named Bd.method).1
  have X0 : Stand p l e room_1 s m #[(.int p0), (.int p1)] below meth c s₁ [] 0 0 := Stand.of_body Bd
  have e0 : s₁.heap = h0 := by rw [← hh, Bd.state]; rfl
  have N0 := Fr.nil n0
  have k0 : ∀ tg_, Steps p.tables e below (s₁.setTop (mkF m 0 #[.val (.int p0), .val (.int p1), .unset, .unset, .unset, .unset] [])) tg_ → Steps p.tables e below (s₁.setTop (entryFrame m #[(.int p0), (.int p1)] maxLocals)) tg_ := fun tg_ k => castTop (ef_0 m p0 p1) k
  have k227 : ∀ tg_, Steps p.tables e below (s₁.setTop (mkF m 7 #[.val (.int p0), .val (.int p1), .unset, .unset, .unset, .unset] [(.int ((p0 &&& (2147483647 : Int32)) % (10 : Int32)))])) tg_ → Steps p.tables e below (s₁.setTop (entryFrame m #[(.int p0), (.int p1)] maxLocals)) tg_ := by
    intro tg_ kt
    refine k0 tg_ ?_
    refine XS.iloadN X0.here hx rfl (hb hby at_0) rfl ?_
    show Steps p.tables e below (s₁.setTop (mkF m 1 #[.val (.int p0), .val (.int p1), .unset, .unset, .unset, .unset] [(.int p0)])) _
    refine X0.ldcInt hx hown (mvT hZ (hw _ (List.mem_of_getElem? (i := 0) rfl))) (g := (mkF m 1 #[.val (.int p0), .val (.int p1), .unset, .unset, .unset, .unset] [(.int p0)])) rfl (hb hby at_1) _ ?_
    show Steps p.tables e below (s₁.setTop (mkF m 3 #[.val (.int p0), .val (.int p1), .unset, .unset, .unset, .unset] [(.int (2147483647 : Int32)), (.int p0)])) _
    refine XS.iand X0.here hx rfl (hb hby at_3) rfl ?_
    show Steps p.tables e below (s₁.setTop (mkF m 4 #[.val (.int p0), .val (.int p1), .unset, .unset, .unset, .unset] [(.int (p0 &&& (2147483647 : Int32)))])) _
    refine XS.bipush X0.here hx rfl (hb hby at_4) ?_
    show Steps p.tables e below (s₁.setTop (mkF m 6 #[.val (.int p0), .val (.int p1), .unset, .unset, .unset, .unset] [(.int (10 : Int32)), (.int (p0 &&& (2147483647 : Int32)))])) _
    refine iremM X0 hx rfl (hb hby at_6) rfl (by decide) ?_
    show Steps p.tables e below (s₁.setTop (mkF m 7 #[.val (.int p0), .val (.int p1), .unset, .unset, .unset, .unset] [(.int ((p0 &&& (2147483647 : Int32)) % (10 : Int32)))])) _
    exact kt
  obtain ⟨v228, hv228⟩ : ∃ z : Int32, z = ((p0 &&& (2147483647 : Int32)) % (10 : Int32)) := ⟨_, rfl⟩
  rw [← hv228] at k227
  have k229 : ∀ tg_, Steps p.tables e below (s₁.setTop (mkF m 9 #[.val (.int p0), .val (.int p1), .val (.int v228), .unset, .unset, .unset] [(.int v228)])) tg_ → Steps p.tables e below (s₁.setTop (entryFrame m #[(.int p0), (.int p1)] maxLocals)) tg_ := by
    intro tg_ kt
    refine k227 tg_ ?_
    refine XS.istoreN X0.here hx rfl (hb hby at_7) rfl (l' := #[.val (.int p0), .val (.int p1), .val (.int v228), .unset, .unset, .unset]) rfl ?_
    show Steps p.tables e below (s₁.setTop (mkF m 8 #[.val (.int p0), .val (.int p1), .val (.int v228), .unset, .unset, .unset] [])) _
    refine XS.iloadN X0.here hx rfl (hb hby at_8) rfl ?_
    show Steps p.tables e below (s₁.setTop (mkF m 9 #[.val (.int p0), .val (.int p1), .val (.int v228), .unset, .unset, .unset] [(.int v228)])) _
    exact kt
  by_cases hc9_230 : v228 = (0 : Int32)
  · obtain ⟨_, _, ⟨T231, L231, kc231, nc231⟩, -, X231, ⟨Lc231, hQ231, l231, y231, z231⟩, st231⟩ := Jvm.LawKit.callS X0 hx (y := (⟨"com/example/grendel/grendel/cli/VerbTakesPinLaw", "pick", "(I)Lcom/example/grendel/grendel/cli/Verb;"⟩ : MethodName)) hown (mvT hZ (hw _ (List.mem_of_getElem? (i := 1) rfl))) (mvT hZ (hw _ (List.mem_of_getElem? (i := 2) rfl))) (mvT hZ (hw _ (List.mem_of_getElem? (i := 3) rfl))) (mvT hZ (hw _ (List.mem_of_getElem? (i := 4) rfl))) (by decide) (backOf (W := 0) (rmpick0 l Z a0 hw [] v228 vls h0 n0 S_vls hc9_230) hZ (hw _ (List.mem_of_getElem? (i := 4) rfl)) (hw _ (List.mem_of_getElem? (i := 3) rfl)) (by decide) (by decide)) (g := (mkF m 9 #[.val (.int p0), .val (.int p1), .val (.int v228), .unset, .unset, .unset] [(.int v228)])) rfl (by rw [hml]; rfl) (argsL := [(.int v228)]) (rest := []) (lenOf pd_0 rfl) rfl (by show 2 * 0 + _ ≤ _; exact Nat.le_of_eq rfl) (hb hby at_9) (fun _ _ => ⟨rfl, e0, (by decide : 0 + 0 ≤ _), (by decide : 0 + 0 ≤ _)⟩)
    dsimp only [Pt.U, Pt.locs, Pt.cells, Pt.slots] at X231 l231 y231 z231 st231 hQ231
    rw [l231, y231, z231] at X231
    replace X231 : Stand p l e room_1 s m #[(.int p0), (.int p1)] below meth c T231 _ 0 0 := X231
    obtain ⟨rfl, Nq231, eq231⟩ := hQ231
    have N231 := Fr.app N0 Nq231
    have k232 : ∀ tg_, Steps p.tables e below (T231.setTop (mkF m 17 #[.val (.int p0), .val (.int p1), .val (.int v228), .val (.ref vls), .unset, .unset] [(.int (p1 &&& (65536 : Int32)))])) tg_ → Steps p.tables e below (s₁.setTop (entryFrame m #[(.int p0), (.int p1)] maxLocals)) tg_ := by
      intro tg_ kt
      refine k229 tg_ ?_
      refine st231 _ ?_
      show Steps p.tables e below (T231.setTop (mkF m 12 #[.val (.int p0), .val (.int p1), .val (.int v228), .unset, .unset, .unset] [(.ref vls)])) _
      refine XS.astoreN X231.here hx rfl (hb hby at_12) rfl rfl (l' := #[.val (.int p0), .val (.int p1), .val (.int v228), .val (.ref vls), .unset, .unset]) rfl ?_
      show Steps p.tables e below (T231.setTop (mkF m 13 #[.val (.int p0), .val (.int p1), .val (.int v228), .val (.ref vls), .unset, .unset] [])) _
      refine XS.iloadN X231.here hx rfl (hb hby at_13) rfl ?_
      show Steps p.tables e below (T231.setTop (mkF m 14 #[.val (.int p0), .val (.int p1), .val (.int v228), .val (.ref vls), .unset, .unset] [(.int p1)])) _
      refine X231.ldcInt hx hown (mvT hZ (hw _ (List.mem_of_getElem? (i := 8) rfl))) (g := (mkF m 14 #[.val (.int p0), .val (.int p1), .val (.int v228), .val (.ref vls), .unset, .unset] [(.int p1)])) rfl (hb hby at_14) _ ?_
      show Steps p.tables e below (T231.setTop (mkF m 16 #[.val (.int p0), .val (.int p1), .val (.int v228), .val (.ref vls), .unset, .unset] [(.int (65536 : Int32)), (.int p1)])) _
      refine XS.iand X231.here hx rfl (hb hby at_16) rfl ?_
      show Steps p.tables e below (T231.setTop (mkF m 17 #[.val (.int p0), .val (.int p1), .val (.int v228), .val (.ref vls), .unset, .unset] [(.int (p1 &&& (65536 : Int32)))])) _
      exact kt
    have k237 : ∀ tg_, Steps p.tables e below (T231.setTop (mkF m 80 #[.val (.int p0), .val (.int p1), .val (.int v228), .val (.ref vls), .val (.int (if (p1 &&& (65536 : Int32)) = (0 : Int32) then ((p1 &&& (65535 : Int32)).toUInt32.toUInt16.toUInt32.toInt32) else (if (((p1.toUInt32 >>> ((17 : Int32) &&& 31).toUInt32).toInt32) &&& (3 : Int32)) = (0 : Int32) then (115 : Int32) else (if (((p1.toUInt32 >>> ((17 : Int32) &&& 31).toUInt32).toInt32) &&& (3 : Int32)) = (1 : Int32) then (101 : Int32) else (if (((p1.toUInt32 >>> ((17 : Int32) &&& 31).toUInt32).toInt32) &&& (3 : Int32)) = (2 : Int32) then (118 : Int32) else (58 : Int32)))))), (if (p1 &&& (65536 : Int32)) = (0 : Int32) then (.unset : Slot) else .val (.int (((p1.toUInt32 >>> ((17 : Int32) &&& 31).toUInt32).toInt32) &&& (3 : Int32))))] [])) tg_ → Steps p.tables e below (s₁.setTop (entryFrame m #[(.int p0), (.int p1)] maxLocals)) tg_ := by
      intro tg_ kt
      refine k232 tg_ ?_
      by_cases hj17_233 : (p1 &&& (65536 : Int32)) = (0 : Int32)
      · refine XS.ifYes X231.here hx rfl (pc0 := 17) (pc' := 73) rfl (hb hby at_17) rfl ((if0 _ _).trans (teq hj17_233).1) (by decide) (by decide) ?_
        show Steps p.tables e below (T231.setTop (mkF m 73 #[.val (.int p0), .val (.int p1), .val (.int v228), .val (.ref vls), .unset, .unset] [])) _
        refine XS.iloadN X231.here hx rfl (hb hby at_73) rfl ?_
        show Steps p.tables e below (T231.setTop (mkF m 74 #[.val (.int p0), .val (.int p1), .val (.int v228), .val (.ref vls), .unset, .unset] [(.int p1)])) _
        refine X231.ldcInt hx hown (mvT hZ (hw _ (List.mem_of_getElem? (i := 9) rfl))) (g := (mkF m 74 #[.val (.int p0), .val (.int p1), .val (.int v228), .val (.ref vls), .unset, .unset] [(.int p1)])) rfl (hb hby at_74) _ ?_
        show Steps p.tables e below (T231.setTop (mkF m 76 #[.val (.int p0), .val (.int p1), .val (.int v228), .val (.ref vls), .unset, .unset] [(.int (65535 : Int32)), (.int p1)])) _
        refine XS.iand X231.here hx rfl (hb hby at_76) rfl ?_
        show Steps p.tables e below (T231.setTop (mkF m 77 #[.val (.int p0), .val (.int p1), .val (.int v228), .val (.ref vls), .unset, .unset] [(.int (p1 &&& (65535 : Int32)))])) _
        refine XS.i2c X231.here hx rfl (hb hby at_77) rfl ?_
        show Steps p.tables e below (T231.setTop (mkF m 78 #[.val (.int p0), .val (.int p1), .val (.int v228), .val (.ref vls), .unset, .unset] [(.int ((p1 &&& (65535 : Int32)).toUInt32.toUInt16.toUInt32.toInt32))])) _
        refine XS.istore X231.here hx rfl (hb hby at_78) rfl (l' := #[.val (.int p0), .val (.int p1), .val (.int v228), .val (.ref vls), .val (.int ((p1 &&& (65535 : Int32)).toUInt32.toUInt16.toUInt32.toInt32)), .unset]) rfl ?_
        show Steps p.tables e below (T231.setTop (mkF m 80 #[.val (.int p0), .val (.int p1), .val (.int v228), .val (.ref vls), .val (.int ((p1 &&& (65535 : Int32)).toUInt32.toUInt16.toUInt32.toInt32)), .unset] [])) _
        simpa only [if_pos hj17_233] using kt
      · refine XS.ifNo X231.here hx rfl (hb hby at_17) rfl ((if0 _ _).trans (feq hj17_233).1) ?_
        show Steps p.tables e below (T231.setTop (mkF m 20 #[.val (.int p0), .val (.int p1), .val (.int v228), .val (.ref vls), .unset, .unset] [])) _
        refine XS.iloadN X231.here hx rfl (hb hby at_20) rfl ?_
        show Steps p.tables e below (T231.setTop (mkF m 21 #[.val (.int p0), .val (.int p1), .val (.int v228), .val (.ref vls), .unset, .unset] [(.int p1)])) _
        refine XS.bipush X231.here hx rfl (hb hby at_21) ?_
        show Steps p.tables e below (T231.setTop (mkF m 23 #[.val (.int p0), .val (.int p1), .val (.int v228), .val (.ref vls), .unset, .unset] [(.int (17 : Int32)), (.int p1)])) _
        refine XS.iushr X231.here hx rfl (hb hby at_23) rfl ?_
        show Steps p.tables e below (T231.setTop (mkF m 24 #[.val (.int p0), .val (.int p1), .val (.int v228), .val (.ref vls), .unset, .unset] [(.int ((p1.toUInt32 >>> ((17 : Int32) &&& 31).toUInt32).toInt32))])) _
        refine XS.iconst X231.here hx rfl (hb hby at_24) ?_
        show Steps p.tables e below (T231.setTop (mkF m 25 #[.val (.int p0), .val (.int p1), .val (.int v228), .val (.ref vls), .unset, .unset] [(.int (3 : Int32)), (.int ((p1.toUInt32 >>> ((17 : Int32) &&& 31).toUInt32).toInt32))])) _
        refine XS.iand X231.here hx rfl (hb hby at_25) rfl ?_
        show Steps p.tables e below (T231.setTop (mkF m 26 #[.val (.int p0), .val (.int p1), .val (.int v228), .val (.ref vls), .unset, .unset] [(.int (((p1.toUInt32 >>> ((17 : Int32) &&& 31).toUInt32).toInt32) &&& (3 : Int32)))])) _
        refine XS.istore X231.here hx rfl (hb hby at_26) rfl (l' := #[.val (.int p0), .val (.int p1), .val (.int v228), .val (.ref vls), .unset, .val (.int (((p1.toUInt32 >>> ((17 : Int32) &&& 31).toUInt32).toInt32) &&& (3 : Int32)))]) rfl ?_
        show Steps p.tables e below (T231.setTop (mkF m 28 #[.val (.int p0), .val (.int p1), .val (.int v228), .val (.ref vls), .unset, .val (.int (((p1.toUInt32 >>> ((17 : Int32) &&& 31).toUInt32).toInt32) &&& (3 : Int32)))] [])) _
        refine XS.iload X231.here hx rfl (hb hby at_28) rfl ?_
        show Steps p.tables e below (T231.setTop (mkF m 30 #[.val (.int p0), .val (.int p1), .val (.int v228), .val (.ref vls), .unset, .val (.int (((p1.toUInt32 >>> ((17 : Int32) &&& 31).toUInt32).toInt32) &&& (3 : Int32)))] [(.int (((p1.toUInt32 >>> ((17 : Int32) &&& 31).toUInt32).toInt32) &&& (3 : Int32)))])) _
        by_cases hj30_234 : (((p1.toUInt32 >>> ((17 : Int32) &&& 31).toUInt32).toInt32) &&& (3 : Int32)) = (0 : Int32)
        · refine XS.ifNo X231.here hx rfl (hb hby at_30) rfl ((if0 _ _).trans (teq hj30_234).2) ?_
          show Steps p.tables e below (T231.setTop (mkF m 33 #[.val (.int p0), .val (.int p1), .val (.int v228), .val (.ref vls), .unset, .val (.int (((p1.toUInt32 >>> ((17 : Int32) &&& 31).toUInt32).toInt32) &&& (3 : Int32)))] [])) _
          refine XS.bipush X231.here hx rfl (hb hby at_33) ?_
          show Steps p.tables e below (T231.setTop (mkF m 35 #[.val (.int p0), .val (.int p1), .val (.int v228), .val (.ref vls), .unset, .val (.int (((p1.toUInt32 >>> ((17 : Int32) &&& 31).toUInt32).toInt32) &&& (3 : Int32)))] [(.int (115 : Int32))])) _
          refine XS.istore X231.here hx rfl (hb hby at_35) rfl (l' := #[.val (.int p0), .val (.int p1), .val (.int v228), .val (.ref vls), .val (.int (115 : Int32)), .val (.int (((p1.toUInt32 >>> ((17 : Int32) &&& 31).toUInt32).toInt32) &&& (3 : Int32)))]) rfl ?_
          show Steps p.tables e below (T231.setTop (mkF m 37 #[.val (.int p0), .val (.int p1), .val (.int v228), .val (.ref vls), .val (.int (115 : Int32)), .val (.int (((p1.toUInt32 >>> ((17 : Int32) &&& 31).toUInt32).toInt32) &&& (3 : Int32)))] [])) _
          refine XS.goto X231.here hx rfl (pc0 := 37) (pc' := 70) rfl (hb hby at_37) (by decide) (by decide) ?_
          show Steps p.tables e below (T231.setTop (mkF m 70 #[.val (.int p0), .val (.int p1), .val (.int v228), .val (.ref vls), .val (.int (115 : Int32)), .val (.int (((p1.toUInt32 >>> ((17 : Int32) &&& 31).toUInt32).toInt32) &&& (3 : Int32)))] [])) _
          refine XS.goto X231.here hx rfl (pc0 := 70) (pc' := 80) rfl (hb hby at_70) (by decide) (by decide) ?_
          show Steps p.tables e below (T231.setTop (mkF m 80 #[.val (.int p0), .val (.int p1), .val (.int v228), .val (.ref vls), .val (.int (115 : Int32)), .val (.int (((p1.toUInt32 >>> ((17 : Int32) &&& 31).toUInt32).toInt32) &&& (3 : Int32)))] [])) _
          simpa only [if_neg hj17_233, if_pos hj30_234] using kt
        · refine XS.ifYes X231.here hx rfl (pc0 := 30) (pc' := 40) rfl (hb hby at_30) rfl ((if0 _ _).trans (feq hj30_234).2) (by decide) (by decide) ?_
          show Steps p.tables e below (T231.setTop (mkF m 40 #[.val (.int p0), .val (.int p1), .val (.int v228), .val (.ref vls), .unset, .val (.int (((p1.toUInt32 >>> ((17 : Int32) &&& 31).toUInt32).toInt32) &&& (3 : Int32)))] [])) _
          refine XS.iload X231.here hx rfl (hb hby at_40) rfl ?_
          show Steps p.tables e below (T231.setTop (mkF m 42 #[.val (.int p0), .val (.int p1), .val (.int v228), .val (.ref vls), .unset, .val (.int (((p1.toUInt32 >>> ((17 : Int32) &&& 31).toUInt32).toInt32) &&& (3 : Int32)))] [(.int (((p1.toUInt32 >>> ((17 : Int32) &&& 31).toUInt32).toInt32) &&& (3 : Int32)))])) _
          refine XS.iconst X231.here hx rfl (hb hby at_42) ?_
          show Steps p.tables e below (T231.setTop (mkF m 43 #[.val (.int p0), .val (.int p1), .val (.int v228), .val (.ref vls), .unset, .val (.int (((p1.toUInt32 >>> ((17 : Int32) &&& 31).toUInt32).toInt32) &&& (3 : Int32)))] [(.int (1 : Int32)), (.int (((p1.toUInt32 >>> ((17 : Int32) &&& 31).toUInt32).toInt32) &&& (3 : Int32)))])) _
          by_cases hj43_235 : (((p1.toUInt32 >>> ((17 : Int32) &&& 31).toUInt32).toInt32) &&& (3 : Int32)) = (1 : Int32)
          · refine XS.icmpNo X231.here hx rfl (hb hby at_43) rfl (teq hj43_235).2 ?_
            show Steps p.tables e below (T231.setTop (mkF m 46 #[.val (.int p0), .val (.int p1), .val (.int v228), .val (.ref vls), .unset, .val (.int (((p1.toUInt32 >>> ((17 : Int32) &&& 31).toUInt32).toInt32) &&& (3 : Int32)))] [])) _
            refine XS.bipush X231.here hx rfl (hb hby at_46) ?_
            show Steps p.tables e below (T231.setTop (mkF m 48 #[.val (.int p0), .val (.int p1), .val (.int v228), .val (.ref vls), .unset, .val (.int (((p1.toUInt32 >>> ((17 : Int32) &&& 31).toUInt32).toInt32) &&& (3 : Int32)))] [(.int (101 : Int32))])) _
            refine XS.istore X231.here hx rfl (hb hby at_48) rfl (l' := #[.val (.int p0), .val (.int p1), .val (.int v228), .val (.ref vls), .val (.int (101 : Int32)), .val (.int (((p1.toUInt32 >>> ((17 : Int32) &&& 31).toUInt32).toInt32) &&& (3 : Int32)))]) rfl ?_
            show Steps p.tables e below (T231.setTop (mkF m 50 #[.val (.int p0), .val (.int p1), .val (.int v228), .val (.ref vls), .val (.int (101 : Int32)), .val (.int (((p1.toUInt32 >>> ((17 : Int32) &&& 31).toUInt32).toInt32) &&& (3 : Int32)))] [])) _
            refine XS.goto X231.here hx rfl (pc0 := 50) (pc' := 70) rfl (hb hby at_50) (by decide) (by decide) ?_
            show Steps p.tables e below (T231.setTop (mkF m 70 #[.val (.int p0), .val (.int p1), .val (.int v228), .val (.ref vls), .val (.int (101 : Int32)), .val (.int (((p1.toUInt32 >>> ((17 : Int32) &&& 31).toUInt32).toInt32) &&& (3 : Int32)))] [])) _
            refine XS.goto X231.here hx rfl (pc0 := 70) (pc' := 80) rfl (hb hby at_70) (by decide) (by decide) ?_
            show Steps p.tables e below (T231.setTop (mkF m 80 #[.val (.int p0), .val (.int p1), .val (.int v228), .val (.ref vls), .val (.int (101 : Int32)), .val (.int (((p1.toUInt32 >>> ((17 : Int32) &&& 31).toUInt32).toInt32) &&& (3 : Int32)))] [])) _
            simpa only [if_neg hj17_233, if_neg hj30_234, if_pos hj43_235] using kt
          · refine XS.icmpYes X231.here hx rfl (pc0 := 43) (pc' := 53) rfl (hb hby at_43) rfl (feq hj43_235).2 (by decide) (by decide) ?_
            show Steps p.tables e below (T231.setTop (mkF m 53 #[.val (.int p0), .val (.int p1), .val (.int v228), .val (.ref vls), .unset, .val (.int (((p1.toUInt32 >>> ((17 : Int32) &&& 31).toUInt32).toInt32) &&& (3 : Int32)))] [])) _
            refine XS.iload X231.here hx rfl (hb hby at_53) rfl ?_
            show Steps p.tables e below (T231.setTop (mkF m 55 #[.val (.int p0), .val (.int p1), .val (.int v228), .val (.ref vls), .unset, .val (.int (((p1.toUInt32 >>> ((17 : Int32) &&& 31).toUInt32).toInt32) &&& (3 : Int32)))] [(.int (((p1.toUInt32 >>> ((17 : Int32) &&& 31).toUInt32).toInt32) &&& (3 : Int32)))])) _
            refine XS.iconst X231.here hx rfl (hb hby at_55) ?_
            show Steps p.tables e below (T231.setTop (mkF m 56 #[.val (.int p0), .val (.int p1), .val (.int v228), .val (.ref vls), .unset, .val (.int (((p1.toUInt32 >>> ((17 : Int32) &&& 31).toUInt32).toInt32) &&& (3 : Int32)))] [(.int (2 : Int32)), (.int (((p1.toUInt32 >>> ((17 : Int32) &&& 31).toUInt32).toInt32) &&& (3 : Int32)))])) _
            by_cases hj56_236 : (((p1.toUInt32 >>> ((17 : Int32) &&& 31).toUInt32).toInt32) &&& (3 : Int32)) = (2 : Int32)
            · refine XS.icmpNo X231.here hx rfl (hb hby at_56) rfl (teq hj56_236).2 ?_
              show Steps p.tables e below (T231.setTop (mkF m 59 #[.val (.int p0), .val (.int p1), .val (.int v228), .val (.ref vls), .unset, .val (.int (((p1.toUInt32 >>> ((17 : Int32) &&& 31).toUInt32).toInt32) &&& (3 : Int32)))] [])) _
              refine XS.bipush X231.here hx rfl (hb hby at_59) ?_
              show Steps p.tables e below (T231.setTop (mkF m 61 #[.val (.int p0), .val (.int p1), .val (.int v228), .val (.ref vls), .unset, .val (.int (((p1.toUInt32 >>> ((17 : Int32) &&& 31).toUInt32).toInt32) &&& (3 : Int32)))] [(.int (118 : Int32))])) _
              refine XS.istore X231.here hx rfl (hb hby at_61) rfl (l' := #[.val (.int p0), .val (.int p1), .val (.int v228), .val (.ref vls), .val (.int (118 : Int32)), .val (.int (((p1.toUInt32 >>> ((17 : Int32) &&& 31).toUInt32).toInt32) &&& (3 : Int32)))]) rfl ?_
              show Steps p.tables e below (T231.setTop (mkF m 63 #[.val (.int p0), .val (.int p1), .val (.int v228), .val (.ref vls), .val (.int (118 : Int32)), .val (.int (((p1.toUInt32 >>> ((17 : Int32) &&& 31).toUInt32).toInt32) &&& (3 : Int32)))] [])) _
              refine XS.goto X231.here hx rfl (pc0 := 63) (pc' := 70) rfl (hb hby at_63) (by decide) (by decide) ?_
              show Steps p.tables e below (T231.setTop (mkF m 70 #[.val (.int p0), .val (.int p1), .val (.int v228), .val (.ref vls), .val (.int (118 : Int32)), .val (.int (((p1.toUInt32 >>> ((17 : Int32) &&& 31).toUInt32).toInt32) &&& (3 : Int32)))] [])) _
              refine XS.goto X231.here hx rfl (pc0 := 70) (pc' := 80) rfl (hb hby at_70) (by decide) (by decide) ?_
              show Steps p.tables e below (T231.setTop (mkF m 80 #[.val (.int p0), .val (.int p1), .val (.int v228), .val (.ref vls), .val (.int (118 : Int32)), .val (.int (((p1.toUInt32 >>> ((17 : Int32) &&& 31).toUInt32).toInt32) &&& (3 : Int32)))] [])) _
              simpa only [if_neg hj17_233, if_neg hj30_234, if_neg hj43_235, if_pos hj56_236] using kt
            · refine XS.icmpYes X231.here hx rfl (pc0 := 56) (pc' := 66) rfl (hb hby at_56) rfl (feq hj56_236).2 (by decide) (by decide) ?_
              show Steps p.tables e below (T231.setTop (mkF m 66 #[.val (.int p0), .val (.int p1), .val (.int v228), .val (.ref vls), .unset, .val (.int (((p1.toUInt32 >>> ((17 : Int32) &&& 31).toUInt32).toInt32) &&& (3 : Int32)))] [])) _
              refine XS.bipush X231.here hx rfl (hb hby at_66) ?_
              show Steps p.tables e below (T231.setTop (mkF m 68 #[.val (.int p0), .val (.int p1), .val (.int v228), .val (.ref vls), .unset, .val (.int (((p1.toUInt32 >>> ((17 : Int32) &&& 31).toUInt32).toInt32) &&& (3 : Int32)))] [(.int (58 : Int32))])) _
              refine XS.istore X231.here hx rfl (hb hby at_68) rfl (l' := #[.val (.int p0), .val (.int p1), .val (.int v228), .val (.ref vls), .val (.int (58 : Int32)), .val (.int (((p1.toUInt32 >>> ((17 : Int32) &&& 31).toUInt32).toInt32) &&& (3 : Int32)))]) rfl ?_
              show Steps p.tables e below (T231.setTop (mkF m 70 #[.val (.int p0), .val (.int p1), .val (.int v228), .val (.ref vls), .val (.int (58 : Int32)), .val (.int (((p1.toUInt32 >>> ((17 : Int32) &&& 31).toUInt32).toInt32) &&& (3 : Int32)))] [])) _
              refine XS.goto X231.here hx rfl (pc0 := 70) (pc' := 80) rfl (hb hby at_70) (by decide) (by decide) ?_
              show Steps p.tables e below (T231.setTop (mkF m 80 #[.val (.int p0), .val (.int p1), .val (.int v228), .val (.ref vls), .val (.int (58 : Int32)), .val (.int (((p1.toUInt32 >>> ((17 : Int32) &&& 31).toUInt32).toInt32) &&& (3 : Int32)))] [])) _
              simpa only [if_neg hj17_233, if_neg hj30_234, if_neg hj43_235, if_neg hj56_236] using kt
    obtain ⟨v238, hv238⟩ : ∃ z : Int32, z = (if (p1 &&& (65536 : Int32)) = (0 : Int32) then ((p1 &&& (65535 : Int32)).toUInt32.toUInt16.toUInt32.toInt32) else (if (((p1.toUInt32 >>> ((17 : Int32) &&& 31).toUInt32).toInt32) &&& (3 : Int32)) = (0 : Int32) then (115 : Int32) else (if (((p1.toUInt32 >>> ((17 : Int32) &&& 31).toUInt32).toInt32) &&& (3 : Int32)) = (1 : Int32) then (101 : Int32) else (if (((p1.toUInt32 >>> ((17 : Int32) &&& 31).toUInt32).toInt32) &&& (3 : Int32)) = (2 : Int32) then (118 : Int32) else (58 : Int32))))) := ⟨_, rfl⟩
    rw [← hv238] at k237
    obtain ⟨sl239, hsl239⟩ : ∃ z : Slot, z = (if (p1 &&& (65536 : Int32)) = (0 : Int32) then (.unset : Slot) else .val (.int (((p1.toUInt32 >>> ((17 : Int32) &&& 31).toUInt32).toInt32) &&& (3 : Int32)))) := ⟨_, rfl⟩
    have osl239 : One sl239 := by rw [hsl239]; repeat' split; all_goals first | exact One.u | exact One.val rfl
    rw [← hsl239] at k237
    obtain ⟨_, _, ⟨T240, L240, kc240, nc240⟩, -, X240, ⟨Lc240, hQ240, l240, y240, z240⟩, st240⟩ := Jvm.LawKit.callS X231 hx (y := (⟨"com/example/grendel/grendel/cli/VerbTakesPinLaw", "expect", "(IC)Z"⟩ : MethodName)) hown (mvT hZ (hw _ (List.mem_of_getElem? (i := 10) rfl))) (mvT hZ (hw _ (List.mem_of_getElem? (i := 11) rfl))) (mvT hZ (hw _ (List.mem_of_getElem? (i := 3) rfl))) (mvT hZ (hw _ (List.mem_of_getElem? (i := 12) rfl))) (by decide) (backOf (W := 0) (rm2 l Z a0 hw [] v228 v238 h0 n0 ) hZ (hw _ (List.mem_of_getElem? (i := 12) rfl)) (hw _ (List.mem_of_getElem? (i := 3) rfl)) (by decide) (by decide)) (g := (mkF m 83 #[.val (.int p0), .val (.int p1), .val (.int v228), .val (.ref vls), .val (.int v238), sl239] [(.int v238), (.int v228)])) rfl (by rw [hml]; rfl) (argsL := [(.int v228), (.int v238)]) (rest := []) (lenOf pd_1 rfl) rfl (by show 2 * 0 + _ ≤ _; exact Nat.le_of_eq rfl) (hb hby at_83) (fun _ _ => ⟨rfl, eq231, (by decide : 0 + 0 ≤ _), (by decide : 0 + 0 ≤ _)⟩)
    dsimp only [Pt.U, Pt.locs, Pt.cells, Pt.slots] at X240 l240 y240 z240 st240 hQ240
    rw [l240, y240, z240] at X240
    replace X240 : Stand p l e room_1 s m #[(.int p0), (.int p1)] below meth c T240 _ 0 0 := X240
    obtain ⟨rfl, Nq240, eq240⟩ := hQ240
    have N240 := Fr.app N231 Nq240
    have k241 : ∀ tg_, Steps p.tables e below (T240.setTop (mkF m 86 #[.val (.int p0), .val (.int p1), .val (.int v228), .val (.ref vls), .val (.int v238), sl239] [(.int (own_exp v228 v238))])) tg_ → Steps p.tables e below (s₁.setTop (entryFrame m #[(.int p0), (.int p1)] maxLocals)) tg_ := by
      intro tg_ kt
      refine k237 tg_ ?_
      refine XS.iloadN X231.here hx rfl (hb hby at_80) rfl ?_
      show Steps p.tables e below (T231.setTop (mkF m 81 #[.val (.int p0), .val (.int p1), .val (.int v228), .val (.ref vls), .val (.int v238), sl239] [(.int v228)])) _
      refine XS.iload X231.here hx rfl (hb hby at_81) rfl ?_
      show Steps p.tables e below (T231.setTop (mkF m 83 #[.val (.int p0), .val (.int p1), .val (.int v228), .val (.ref vls), .val (.int v238), sl239] [(.int v238), (.int v228)])) _
      refine st240 _ ?_
      show Steps p.tables e below (T240.setTop (mkF m 86 #[.val (.int p0), .val (.int p1), .val (.int v228), .val (.ref vls), .val (.int v238), sl239] [(.int (own_exp v228 v238))])) _
      exact kt
    obtain ⟨r242, hr242⟩ : ∃ z : Int32, z = (own_exp v228 v238) := ⟨_, rfl⟩
    rw [← hr242] at k241
    obtain ⟨cq243, kq243, q243a, q243b, q243c⟩ := isOf hZ eq240 E_vls
    obtain ⟨_, _, ⟨T243, L243, kc243, nc243⟩, -, X243, ⟨Lc243, hQ243, l243, y243, z243⟩, st243⟩ := X240.virtualBack hx (y := (⟨"com/example/grendel/grendel/cli/Verb", "takes", "(C)Z"⟩ : MethodName)) (z := (⟨"com/example/grendel/grendel/cli/Verb", "takes", "(C)Z"⟩ : MethodName)) hown (mvT hZ (hw _ (List.mem_of_getElem? (i := 13) rfl))) (mvT hZ (hw _ (List.mem_of_getElem? (i := 14) rfl))) (notFace_of_selects (args := #[]) (mvT hZ (hw _ (List.mem_of_getElem? (i := 16) rfl)))) (mvT hZ (hw _ (List.mem_of_getElem? (i := 16) rfl))) (mvT hZ (hw _ (List.mem_of_getElem? (i := 15) rfl))) (by decide) (backOf (W := 0) (rmtk_1 l Z a0 hw [] vls v238 zc ol olv fol (115 : Int32) h0 n0 E_ol F_vls Fv_ol Fc_ol V_ol S_cs hz hy_ol_0) hZ (hw _ (List.mem_of_getElem? (i := 17) rfl)) (hw _ (List.mem_of_getElem? (i := 6) rfl)) (by decide) (by decide)) q243a q243c (g := (mkF m 91 #[.val (.int p0), .val (.int p1), .val (.int v228), .val (.ref vls), .val (.int v238), .val (.int r242)] [(.int v238), (.ref vls)])) rfl (by rw [hml]; rfl) (Steps.refl _) (argsL := [(.int v238)]) (rest := []) (lenOf pd_2 rfl) rfl (by show 2 * 0 + _ ≤ _; exact Nat.le_of_eq rfl) (hb hby at_91) (fun _ _ => ⟨rfl, eq240, (by decide : 0 + 0 ≤ _), (by decide : 0 + 0 ≤ _)⟩)
    dsimp only [Pt.U, Pt.locs, Pt.cells, Pt.slots] at X243 l243 y243 z243 st243 hQ243
    rw [l243, y243, z243] at X243
    replace X243 : Stand p l e room_1 s m #[(.int p0), (.int p1)] below meth c T243 _ 0 0 := X243
    obtain ⟨rfl, Nq243, eq243⟩ := hQ243
    have N243 := Fr.app N240 Nq243
    have k244 : ∀ tg_, Steps p.tables e below (T243.setTop (mkF m 94 #[.val (.int p0), .val (.int p1), .val (.int v228), .val (.ref vls), .val (.int v238), .val (.int r242)] [(.int (own_tk_1 v238 (115 : Int32)))])) tg_ → Steps p.tables e below (s₁.setTop (entryFrame m #[(.int p0), (.int p1)] maxLocals)) tg_ := by
      intro tg_ kt
      refine k241 tg_ ?_
      show Steps p.tables e below (T240.setTop (mkF m 86 #[.val (.int p0), .val (.int p1), .val (.int v228), .val (.ref vls), .val (.int v238), sl239] [(.int r242)])) _
      refine XS.istoreS X240.here hx rfl (hb hby at_86) rfl rfl osl239 ?_
      show Steps p.tables e below (T240.setTop (mkF m 88 #[.val (.int p0), .val (.int p1), .val (.int v228), .val (.ref vls), .val (.int v238), .val (.int r242)] [])) _
      refine XS.aloadN X240.here hx rfl (hb hby at_88) rfl rfl ?_
      show Steps p.tables e below (T240.setTop (mkF m 89 #[.val (.int p0), .val (.int p1), .val (.int v228), .val (.ref vls), .val (.int v238), .val (.int r242)] [(.ref vls)])) _
      refine XS.iload X240.here hx rfl (hb hby at_89) rfl ?_
      show Steps p.tables e below (T240.setTop (mkF m 91 #[.val (.int p0), .val (.int p1), .val (.int v228), .val (.ref vls), .val (.int v238), .val (.int r242)] [(.int v238), (.ref vls)])) _
      refine st243.trans ?_
      show Steps p.tables e below (T243.setTop (mkF m 94 #[.val (.int p0), .val (.int p1), .val (.int v228), .val (.ref vls), .val (.int v238), .val (.int r242)] [(.int (own_tk_1 v238 (115 : Int32)))])) _
      exact kt
    obtain ⟨r245, hr245⟩ : ∃ z : Int32, z = (own_tk_1 v238 (115 : Int32)) := ⟨_, rfl⟩
    rw [← hr245] at k244
    have hc96_246 : r245 = r242 := (by rw [hr245]; rw [hr242]; exact own_lw0 _ _ hc9_230)
    have k247 : ∀ tg_, Steps p.tables e below (T243.setTop (mkF m 104 #[.val (.int p0), .val (.int p1), .val (.int v228), .val (.ref vls), .val (.int v238), .val (.int r242)] [(.int (1 : Int32))])) tg_ → Steps p.tables e below (s₁.setTop (entryFrame m #[(.int p0), (.int p1)] maxLocals)) tg_ := by
      intro tg_ kt
      refine k244 tg_ ?_
      show Steps p.tables e below (T243.setTop (mkF m 94 #[.val (.int p0), .val (.int p1), .val (.int v228), .val (.ref vls), .val (.int v238), .val (.int r242)] [(.int r245)])) _
      refine XS.iload X243.here hx rfl (hb hby at_94) rfl ?_
      show Steps p.tables e below (T243.setTop (mkF m 96 #[.val (.int p0), .val (.int p1), .val (.int v228), .val (.ref vls), .val (.int v238), .val (.int r242)] [(.int r242), (.int r245)])) _
      refine XS.icmpNo X243.here hx rfl (hb hby at_96) rfl (teq hc96_246).2 ?_
      show Steps p.tables e below (T243.setTop (mkF m 99 #[.val (.int p0), .val (.int p1), .val (.int v228), .val (.ref vls), .val (.int v238), .val (.int r242)] [])) _
      refine XS.iconst X243.here hx rfl (hb hby at_99) ?_
      show Steps p.tables e below (T243.setTop (mkF m 100 #[.val (.int p0), .val (.int p1), .val (.int v228), .val (.ref vls), .val (.int v238), .val (.int r242)] [(.int (1 : Int32))])) _
      refine XS.goto X243.here hx rfl (pc0 := 100) (pc' := 104) rfl (hb hby at_100) (by decide) (by decide) ?_
      show Steps p.tables e below (T243.setTop (mkF m 104 #[.val (.int p0), .val (.int p1), .val (.int v228), .val (.ref vls), .val (.int v238), .val (.int r242)] [(.int (1 : Int32))])) _
      exact kt
    obtain ⟨fs, hr, hrun, hended, hW, hsame⟩ := X243.leave (v := some (.int (1 : Int32))) (fun h => by rw [Bd.returns] at h; cases h)
    refine ⟨_, _, k247 _ (retN X243 hx (t := .boolean) Bd.returns (by simp) (hb hby at_104) hr), hrun, hended, _, _, rfl, ?_, ⟨_, rfl⟩, hW, hsame.mono (by decide) (by decide)⟩
    show Q0 Z p0 p1 zc ol olv fol oc ocv foc od odv fod oe oev foe vls vcr vge vse vst vde vda vsy vhe vqu h0 n0 _ T243.heap _
    rw [eq243]
    exact ⟨rfl, N243⟩
  · by_cases hc9_248 : v228 = (1 : Int32)
    · obtain ⟨_, _, ⟨T249, L249, kc249, nc249⟩, -, X249, ⟨Lc249, hQ249, l249, y249, z249⟩, st249⟩ := Jvm.LawKit.callS X0 hx (y := (⟨"com/example/grendel/grendel/cli/VerbTakesPinLaw", "pick", "(I)Lcom/example/grendel/grendel/cli/Verb;"⟩ : MethodName)) hown (mvT hZ (hw _ (List.mem_of_getElem? (i := 1) rfl))) (mvT hZ (hw _ (List.mem_of_getElem? (i := 2) rfl))) (mvT hZ (hw _ (List.mem_of_getElem? (i := 3) rfl))) (mvT hZ (hw _ (List.mem_of_getElem? (i := 4) rfl))) (by decide) (backOf (W := 0) (rmpick1 l Z a0 hw [] v228 vcr h0 n0 S_vcr hc9_248) hZ (hw _ (List.mem_of_getElem? (i := 4) rfl)) (hw _ (List.mem_of_getElem? (i := 3) rfl)) (by decide) (by decide)) (g := (mkF m 9 #[.val (.int p0), .val (.int p1), .val (.int v228), .unset, .unset, .unset] [(.int v228)])) rfl (by rw [hml]; rfl) (argsL := [(.int v228)]) (rest := []) (lenOf pd_0 rfl) rfl (by show 2 * 0 + _ ≤ _; exact Nat.le_of_eq rfl) (hb hby at_9) (fun _ _ => ⟨rfl, e0, (by decide : 0 + 0 ≤ _), (by decide : 0 + 0 ≤ _)⟩)
      dsimp only [Pt.U, Pt.locs, Pt.cells, Pt.slots] at X249 l249 y249 z249 st249 hQ249
      rw [l249, y249, z249] at X249
      replace X249 : Stand p l e room_1 s m #[(.int p0), (.int p1)] below meth c T249 _ 0 0 := X249
      obtain ⟨rfl, Nq249, eq249⟩ := hQ249
      have N249 := Fr.app N0 Nq249
      have k250 : ∀ tg_, Steps p.tables e below (T249.setTop (mkF m 17 #[.val (.int p0), .val (.int p1), .val (.int v228), .val (.ref vcr), .unset, .unset] [(.int (p1 &&& (65536 : Int32)))])) tg_ → Steps p.tables e below (s₁.setTop (entryFrame m #[(.int p0), (.int p1)] maxLocals)) tg_ := by
        intro tg_ kt
        refine k229 tg_ ?_
        refine st249 _ ?_
        show Steps p.tables e below (T249.setTop (mkF m 12 #[.val (.int p0), .val (.int p1), .val (.int v228), .unset, .unset, .unset] [(.ref vcr)])) _
        refine XS.astoreN X249.here hx rfl (hb hby at_12) rfl rfl (l' := #[.val (.int p0), .val (.int p1), .val (.int v228), .val (.ref vcr), .unset, .unset]) rfl ?_
        show Steps p.tables e below (T249.setTop (mkF m 13 #[.val (.int p0), .val (.int p1), .val (.int v228), .val (.ref vcr), .unset, .unset] [])) _
        refine XS.iloadN X249.here hx rfl (hb hby at_13) rfl ?_
        show Steps p.tables e below (T249.setTop (mkF m 14 #[.val (.int p0), .val (.int p1), .val (.int v228), .val (.ref vcr), .unset, .unset] [(.int p1)])) _
        refine X249.ldcInt hx hown (mvT hZ (hw _ (List.mem_of_getElem? (i := 8) rfl))) (g := (mkF m 14 #[.val (.int p0), .val (.int p1), .val (.int v228), .val (.ref vcr), .unset, .unset] [(.int p1)])) rfl (hb hby at_14) _ ?_
        show Steps p.tables e below (T249.setTop (mkF m 16 #[.val (.int p0), .val (.int p1), .val (.int v228), .val (.ref vcr), .unset, .unset] [(.int (65536 : Int32)), (.int p1)])) _
        refine XS.iand X249.here hx rfl (hb hby at_16) rfl ?_
        show Steps p.tables e below (T249.setTop (mkF m 17 #[.val (.int p0), .val (.int p1), .val (.int v228), .val (.ref vcr), .unset, .unset] [(.int (p1 &&& (65536 : Int32)))])) _
        exact kt
      have k255 : ∀ tg_, Steps p.tables e below (T249.setTop (mkF m 80 #[.val (.int p0), .val (.int p1), .val (.int v228), .val (.ref vcr), .val (.int (if (p1 &&& (65536 : Int32)) = (0 : Int32) then ((p1 &&& (65535 : Int32)).toUInt32.toUInt16.toUInt32.toInt32) else (if (((p1.toUInt32 >>> ((17 : Int32) &&& 31).toUInt32).toInt32) &&& (3 : Int32)) = (0 : Int32) then (115 : Int32) else (if (((p1.toUInt32 >>> ((17 : Int32) &&& 31).toUInt32).toInt32) &&& (3 : Int32)) = (1 : Int32) then (101 : Int32) else (if (((p1.toUInt32 >>> ((17 : Int32) &&& 31).toUInt32).toInt32) &&& (3 : Int32)) = (2 : Int32) then (118 : Int32) else (58 : Int32)))))), (if (p1 &&& (65536 : Int32)) = (0 : Int32) then (.unset : Slot) else .val (.int (((p1.toUInt32 >>> ((17 : Int32) &&& 31).toUInt32).toInt32) &&& (3 : Int32))))] [])) tg_ → Steps p.tables e below (s₁.setTop (entryFrame m #[(.int p0), (.int p1)] maxLocals)) tg_ := by
        intro tg_ kt
        refine k250 tg_ ?_
        by_cases hj17_251 : (p1 &&& (65536 : Int32)) = (0 : Int32)
        · refine XS.ifYes X249.here hx rfl (pc0 := 17) (pc' := 73) rfl (hb hby at_17) rfl ((if0 _ _).trans (teq hj17_251).1) (by decide) (by decide) ?_
          show Steps p.tables e below (T249.setTop (mkF m 73 #[.val (.int p0), .val (.int p1), .val (.int v228), .val (.ref vcr), .unset, .unset] [])) _
          refine XS.iloadN X249.here hx rfl (hb hby at_73) rfl ?_
          show Steps p.tables e below (T249.setTop (mkF m 74 #[.val (.int p0), .val (.int p1), .val (.int v228), .val (.ref vcr), .unset, .unset] [(.int p1)])) _
          refine X249.ldcInt hx hown (mvT hZ (hw _ (List.mem_of_getElem? (i := 9) rfl))) (g := (mkF m 74 #[.val (.int p0), .val (.int p1), .val (.int v228), .val (.ref vcr), .unset, .unset] [(.int p1)])) rfl (hb hby at_74) _ ?_
          show Steps p.tables e below (T249.setTop (mkF m 76 #[.val (.int p0), .val (.int p1), .val (.int v228), .val (.ref vcr), .unset, .unset] [(.int (65535 : Int32)), (.int p1)])) _
          refine XS.iand X249.here hx rfl (hb hby at_76) rfl ?_
          show Steps p.tables e below (T249.setTop (mkF m 77 #[.val (.int p0), .val (.int p1), .val (.int v228), .val (.ref vcr), .unset, .unset] [(.int (p1 &&& (65535 : Int32)))])) _
          refine XS.i2c X249.here hx rfl (hb hby at_77) rfl ?_
          show Steps p.tables e below (T249.setTop (mkF m 78 #[.val (.int p0), .val (.int p1), .val (.int v228), .val (.ref vcr), .unset, .unset] [(.int ((p1 &&& (65535 : Int32)).toUInt32.toUInt16.toUInt32.toInt32))])) _
          refine XS.istore X249.here hx rfl (hb hby at_78) rfl (l' := #[.val (.int p0), .val (.int p1), .val (.int v228), .val (.ref vcr), .val (.int ((p1 &&& (65535 : Int32)).toUInt32.toUInt16.toUInt32.toInt32)), .unset]) rfl ?_
          show Steps p.tables e below (T249.setTop (mkF m 80 #[.val (.int p0), .val (.int p1), .val (.int v228), .val (.ref vcr), .val (.int ((p1 &&& (65535 : Int32)).toUInt32.toUInt16.toUInt32.toInt32)), .unset] [])) _
          simpa only [if_pos hj17_251] using kt
        · refine XS.ifNo X249.here hx rfl (hb hby at_17) rfl ((if0 _ _).trans (feq hj17_251).1) ?_
          show Steps p.tables e below (T249.setTop (mkF m 20 #[.val (.int p0), .val (.int p1), .val (.int v228), .val (.ref vcr), .unset, .unset] [])) _
          refine XS.iloadN X249.here hx rfl (hb hby at_20) rfl ?_
          show Steps p.tables e below (T249.setTop (mkF m 21 #[.val (.int p0), .val (.int p1), .val (.int v228), .val (.ref vcr), .unset, .unset] [(.int p1)])) _
          refine XS.bipush X249.here hx rfl (hb hby at_21) ?_
          show Steps p.tables e below (T249.setTop (mkF m 23 #[.val (.int p0), .val (.int p1), .val (.int v228), .val (.ref vcr), .unset, .unset] [(.int (17 : Int32)), (.int p1)])) _
          refine XS.iushr X249.here hx rfl (hb hby at_23) rfl ?_
          show Steps p.tables e below (T249.setTop (mkF m 24 #[.val (.int p0), .val (.int p1), .val (.int v228), .val (.ref vcr), .unset, .unset] [(.int ((p1.toUInt32 >>> ((17 : Int32) &&& 31).toUInt32).toInt32))])) _
          refine XS.iconst X249.here hx rfl (hb hby at_24) ?_
          show Steps p.tables e below (T249.setTop (mkF m 25 #[.val (.int p0), .val (.int p1), .val (.int v228), .val (.ref vcr), .unset, .unset] [(.int (3 : Int32)), (.int ((p1.toUInt32 >>> ((17 : Int32) &&& 31).toUInt32).toInt32))])) _
          refine XS.iand X249.here hx rfl (hb hby at_25) rfl ?_
          show Steps p.tables e below (T249.setTop (mkF m 26 #[.val (.int p0), .val (.int p1), .val (.int v228), .val (.ref vcr), .unset, .unset] [(.int (((p1.toUInt32 >>> ((17 : Int32) &&& 31).toUInt32).toInt32) &&& (3 : Int32)))])) _
          refine XS.istore X249.here hx rfl (hb hby at_26) rfl (l' := #[.val (.int p0), .val (.int p1), .val (.int v228), .val (.ref vcr), .unset, .val (.int (((p1.toUInt32 >>> ((17 : Int32) &&& 31).toUInt32).toInt32) &&& (3 : Int32)))]) rfl ?_
          show Steps p.tables e below (T249.setTop (mkF m 28 #[.val (.int p0), .val (.int p1), .val (.int v228), .val (.ref vcr), .unset, .val (.int (((p1.toUInt32 >>> ((17 : Int32) &&& 31).toUInt32).toInt32) &&& (3 : Int32)))] [])) _
          refine XS.iload X249.here hx rfl (hb hby at_28) rfl ?_
          show Steps p.tables e below (T249.setTop (mkF m 30 #[.val (.int p0), .val (.int p1), .val (.int v228), .val (.ref vcr), .unset, .val (.int (((p1.toUInt32 >>> ((17 : Int32) &&& 31).toUInt32).toInt32) &&& (3 : Int32)))] [(.int (((p1.toUInt32 >>> ((17 : Int32) &&& 31).toUInt32).toInt32) &&& (3 : Int32)))])) _
          by_cases hj30_252 : (((p1.toUInt32 >>> ((17 : Int32) &&& 31).toUInt32).toInt32) &&& (3 : Int32)) = (0 : Int32)
          · refine XS.ifNo X249.here hx rfl (hb hby at_30) rfl ((if0 _ _).trans (teq hj30_252).2) ?_
            show Steps p.tables e below (T249.setTop (mkF m 33 #[.val (.int p0), .val (.int p1), .val (.int v228), .val (.ref vcr), .unset, .val (.int (((p1.toUInt32 >>> ((17 : Int32) &&& 31).toUInt32).toInt32) &&& (3 : Int32)))] [])) _
            refine XS.bipush X249.here hx rfl (hb hby at_33) ?_
            show Steps p.tables e below (T249.setTop (mkF m 35 #[.val (.int p0), .val (.int p1), .val (.int v228), .val (.ref vcr), .unset, .val (.int (((p1.toUInt32 >>> ((17 : Int32) &&& 31).toUInt32).toInt32) &&& (3 : Int32)))] [(.int (115 : Int32))])) _
            refine XS.istore X249.here hx rfl (hb hby at_35) rfl (l' := #[.val (.int p0), .val (.int p1), .val (.int v228), .val (.ref vcr), .val (.int (115 : Int32)), .val (.int (((p1.toUInt32 >>> ((17 : Int32) &&& 31).toUInt32).toInt32) &&& (3 : Int32)))]) rfl ?_
            show Steps p.tables e below (T249.setTop (mkF m 37 #[.val (.int p0), .val (.int p1), .val (.int v228), .val (.ref vcr), .val (.int (115 : Int32)), .val (.int (((p1.toUInt32 >>> ((17 : Int32) &&& 31).toUInt32).toInt32) &&& (3 : Int32)))] [])) _
            refine XS.goto X249.here hx rfl (pc0 := 37) (pc' := 70) rfl (hb hby at_37) (by decide) (by decide) ?_
            show Steps p.tables e below (T249.setTop (mkF m 70 #[.val (.int p0), .val (.int p1), .val (.int v228), .val (.ref vcr), .val (.int (115 : Int32)), .val (.int (((p1.toUInt32 >>> ((17 : Int32) &&& 31).toUInt32).toInt32) &&& (3 : Int32)))] [])) _
            refine XS.goto X249.here hx rfl (pc0 := 70) (pc' := 80) rfl (hb hby at_70) (by decide) (by decide) ?_
            show Steps p.tables e below (T249.setTop (mkF m 80 #[.val (.int p0), .val (.int p1), .val (.int v228), .val (.ref vcr), .val (.int (115 : Int32)), .val (.int (((p1.toUInt32 >>> ((17 : Int32) &&& 31).toUInt32).toInt32) &&& (3 : Int32)))] [])) _
            simpa only [if_neg hj17_251, if_pos hj30_252] using kt
          · refine XS.ifYes X249.here hx rfl (pc0 := 30) (pc' := 40) rfl (hb hby at_30) rfl ((if0 _ _).trans (feq hj30_252).2) (by decide) (by decide) ?_
            show Steps p.tables e below (T249.setTop (mkF m 40 #[.val (.int p0), .val (.int p1), .val (.int v228), .val (.ref vcr), .unset, .val (.int (((p1.toUInt32 >>> ((17 : Int32) &&& 31).toUInt32).toInt32) &&& (3 : Int32)))] [])) _
            refine XS.iload X249.here hx rfl (hb hby at_40) rfl ?_
            show Steps p.tables e below (T249.setTop (mkF m 42 #[.val (.int p0), .val (.int p1), .val (.int v228), .val (.ref vcr), .unset, .val (.int (((p1.toUInt32 >>> ((17 : Int32) &&& 31).toUInt32).toInt32) &&& (3 : Int32)))] [(.int (((p1.toUInt32 >>> ((17 : Int32) &&& 31).toUInt32).toInt32) &&& (3 : Int32)))])) _
            refine XS.iconst X249.here hx rfl (hb hby at_42) ?_
            show Steps p.tables e below (T249.setTop (mkF m 43 #[.val (.int p0), .val (.int p1), .val (.int v228), .val (.ref vcr), .unset, .val (.int (((p1.toUInt32 >>> ((17 : Int32) &&& 31).toUInt32).toInt32) &&& (3 : Int32)))] [(.int (1 : Int32)), (.int (((p1.toUInt32 >>> ((17 : Int32) &&& 31).toUInt32).toInt32) &&& (3 : Int32)))])) _
            by_cases hj43_253 : (((p1.toUInt32 >>> ((17 : Int32) &&& 31).toUInt32).toInt32) &&& (3 : Int32)) = (1 : Int32)
            · refine XS.icmpNo X249.here hx rfl (hb hby at_43) rfl (teq hj43_253).2 ?_
              show Steps p.tables e below (T249.setTop (mkF m 46 #[.val (.int p0), .val (.int p1), .val (.int v228), .val (.ref vcr), .unset, .val (.int (((p1.toUInt32 >>> ((17 : Int32) &&& 31).toUInt32).toInt32) &&& (3 : Int32)))] [])) _
              refine XS.bipush X249.here hx rfl (hb hby at_46) ?_
              show Steps p.tables e below (T249.setTop (mkF m 48 #[.val (.int p0), .val (.int p1), .val (.int v228), .val (.ref vcr), .unset, .val (.int (((p1.toUInt32 >>> ((17 : Int32) &&& 31).toUInt32).toInt32) &&& (3 : Int32)))] [(.int (101 : Int32))])) _
              refine XS.istore X249.here hx rfl (hb hby at_48) rfl (l' := #[.val (.int p0), .val (.int p1), .val (.int v228), .val (.ref vcr), .val (.int (101 : Int32)), .val (.int (((p1.toUInt32 >>> ((17 : Int32) &&& 31).toUInt32).toInt32) &&& (3 : Int32)))]) rfl ?_
              show Steps p.tables e below (T249.setTop (mkF m 50 #[.val (.int p0), .val (.int p1), .val (.int v228), .val (.ref vcr), .val (.int (101 : Int32)), .val (.int (((p1.toUInt32 >>> ((17 : Int32) &&& 31).toUInt32).toInt32) &&& (3 : Int32)))] [])) _
              refine XS.goto X249.here hx rfl (pc0 := 50) (pc' := 70) rfl (hb hby at_50) (by decide) (by decide) ?_
              show Steps p.tables e below (T249.setTop (mkF m 70 #[.val (.int p0), .val (.int p1), .val (.int v228), .val (.ref vcr), .val (.int (101 : Int32)), .val (.int (((p1.toUInt32 >>> ((17 : Int32) &&& 31).toUInt32).toInt32) &&& (3 : Int32)))] [])) _
              refine XS.goto X249.here hx rfl (pc0 := 70) (pc' := 80) rfl (hb hby at_70) (by decide) (by decide) ?_
              show Steps p.tables e below (T249.setTop (mkF m 80 #[.val (.int p0), .val (.int p1), .val (.int v228), .val (.ref vcr), .val (.int (101 : Int32)), .val (.int (((p1.toUInt32 >>> ((17 : Int32) &&& 31).toUInt32).toInt32) &&& (3 : Int32)))] [])) _
              simpa only [if_neg hj17_251, if_neg hj30_252, if_pos hj43_253] using kt
            · refine XS.icmpYes X249.here hx rfl (pc0 := 43) (pc' := 53) rfl (hb hby at_43) rfl (feq hj43_253).2 (by decide) (by decide) ?_
              show Steps p.tables e below (T249.setTop (mkF m 53 #[.val (.int p0), .val (.int p1), .val (.int v228), .val (.ref vcr), .unset, .val (.int (((p1.toUInt32 >>> ((17 : Int32) &&& 31).toUInt32).toInt32) &&& (3 : Int32)))] [])) _
              refine XS.iload X249.here hx rfl (hb hby at_53) rfl ?_
              show Steps p.tables e below (T249.setTop (mkF m 55 #[.val (.int p0), .val (.int p1), .val (.int v228), .val (.ref vcr), .unset, .val (.int (((p1.toUInt32 >>> ((17 : Int32) &&& 31).toUInt32).toInt32) &&& (3 : Int32)))] [(.int (((p1.toUInt32 >>> ((17 : Int32) &&& 31).toUInt32).toInt32) &&& (3 : Int32)))])) _
              refine XS.iconst X249.here hx rfl (hb hby at_55) ?_
              show Steps p.tables e below (T249.setTop (mkF m 56 #[.val (.int p0), .val (.int p1), .val (.int v228), .val (.ref vcr), .unset, .val (.int (((p1.toUInt32 >>> ((17 : Int32) &&& 31).toUInt32).toInt32) &&& (3 : Int32)))] [(.int (2 : Int32)), (.int (((p1.toUInt32 >>> ((17 : Int32) &&& 31).toUInt32).toInt32) &&& (3 : Int32)))])) _
              by_cases hj56_254 : (((p1.toUInt32 >>> ((17 : Int32) &&& 31).toUInt32).toInt32) &&& (3 : Int32)) = (2 : Int32)
              · refine XS.icmpNo X249.here hx rfl (hb hby at_56) rfl (teq hj56_254).2 ?_
                show Steps p.tables e below (T249.setTop (mkF m 59 #[.val (.int p0), .val (.int p1), .val (.int v228), .val (.ref vcr), .unset, .val (.int (((p1.toUInt32 >>> ((17 : Int32) &&& 31).toUInt32).toInt32) &&& (3 : Int32)))] [])) _
                refine XS.bipush X249.here hx rfl (hb hby at_59) ?_
                show Steps p.tables e below (T249.setTop (mkF m 61 #[.val (.int p0), .val (.int p1), .val (.int v228), .val (.ref vcr), .unset, .val (.int (((p1.toUInt32 >>> ((17 : Int32) &&& 31).toUInt32).toInt32) &&& (3 : Int32)))] [(.int (118 : Int32))])) _
                refine XS.istore X249.here hx rfl (hb hby at_61) rfl (l' := #[.val (.int p0), .val (.int p1), .val (.int v228), .val (.ref vcr), .val (.int (118 : Int32)), .val (.int (((p1.toUInt32 >>> ((17 : Int32) &&& 31).toUInt32).toInt32) &&& (3 : Int32)))]) rfl ?_
                show Steps p.tables e below (T249.setTop (mkF m 63 #[.val (.int p0), .val (.int p1), .val (.int v228), .val (.ref vcr), .val (.int (118 : Int32)), .val (.int (((p1.toUInt32 >>> ((17 : Int32) &&& 31).toUInt32).toInt32) &&& (3 : Int32)))] [])) _
                refine XS.goto X249.here hx rfl (pc0 := 63) (pc' := 70) rfl (hb hby at_63) (by decide) (by decide) ?_
                show Steps p.tables e below (T249.setTop (mkF m 70 #[.val (.int p0), .val (.int p1), .val (.int v228), .val (.ref vcr), .val (.int (118 : Int32)), .val (.int (((p1.toUInt32 >>> ((17 : Int32) &&& 31).toUInt32).toInt32) &&& (3 : Int32)))] [])) _
                refine XS.goto X249.here hx rfl (pc0 := 70) (pc' := 80) rfl (hb hby at_70) (by decide) (by decide) ?_
                show Steps p.tables e below (T249.setTop (mkF m 80 #[.val (.int p0), .val (.int p1), .val (.int v228), .val (.ref vcr), .val (.int (118 : Int32)), .val (.int (((p1.toUInt32 >>> ((17 : Int32) &&& 31).toUInt32).toInt32) &&& (3 : Int32)))] [])) _
                simpa only [if_neg hj17_251, if_neg hj30_252, if_neg hj43_253, if_pos hj56_254] using kt
              · refine XS.icmpYes X249.here hx rfl (pc0 := 56) (pc' := 66) rfl (hb hby at_56) rfl (feq hj56_254).2 (by decide) (by decide) ?_
                show Steps p.tables e below (T249.setTop (mkF m 66 #[.val (.int p0), .val (.int p1), .val (.int v228), .val (.ref vcr), .unset, .val (.int (((p1.toUInt32 >>> ((17 : Int32) &&& 31).toUInt32).toInt32) &&& (3 : Int32)))] [])) _
                refine XS.bipush X249.here hx rfl (hb hby at_66) ?_
                show Steps p.tables e below (T249.setTop (mkF m 68 #[.val (.int p0), .val (.int p1), .val (.int v228), .val (.ref vcr), .unset, .val (.int (((p1.toUInt32 >>> ((17 : Int32) &&& 31).toUInt32).toInt32) &&& (3 : Int32)))] [(.int (58 : Int32))])) _
                refine XS.istore X249.here hx rfl (hb hby at_68) rfl (l' := #[.val (.int p0), .val (.int p1), .val (.int v228), .val (.ref vcr), .val (.int (58 : Int32)), .val (.int (((p1.toUInt32 >>> ((17 : Int32) &&& 31).toUInt32).toInt32) &&& (3 : Int32)))]) rfl ?_
                show Steps p.tables e below (T249.setTop (mkF m 70 #[.val (.int p0), .val (.int p1), .val (.int v228), .val (.ref vcr), .val (.int (58 : Int32)), .val (.int (((p1.toUInt32 >>> ((17 : Int32) &&& 31).toUInt32).toInt32) &&& (3 : Int32)))] [])) _
                refine XS.goto X249.here hx rfl (pc0 := 70) (pc' := 80) rfl (hb hby at_70) (by decide) (by decide) ?_
                show Steps p.tables e below (T249.setTop (mkF m 80 #[.val (.int p0), .val (.int p1), .val (.int v228), .val (.ref vcr), .val (.int (58 : Int32)), .val (.int (((p1.toUInt32 >>> ((17 : Int32) &&& 31).toUInt32).toInt32) &&& (3 : Int32)))] [])) _
                simpa only [if_neg hj17_251, if_neg hj30_252, if_neg hj43_253, if_neg hj56_254] using kt
      obtain ⟨v256, hv256⟩ : ∃ z : Int32, z = (if (p1 &&& (65536 : Int32)) = (0 : Int32) then ((p1 &&& (65535 : Int32)).toUInt32.toUInt16.toUInt32.toInt32) else (if (((p1.toUInt32 >>> ((17 : Int32) &&& 31).toUInt32).toInt32) &&& (3 : Int32)) = (0 : Int32) then (115 : Int32) else (if (((p1.toUInt32 >>> ((17 : Int32) &&& 31).toUInt32).toInt32) &&& (3 : Int32)) = (1 : Int32) then (101 : Int32) else (if (((p1.toUInt32 >>> ((17 : Int32) &&& 31).toUInt32).toInt32) &&& (3 : Int32)) = (2 : Int32) then (118 : Int32) else (58 : Int32))))) := ⟨_, rfl⟩
      rw [← hv256] at k255
      obtain ⟨sl257, hsl257⟩ : ∃ z : Slot, z = (if (p1 &&& (65536 : Int32)) = (0 : Int32) then (.unset : Slot) else .val (.int (((p1.toUInt32 >>> ((17 : Int32) &&& 31).toUInt32).toInt32) &&& (3 : Int32)))) := ⟨_, rfl⟩
      have osl257 : One sl257 := by rw [hsl257]; repeat' split; all_goals first | exact One.u | exact One.val rfl
      rw [← hsl257] at k255
      obtain ⟨_, _, ⟨T258, L258, kc258, nc258⟩, -, X258, ⟨Lc258, hQ258, l258, y258, z258⟩, st258⟩ := Jvm.LawKit.callS X249 hx (y := (⟨"com/example/grendel/grendel/cli/VerbTakesPinLaw", "expect", "(IC)Z"⟩ : MethodName)) hown (mvT hZ (hw _ (List.mem_of_getElem? (i := 10) rfl))) (mvT hZ (hw _ (List.mem_of_getElem? (i := 11) rfl))) (mvT hZ (hw _ (List.mem_of_getElem? (i := 3) rfl))) (mvT hZ (hw _ (List.mem_of_getElem? (i := 12) rfl))) (by decide) (backOf (W := 0) (rm2 l Z a0 hw [] v228 v256 h0 n0 ) hZ (hw _ (List.mem_of_getElem? (i := 12) rfl)) (hw _ (List.mem_of_getElem? (i := 3) rfl)) (by decide) (by decide)) (g := (mkF m 83 #[.val (.int p0), .val (.int p1), .val (.int v228), .val (.ref vcr), .val (.int v256), sl257] [(.int v256), (.int v228)])) rfl (by rw [hml]; rfl) (argsL := [(.int v228), (.int v256)]) (rest := []) (lenOf pd_1 rfl) rfl (by show 2 * 0 + _ ≤ _; exact Nat.le_of_eq rfl) (hb hby at_83) (fun _ _ => ⟨rfl, eq249, (by decide : 0 + 0 ≤ _), (by decide : 0 + 0 ≤ _)⟩)
      dsimp only [Pt.U, Pt.locs, Pt.cells, Pt.slots] at X258 l258 y258 z258 st258 hQ258
      rw [l258, y258, z258] at X258
      replace X258 : Stand p l e room_1 s m #[(.int p0), (.int p1)] below meth c T258 _ 0 0 := X258
      obtain ⟨rfl, Nq258, eq258⟩ := hQ258
      have N258 := Fr.app N249 Nq258
      have k259 : ∀ tg_, Steps p.tables e below (T258.setTop (mkF m 86 #[.val (.int p0), .val (.int p1), .val (.int v228), .val (.ref vcr), .val (.int v256), sl257] [(.int (own_exp v228 v256))])) tg_ → Steps p.tables e below (s₁.setTop (entryFrame m #[(.int p0), (.int p1)] maxLocals)) tg_ := by
        intro tg_ kt
        refine k255 tg_ ?_
        refine XS.iloadN X249.here hx rfl (hb hby at_80) rfl ?_
        show Steps p.tables e below (T249.setTop (mkF m 81 #[.val (.int p0), .val (.int p1), .val (.int v228), .val (.ref vcr), .val (.int v256), sl257] [(.int v228)])) _
        refine XS.iload X249.here hx rfl (hb hby at_81) rfl ?_
        show Steps p.tables e below (T249.setTop (mkF m 83 #[.val (.int p0), .val (.int p1), .val (.int v228), .val (.ref vcr), .val (.int v256), sl257] [(.int v256), (.int v228)])) _
        refine st258 _ ?_
        show Steps p.tables e below (T258.setTop (mkF m 86 #[.val (.int p0), .val (.int p1), .val (.int v228), .val (.ref vcr), .val (.int v256), sl257] [(.int (own_exp v228 v256))])) _
        exact kt
      obtain ⟨r260, hr260⟩ : ∃ z : Int32, z = (own_exp v228 v256) := ⟨_, rfl⟩
      rw [← hr260] at k259
      obtain ⟨cq261, kq261, q261a, q261b, q261c⟩ := isOf hZ eq258 E_vcr
      obtain ⟨_, _, ⟨T261, L261, kc261, nc261⟩, -, X261, ⟨Lc261, hQ261, l261, y261, z261⟩, st261⟩ := X258.virtualBack hx (y := (⟨"com/example/grendel/grendel/cli/Verb", "takes", "(C)Z"⟩ : MethodName)) (z := (⟨"com/example/grendel/grendel/cli/Verb", "takes", "(C)Z"⟩ : MethodName)) hown (mvT hZ (hw _ (List.mem_of_getElem? (i := 13) rfl))) (mvT hZ (hw _ (List.mem_of_getElem? (i := 14) rfl))) (notFace_of_selects (args := #[]) (mvT hZ (hw _ (List.mem_of_getElem? (i := 16) rfl)))) (mvT hZ (hw _ (List.mem_of_getElem? (i := 16) rfl))) (mvT hZ (hw _ (List.mem_of_getElem? (i := 15) rfl))) (by decide) (backOf (W := 0) (rmtk_2 l Z a0 hw [] vcr v256 zc oc ocv foc (115 : Int32) (101 : Int32) h0 n0 E_oc F_vcr Fv_oc Fc_oc V_oc S_cs hz hy_oc_0 hy_oc_1) hZ (hw _ (List.mem_of_getElem? (i := 17) rfl)) (hw _ (List.mem_of_getElem? (i := 6) rfl)) (by decide) (by decide)) q261a q261c (g := (mkF m 91 #[.val (.int p0), .val (.int p1), .val (.int v228), .val (.ref vcr), .val (.int v256), .val (.int r260)] [(.int v256), (.ref vcr)])) rfl (by rw [hml]; rfl) (Steps.refl _) (argsL := [(.int v256)]) (rest := []) (lenOf pd_2 rfl) rfl (by show 2 * 0 + _ ≤ _; exact Nat.le_of_eq rfl) (hb hby at_91) (fun _ _ => ⟨rfl, eq258, (by decide : 0 + 0 ≤ _), (by decide : 0 + 0 ≤ _)⟩)
      dsimp only [Pt.U, Pt.locs, Pt.cells, Pt.slots] at X261 l261 y261 z261 st261 hQ261
      rw [l261, y261, z261] at X261
      replace X261 : Stand p l e room_1 s m #[(.int p0), (.int p1)] below meth c T261 _ 0 0 := X261
      obtain ⟨rfl, Nq261, eq261⟩ := hQ261
      have N261 := Fr.app N258 Nq261
      have k262 : ∀ tg_, Steps p.tables e below (T261.setTop (mkF m 94 #[.val (.int p0), .val (.int p1), .val (.int v228), .val (.ref vcr), .val (.int v256), .val (.int r260)] [(.int (own_tk_2 v256 (115 : Int32) (101 : Int32)))])) tg_ → Steps p.tables e below (s₁.setTop (entryFrame m #[(.int p0), (.int p1)] maxLocals)) tg_ := by
        intro tg_ kt
        refine k259 tg_ ?_
        show Steps p.tables e below (T258.setTop (mkF m 86 #[.val (.int p0), .val (.int p1), .val (.int v228), .val (.ref vcr), .val (.int v256), sl257] [(.int r260)])) _
        refine XS.istoreS X258.here hx rfl (hb hby at_86) rfl rfl osl257 ?_
        show Steps p.tables e below (T258.setTop (mkF m 88 #[.val (.int p0), .val (.int p1), .val (.int v228), .val (.ref vcr), .val (.int v256), .val (.int r260)] [])) _
        refine XS.aloadN X258.here hx rfl (hb hby at_88) rfl rfl ?_
        show Steps p.tables e below (T258.setTop (mkF m 89 #[.val (.int p0), .val (.int p1), .val (.int v228), .val (.ref vcr), .val (.int v256), .val (.int r260)] [(.ref vcr)])) _
        refine XS.iload X258.here hx rfl (hb hby at_89) rfl ?_
        show Steps p.tables e below (T258.setTop (mkF m 91 #[.val (.int p0), .val (.int p1), .val (.int v228), .val (.ref vcr), .val (.int v256), .val (.int r260)] [(.int v256), (.ref vcr)])) _
        refine st261.trans ?_
        show Steps p.tables e below (T261.setTop (mkF m 94 #[.val (.int p0), .val (.int p1), .val (.int v228), .val (.ref vcr), .val (.int v256), .val (.int r260)] [(.int (own_tk_2 v256 (115 : Int32) (101 : Int32)))])) _
        exact kt
      obtain ⟨r263, hr263⟩ : ∃ z : Int32, z = (own_tk_2 v256 (115 : Int32) (101 : Int32)) := ⟨_, rfl⟩
      rw [← hr263] at k262
      have hc96_264 : r263 = r260 := (by rw [hr263]; rw [hr260]; exact own_lw1 _ _ hc9_248)
      have k265 : ∀ tg_, Steps p.tables e below (T261.setTop (mkF m 104 #[.val (.int p0), .val (.int p1), .val (.int v228), .val (.ref vcr), .val (.int v256), .val (.int r260)] [(.int (1 : Int32))])) tg_ → Steps p.tables e below (s₁.setTop (entryFrame m #[(.int p0), (.int p1)] maxLocals)) tg_ := by
        intro tg_ kt
        refine k262 tg_ ?_
        show Steps p.tables e below (T261.setTop (mkF m 94 #[.val (.int p0), .val (.int p1), .val (.int v228), .val (.ref vcr), .val (.int v256), .val (.int r260)] [(.int r263)])) _
        refine XS.iload X261.here hx rfl (hb hby at_94) rfl ?_
        show Steps p.tables e below (T261.setTop (mkF m 96 #[.val (.int p0), .val (.int p1), .val (.int v228), .val (.ref vcr), .val (.int v256), .val (.int r260)] [(.int r260), (.int r263)])) _
        refine XS.icmpNo X261.here hx rfl (hb hby at_96) rfl (teq hc96_264).2 ?_
        show Steps p.tables e below (T261.setTop (mkF m 99 #[.val (.int p0), .val (.int p1), .val (.int v228), .val (.ref vcr), .val (.int v256), .val (.int r260)] [])) _
        refine XS.iconst X261.here hx rfl (hb hby at_99) ?_
        show Steps p.tables e below (T261.setTop (mkF m 100 #[.val (.int p0), .val (.int p1), .val (.int v228), .val (.ref vcr), .val (.int v256), .val (.int r260)] [(.int (1 : Int32))])) _
        refine XS.goto X261.here hx rfl (pc0 := 100) (pc' := 104) rfl (hb hby at_100) (by decide) (by decide) ?_
        show Steps p.tables e below (T261.setTop (mkF m 104 #[.val (.int p0), .val (.int p1), .val (.int v228), .val (.ref vcr), .val (.int v256), .val (.int r260)] [(.int (1 : Int32))])) _
        exact kt
      obtain ⟨fs, hr, hrun, hended, hW, hsame⟩ := X261.leave (v := some (.int (1 : Int32))) (fun h => by rw [Bd.returns] at h; cases h)
      refine ⟨_, _, k265 _ (retN X261 hx (t := .boolean) Bd.returns (by simp) (hb hby at_104) hr), hrun, hended, _, _, rfl, ?_, ⟨_, rfl⟩, hW, hsame.mono (by decide) (by decide)⟩
      show Q0 Z p0 p1 zc ol olv fol oc ocv foc od odv fod oe oev foe vls vcr vge vse vst vde vda vsy vhe vqu h0 n0 _ T261.heap _
      rw [eq261]
      exact ⟨rfl, N261⟩
    · by_cases hc9_266 : v228 = (2 : Int32)
      · obtain ⟨_, _, ⟨T267, L267, kc267, nc267⟩, -, X267, ⟨Lc267, hQ267, l267, y267, z267⟩, st267⟩ := Jvm.LawKit.callS X0 hx (y := (⟨"com/example/grendel/grendel/cli/VerbTakesPinLaw", "pick", "(I)Lcom/example/grendel/grendel/cli/Verb;"⟩ : MethodName)) hown (mvT hZ (hw _ (List.mem_of_getElem? (i := 1) rfl))) (mvT hZ (hw _ (List.mem_of_getElem? (i := 2) rfl))) (mvT hZ (hw _ (List.mem_of_getElem? (i := 3) rfl))) (mvT hZ (hw _ (List.mem_of_getElem? (i := 4) rfl))) (by decide) (backOf (W := 0) (rmpick2 l Z a0 hw [] v228 vge h0 n0 S_vge hc9_266) hZ (hw _ (List.mem_of_getElem? (i := 4) rfl)) (hw _ (List.mem_of_getElem? (i := 3) rfl)) (by decide) (by decide)) (g := (mkF m 9 #[.val (.int p0), .val (.int p1), .val (.int v228), .unset, .unset, .unset] [(.int v228)])) rfl (by rw [hml]; rfl) (argsL := [(.int v228)]) (rest := []) (lenOf pd_0 rfl) rfl (by show 2 * 0 + _ ≤ _; exact Nat.le_of_eq rfl) (hb hby at_9) (fun _ _ => ⟨rfl, e0, (by decide : 0 + 0 ≤ _), (by decide : 0 + 0 ≤ _)⟩)
        dsimp only [Pt.U, Pt.locs, Pt.cells, Pt.slots] at X267 l267 y267 z267 st267 hQ267
        rw [l267, y267, z267] at X267
        replace X267 : Stand p l e room_1 s m #[(.int p0), (.int p1)] below meth c T267 _ 0 0 := X267
        obtain ⟨rfl, Nq267, eq267⟩ := hQ267
        have N267 := Fr.app N0 Nq267
        have k268 : ∀ tg_, Steps p.tables e below (T267.setTop (mkF m 17 #[.val (.int p0), .val (.int p1), .val (.int v228), .val (.ref vge), .unset, .unset] [(.int (p1 &&& (65536 : Int32)))])) tg_ → Steps p.tables e below (s₁.setTop (entryFrame m #[(.int p0), (.int p1)] maxLocals)) tg_ := by
          intro tg_ kt
          refine k229 tg_ ?_
          refine st267 _ ?_
          show Steps p.tables e below (T267.setTop (mkF m 12 #[.val (.int p0), .val (.int p1), .val (.int v228), .unset, .unset, .unset] [(.ref vge)])) _
          refine XS.astoreN X267.here hx rfl (hb hby at_12) rfl rfl (l' := #[.val (.int p0), .val (.int p1), .val (.int v228), .val (.ref vge), .unset, .unset]) rfl ?_
          show Steps p.tables e below (T267.setTop (mkF m 13 #[.val (.int p0), .val (.int p1), .val (.int v228), .val (.ref vge), .unset, .unset] [])) _
          refine XS.iloadN X267.here hx rfl (hb hby at_13) rfl ?_
          show Steps p.tables e below (T267.setTop (mkF m 14 #[.val (.int p0), .val (.int p1), .val (.int v228), .val (.ref vge), .unset, .unset] [(.int p1)])) _
          refine X267.ldcInt hx hown (mvT hZ (hw _ (List.mem_of_getElem? (i := 8) rfl))) (g := (mkF m 14 #[.val (.int p0), .val (.int p1), .val (.int v228), .val (.ref vge), .unset, .unset] [(.int p1)])) rfl (hb hby at_14) _ ?_
          show Steps p.tables e below (T267.setTop (mkF m 16 #[.val (.int p0), .val (.int p1), .val (.int v228), .val (.ref vge), .unset, .unset] [(.int (65536 : Int32)), (.int p1)])) _
          refine XS.iand X267.here hx rfl (hb hby at_16) rfl ?_
          show Steps p.tables e below (T267.setTop (mkF m 17 #[.val (.int p0), .val (.int p1), .val (.int v228), .val (.ref vge), .unset, .unset] [(.int (p1 &&& (65536 : Int32)))])) _
          exact kt
        have k273 : ∀ tg_, Steps p.tables e below (T267.setTop (mkF m 80 #[.val (.int p0), .val (.int p1), .val (.int v228), .val (.ref vge), .val (.int (if (p1 &&& (65536 : Int32)) = (0 : Int32) then ((p1 &&& (65535 : Int32)).toUInt32.toUInt16.toUInt32.toInt32) else (if (((p1.toUInt32 >>> ((17 : Int32) &&& 31).toUInt32).toInt32) &&& (3 : Int32)) = (0 : Int32) then (115 : Int32) else (if (((p1.toUInt32 >>> ((17 : Int32) &&& 31).toUInt32).toInt32) &&& (3 : Int32)) = (1 : Int32) then (101 : Int32) else (if (((p1.toUInt32 >>> ((17 : Int32) &&& 31).toUInt32).toInt32) &&& (3 : Int32)) = (2 : Int32) then (118 : Int32) else (58 : Int32)))))), (if (p1 &&& (65536 : Int32)) = (0 : Int32) then (.unset : Slot) else .val (.int (((p1.toUInt32 >>> ((17 : Int32) &&& 31).toUInt32).toInt32) &&& (3 : Int32))))] [])) tg_ → Steps p.tables e below (s₁.setTop (entryFrame m #[(.int p0), (.int p1)] maxLocals)) tg_ := by
          intro tg_ kt
          refine k268 tg_ ?_
          by_cases hj17_269 : (p1 &&& (65536 : Int32)) = (0 : Int32)
          · refine XS.ifYes X267.here hx rfl (pc0 := 17) (pc' := 73) rfl (hb hby at_17) rfl ((if0 _ _).trans (teq hj17_269).1) (by decide) (by decide) ?_
            show Steps p.tables e below (T267.setTop (mkF m 73 #[.val (.int p0), .val (.int p1), .val (.int v228), .val (.ref vge), .unset, .unset] [])) _
            refine XS.iloadN X267.here hx rfl (hb hby at_73) rfl ?_
            show Steps p.tables e below (T267.setTop (mkF m 74 #[.val (.int p0), .val (.int p1), .val (.int v228), .val (.ref vge), .unset, .unset] [(.int p1)])) _
            refine X267.ldcInt hx hown (mvT hZ (hw _ (List.mem_of_getElem? (i := 9) rfl))) (g := (mkF m 74 #[.val (.int p0), .val (.int p1), .val (.int v228), .val (.ref vge), .unset, .unset] [(.int p1)])) rfl (hb hby at_74) _ ?_
            show Steps p.tables e below (T267.setTop (mkF m 76 #[.val (.int p0), .val (.int p1), .val (.int v228), .val (.ref vge), .unset, .unset] [(.int (65535 : Int32)), (.int p1)])) _
            refine XS.iand X267.here hx rfl (hb hby at_76) rfl ?_
            show Steps p.tables e below (T267.setTop (mkF m 77 #[.val (.int p0), .val (.int p1), .val (.int v228), .val (.ref vge), .unset, .unset] [(.int (p1 &&& (65535 : Int32)))])) _
            refine XS.i2c X267.here hx rfl (hb hby at_77) rfl ?_
            show Steps p.tables e below (T267.setTop (mkF m 78 #[.val (.int p0), .val (.int p1), .val (.int v228), .val (.ref vge), .unset, .unset] [(.int ((p1 &&& (65535 : Int32)).toUInt32.toUInt16.toUInt32.toInt32))])) _
            refine XS.istore X267.here hx rfl (hb hby at_78) rfl (l' := #[.val (.int p0), .val (.int p1), .val (.int v228), .val (.ref vge), .val (.int ((p1 &&& (65535 : Int32)).toUInt32.toUInt16.toUInt32.toInt32)), .unset]) rfl ?_
            show Steps p.tables e below (T267.setTop (mkF m 80 #[.val (.int p0), .val (.int p1), .val (.int v228), .val (.ref vge), .val (.int ((p1 &&& (65535 : Int32)).toUInt32.toUInt16.toUInt32.toInt32)), .unset] [])) _
            simpa only [if_pos hj17_269] using kt
          · refine XS.ifNo X267.here hx rfl (hb hby at_17) rfl ((if0 _ _).trans (feq hj17_269).1) ?_
            show Steps p.tables e below (T267.setTop (mkF m 20 #[.val (.int p0), .val (.int p1), .val (.int v228), .val (.ref vge), .unset, .unset] [])) _
            refine XS.iloadN X267.here hx rfl (hb hby at_20) rfl ?_
            show Steps p.tables e below (T267.setTop (mkF m 21 #[.val (.int p0), .val (.int p1), .val (.int v228), .val (.ref vge), .unset, .unset] [(.int p1)])) _
            refine XS.bipush X267.here hx rfl (hb hby at_21) ?_
            show Steps p.tables e below (T267.setTop (mkF m 23 #[.val (.int p0), .val (.int p1), .val (.int v228), .val (.ref vge), .unset, .unset] [(.int (17 : Int32)), (.int p1)])) _
            refine XS.iushr X267.here hx rfl (hb hby at_23) rfl ?_
            show Steps p.tables e below (T267.setTop (mkF m 24 #[.val (.int p0), .val (.int p1), .val (.int v228), .val (.ref vge), .unset, .unset] [(.int ((p1.toUInt32 >>> ((17 : Int32) &&& 31).toUInt32).toInt32))])) _
            refine XS.iconst X267.here hx rfl (hb hby at_24) ?_
            show Steps p.tables e below (T267.setTop (mkF m 25 #[.val (.int p0), .val (.int p1), .val (.int v228), .val (.ref vge), .unset, .unset] [(.int (3 : Int32)), (.int ((p1.toUInt32 >>> ((17 : Int32) &&& 31).toUInt32).toInt32))])) _
            refine XS.iand X267.here hx rfl (hb hby at_25) rfl ?_
            show Steps p.tables e below (T267.setTop (mkF m 26 #[.val (.int p0), .val (.int p1), .val (.int v228), .val (.ref vge), .unset, .unset] [(.int (((p1.toUInt32 >>> ((17 : Int32) &&& 31).toUInt32).toInt32) &&& (3 : Int32)))])) _
            refine XS.istore X267.here hx rfl (hb hby at_26) rfl (l' := #[.val (.int p0), .val (.int p1), .val (.int v228), .val (.ref vge), .unset, .val (.int (((p1.toUInt32 >>> ((17 : Int32) &&& 31).toUInt32).toInt32) &&& (3 : Int32)))]) rfl ?_
            show Steps p.tables e below (T267.setTop (mkF m 28 #[.val (.int p0), .val (.int p1), .val (.int v228), .val (.ref vge), .unset, .val (.int (((p1.toUInt32 >>> ((17 : Int32) &&& 31).toUInt32).toInt32) &&& (3 : Int32)))] [])) _
            refine XS.iload X267.here hx rfl (hb hby at_28) rfl ?_
            show Steps p.tables e below (T267.setTop (mkF m 30 #[.val (.int p0), .val (.int p1), .val (.int v228), .val (.ref vge), .unset, .val (.int (((p1.toUInt32 >>> ((17 : Int32) &&& 31).toUInt32).toInt32) &&& (3 : Int32)))] [(.int (((p1.toUInt32 >>> ((17 : Int32) &&& 31).toUInt32).toInt32) &&& (3 : Int32)))])) _
            by_cases hj30_270 : (((p1.toUInt32 >>> ((17 : Int32) &&& 31).toUInt32).toInt32) &&& (3 : Int32)) = (0 : Int32)
            · refine XS.ifNo X267.here hx rfl (hb hby at_30) rfl ((if0 _ _).trans (teq hj30_270).2) ?_
              show Steps p.tables e below (T267.setTop (mkF m 33 #[.val (.int p0), .val (.int p1), .val (.int v228), .val (.ref vge), .unset, .val (.int (((p1.toUInt32 >>> ((17 : Int32) &&& 31).toUInt32).toInt32) &&& (3 : Int32)))] [])) _
              refine XS.bipush X267.here hx rfl (hb hby at_33) ?_
              show Steps p.tables e below (T267.setTop (mkF m 35 #[.val (.int p0), .val (.int p1), .val (.int v228), .val (.ref vge), .unset, .val (.int (((p1.toUInt32 >>> ((17 : Int32) &&& 31).toUInt32).toInt32) &&& (3 : Int32)))] [(.int (115 : Int32))])) _
              refine XS.istore X267.here hx rfl (hb hby at_35) rfl (l' := #[.val (.int p0), .val (.int p1), .val (.int v228), .val (.ref vge), .val (.int (115 : Int32)), .val (.int (((p1.toUInt32 >>> ((17 : Int32) &&& 31).toUInt32).toInt32) &&& (3 : Int32)))]) rfl ?_
              show Steps p.tables e below (T267.setTop (mkF m 37 #[.val (.int p0), .val (.int p1), .val (.int v228), .val (.ref vge), .val (.int (115 : Int32)), .val (.int (((p1.toUInt32 >>> ((17 : Int32) &&& 31).toUInt32).toInt32) &&& (3 : Int32)))] [])) _
              refine XS.goto X267.here hx rfl (pc0 := 37) (pc' := 70) rfl (hb hby at_37) (by decide) (by decide) ?_
              show Steps p.tables e below (T267.setTop (mkF m 70 #[.val (.int p0), .val (.int p1), .val (.int v228), .val (.ref vge), .val (.int (115 : Int32)), .val (.int (((p1.toUInt32 >>> ((17 : Int32) &&& 31).toUInt32).toInt32) &&& (3 : Int32)))] [])) _
              refine XS.goto X267.here hx rfl (pc0 := 70) (pc' := 80) rfl (hb hby at_70) (by decide) (by decide) ?_
              show Steps p.tables e below (T267.setTop (mkF m 80 #[.val (.int p0), .val (.int p1), .val (.int v228), .val (.ref vge), .val (.int (115 : Int32)), .val (.int (((p1.toUInt32 >>> ((17 : Int32) &&& 31).toUInt32).toInt32) &&& (3 : Int32)))] [])) _
              simpa only [if_neg hj17_269, if_pos hj30_270] using kt
            · refine XS.ifYes X267.here hx rfl (pc0 := 30) (pc' := 40) rfl (hb hby at_30) rfl ((if0 _ _).trans (feq hj30_270).2) (by decide) (by decide) ?_
              show Steps p.tables e below (T267.setTop (mkF m 40 #[.val (.int p0), .val (.int p1), .val (.int v228), .val (.ref vge), .unset, .val (.int (((p1.toUInt32 >>> ((17 : Int32) &&& 31).toUInt32).toInt32) &&& (3 : Int32)))] [])) _
              refine XS.iload X267.here hx rfl (hb hby at_40) rfl ?_
              show Steps p.tables e below (T267.setTop (mkF m 42 #[.val (.int p0), .val (.int p1), .val (.int v228), .val (.ref vge), .unset, .val (.int (((p1.toUInt32 >>> ((17 : Int32) &&& 31).toUInt32).toInt32) &&& (3 : Int32)))] [(.int (((p1.toUInt32 >>> ((17 : Int32) &&& 31).toUInt32).toInt32) &&& (3 : Int32)))])) _
              refine XS.iconst X267.here hx rfl (hb hby at_42) ?_
              show Steps p.tables e below (T267.setTop (mkF m 43 #[.val (.int p0), .val (.int p1), .val (.int v228), .val (.ref vge), .unset, .val (.int (((p1.toUInt32 >>> ((17 : Int32) &&& 31).toUInt32).toInt32) &&& (3 : Int32)))] [(.int (1 : Int32)), (.int (((p1.toUInt32 >>> ((17 : Int32) &&& 31).toUInt32).toInt32) &&& (3 : Int32)))])) _
              by_cases hj43_271 : (((p1.toUInt32 >>> ((17 : Int32) &&& 31).toUInt32).toInt32) &&& (3 : Int32)) = (1 : Int32)
              · refine XS.icmpNo X267.here hx rfl (hb hby at_43) rfl (teq hj43_271).2 ?_
                show Steps p.tables e below (T267.setTop (mkF m 46 #[.val (.int p0), .val (.int p1), .val (.int v228), .val (.ref vge), .unset, .val (.int (((p1.toUInt32 >>> ((17 : Int32) &&& 31).toUInt32).toInt32) &&& (3 : Int32)))] [])) _
                refine XS.bipush X267.here hx rfl (hb hby at_46) ?_
                show Steps p.tables e below (T267.setTop (mkF m 48 #[.val (.int p0), .val (.int p1), .val (.int v228), .val (.ref vge), .unset, .val (.int (((p1.toUInt32 >>> ((17 : Int32) &&& 31).toUInt32).toInt32) &&& (3 : Int32)))] [(.int (101 : Int32))])) _
                refine XS.istore X267.here hx rfl (hb hby at_48) rfl (l' := #[.val (.int p0), .val (.int p1), .val (.int v228), .val (.ref vge), .val (.int (101 : Int32)), .val (.int (((p1.toUInt32 >>> ((17 : Int32) &&& 31).toUInt32).toInt32) &&& (3 : Int32)))]) rfl ?_
                show Steps p.tables e below (T267.setTop (mkF m 50 #[.val (.int p0), .val (.int p1), .val (.int v228), .val (.ref vge), .val (.int (101 : Int32)), .val (.int (((p1.toUInt32 >>> ((17 : Int32) &&& 31).toUInt32).toInt32) &&& (3 : Int32)))] [])) _
                refine XS.goto X267.here hx rfl (pc0 := 50) (pc' := 70) rfl (hb hby at_50) (by decide) (by decide) ?_
                show Steps p.tables e below (T267.setTop (mkF m 70 #[.val (.int p0), .val (.int p1), .val (.int v228), .val (.ref vge), .val (.int (101 : Int32)), .val (.int (((p1.toUInt32 >>> ((17 : Int32) &&& 31).toUInt32).toInt32) &&& (3 : Int32)))] [])) _
                refine XS.goto X267.here hx rfl (pc0 := 70) (pc' := 80) rfl (hb hby at_70) (by decide) (by decide) ?_
                show Steps p.tables e below (T267.setTop (mkF m 80 #[.val (.int p0), .val (.int p1), .val (.int v228), .val (.ref vge), .val (.int (101 : Int32)), .val (.int (((p1.toUInt32 >>> ((17 : Int32) &&& 31).toUInt32).toInt32) &&& (3 : Int32)))] [])) _
                simpa only [if_neg hj17_269, if_neg hj30_270, if_pos hj43_271] using kt
              · refine XS.icmpYes X267.here hx rfl (pc0 := 43) (pc' := 53) rfl (hb hby at_43) rfl (feq hj43_271).2 (by decide) (by decide) ?_
                show Steps p.tables e below (T267.setTop (mkF m 53 #[.val (.int p0), .val (.int p1), .val (.int v228), .val (.ref vge), .unset, .val (.int (((p1.toUInt32 >>> ((17 : Int32) &&& 31).toUInt32).toInt32) &&& (3 : Int32)))] [])) _
                refine XS.iload X267.here hx rfl (hb hby at_53) rfl ?_
                show Steps p.tables e below (T267.setTop (mkF m 55 #[.val (.int p0), .val (.int p1), .val (.int v228), .val (.ref vge), .unset, .val (.int (((p1.toUInt32 >>> ((17 : Int32) &&& 31).toUInt32).toInt32) &&& (3 : Int32)))] [(.int (((p1.toUInt32 >>> ((17 : Int32) &&& 31).toUInt32).toInt32) &&& (3 : Int32)))])) _
                refine XS.iconst X267.here hx rfl (hb hby at_55) ?_
                show Steps p.tables e below (T267.setTop (mkF m 56 #[.val (.int p0), .val (.int p1), .val (.int v228), .val (.ref vge), .unset, .val (.int (((p1.toUInt32 >>> ((17 : Int32) &&& 31).toUInt32).toInt32) &&& (3 : Int32)))] [(.int (2 : Int32)), (.int (((p1.toUInt32 >>> ((17 : Int32) &&& 31).toUInt32).toInt32) &&& (3 : Int32)))])) _
                by_cases hj56_272 : (((p1.toUInt32 >>> ((17 : Int32) &&& 31).toUInt32).toInt32) &&& (3 : Int32)) = (2 : Int32)
                · refine XS.icmpNo X267.here hx rfl (hb hby at_56) rfl (teq hj56_272).2 ?_
                  show Steps p.tables e below (T267.setTop (mkF m 59 #[.val (.int p0), .val (.int p1), .val (.int v228), .val (.ref vge), .unset, .val (.int (((p1.toUInt32 >>> ((17 : Int32) &&& 31).toUInt32).toInt32) &&& (3 : Int32)))] [])) _
                  refine XS.bipush X267.here hx rfl (hb hby at_59) ?_
                  show Steps p.tables e below (T267.setTop (mkF m 61 #[.val (.int p0), .val (.int p1), .val (.int v228), .val (.ref vge), .unset, .val (.int (((p1.toUInt32 >>> ((17 : Int32) &&& 31).toUInt32).toInt32) &&& (3 : Int32)))] [(.int (118 : Int32))])) _
                  refine XS.istore X267.here hx rfl (hb hby at_61) rfl (l' := #[.val (.int p0), .val (.int p1), .val (.int v228), .val (.ref vge), .val (.int (118 : Int32)), .val (.int (((p1.toUInt32 >>> ((17 : Int32) &&& 31).toUInt32).toInt32) &&& (3 : Int32)))]) rfl ?_
                  show Steps p.tables e below (T267.setTop (mkF m 63 #[.val (.int p0), .val (.int p1), .val (.int v228), .val (.ref vge), .val (.int (118 : Int32)), .val (.int (((p1.toUInt32 >>> ((17 : Int32) &&& 31).toUInt32).toInt32) &&& (3 : Int32)))] [])) _
                  refine XS.goto X267.here hx rfl (pc0 := 63) (pc' := 70) rfl (hb hby at_63) (by decide) (by decide) ?_
                  show Steps p.tables e below (T267.setTop (mkF m 70 #[.val (.int p0), .val (.int p1), .val (.int v228), .val (.ref vge), .val (.int (118 : Int32)), .val (.int (((p1.toUInt32 >>> ((17 : Int32) &&& 31).toUInt32).toInt32) &&& (3 : Int32)))] [])) _
                  refine XS.goto X267.here hx rfl (pc0 := 70) (pc' := 80) rfl (hb hby at_70) (by decide) (by decide) ?_
                  show Steps p.tables e below (T267.setTop (mkF m 80 #[.val (.int p0), .val (.int p1), .val (.int v228), .val (.ref vge), .val (.int (118 : Int32)), .val (.int (((p1.toUInt32 >>> ((17 : Int32) &&& 31).toUInt32).toInt32) &&& (3 : Int32)))] [])) _
                  simpa only [if_neg hj17_269, if_neg hj30_270, if_neg hj43_271, if_pos hj56_272] using kt
                · refine XS.icmpYes X267.here hx rfl (pc0 := 56) (pc' := 66) rfl (hb hby at_56) rfl (feq hj56_272).2 (by decide) (by decide) ?_
                  show Steps p.tables e below (T267.setTop (mkF m 66 #[.val (.int p0), .val (.int p1), .val (.int v228), .val (.ref vge), .unset, .val (.int (((p1.toUInt32 >>> ((17 : Int32) &&& 31).toUInt32).toInt32) &&& (3 : Int32)))] [])) _
                  refine XS.bipush X267.here hx rfl (hb hby at_66) ?_
                  show Steps p.tables e below (T267.setTop (mkF m 68 #[.val (.int p0), .val (.int p1), .val (.int v228), .val (.ref vge), .unset, .val (.int (((p1.toUInt32 >>> ((17 : Int32) &&& 31).toUInt32).toInt32) &&& (3 : Int32)))] [(.int (58 : Int32))])) _
                  refine XS.istore X267.here hx rfl (hb hby at_68) rfl (l' := #[.val (.int p0), .val (.int p1), .val (.int v228), .val (.ref vge), .val (.int (58 : Int32)), .val (.int (((p1.toUInt32 >>> ((17 : Int32) &&& 31).toUInt32).toInt32) &&& (3 : Int32)))]) rfl ?_
                  show Steps p.tables e below (T267.setTop (mkF m 70 #[.val (.int p0), .val (.int p1), .val (.int v228), .val (.ref vge), .val (.int (58 : Int32)), .val (.int (((p1.toUInt32 >>> ((17 : Int32) &&& 31).toUInt32).toInt32) &&& (3 : Int32)))] [])) _
                  refine XS.goto X267.here hx rfl (pc0 := 70) (pc' := 80) rfl (hb hby at_70) (by decide) (by decide) ?_
                  show Steps p.tables e below (T267.setTop (mkF m 80 #[.val (.int p0), .val (.int p1), .val (.int v228), .val (.ref vge), .val (.int (58 : Int32)), .val (.int (((p1.toUInt32 >>> ((17 : Int32) &&& 31).toUInt32).toInt32) &&& (3 : Int32)))] [])) _
                  simpa only [if_neg hj17_269, if_neg hj30_270, if_neg hj43_271, if_neg hj56_272] using kt
        obtain ⟨v274, hv274⟩ : ∃ z : Int32, z = (if (p1 &&& (65536 : Int32)) = (0 : Int32) then ((p1 &&& (65535 : Int32)).toUInt32.toUInt16.toUInt32.toInt32) else (if (((p1.toUInt32 >>> ((17 : Int32) &&& 31).toUInt32).toInt32) &&& (3 : Int32)) = (0 : Int32) then (115 : Int32) else (if (((p1.toUInt32 >>> ((17 : Int32) &&& 31).toUInt32).toInt32) &&& (3 : Int32)) = (1 : Int32) then (101 : Int32) else (if (((p1.toUInt32 >>> ((17 : Int32) &&& 31).toUInt32).toInt32) &&& (3 : Int32)) = (2 : Int32) then (118 : Int32) else (58 : Int32))))) := ⟨_, rfl⟩
        rw [← hv274] at k273
        obtain ⟨sl275, hsl275⟩ : ∃ z : Slot, z = (if (p1 &&& (65536 : Int32)) = (0 : Int32) then (.unset : Slot) else .val (.int (((p1.toUInt32 >>> ((17 : Int32) &&& 31).toUInt32).toInt32) &&& (3 : Int32)))) := ⟨_, rfl⟩
        have osl275 : One sl275 := by rw [hsl275]; repeat' split; all_goals first | exact One.u | exact One.val rfl
        rw [← hsl275] at k273
        obtain ⟨_, _, ⟨T276, L276, kc276, nc276⟩, -, X276, ⟨Lc276, hQ276, l276, y276, z276⟩, st276⟩ := Jvm.LawKit.callS X267 hx (y := (⟨"com/example/grendel/grendel/cli/VerbTakesPinLaw", "expect", "(IC)Z"⟩ : MethodName)) hown (mvT hZ (hw _ (List.mem_of_getElem? (i := 10) rfl))) (mvT hZ (hw _ (List.mem_of_getElem? (i := 11) rfl))) (mvT hZ (hw _ (List.mem_of_getElem? (i := 3) rfl))) (mvT hZ (hw _ (List.mem_of_getElem? (i := 12) rfl))) (by decide) (backOf (W := 0) (rm2 l Z a0 hw [] v228 v274 h0 n0 ) hZ (hw _ (List.mem_of_getElem? (i := 12) rfl)) (hw _ (List.mem_of_getElem? (i := 3) rfl)) (by decide) (by decide)) (g := (mkF m 83 #[.val (.int p0), .val (.int p1), .val (.int v228), .val (.ref vge), .val (.int v274), sl275] [(.int v274), (.int v228)])) rfl (by rw [hml]; rfl) (argsL := [(.int v228), (.int v274)]) (rest := []) (lenOf pd_1 rfl) rfl (by show 2 * 0 + _ ≤ _; exact Nat.le_of_eq rfl) (hb hby at_83) (fun _ _ => ⟨rfl, eq267, (by decide : 0 + 0 ≤ _), (by decide : 0 + 0 ≤ _)⟩)
        dsimp only [Pt.U, Pt.locs, Pt.cells, Pt.slots] at X276 l276 y276 z276 st276 hQ276
        rw [l276, y276, z276] at X276
        replace X276 : Stand p l e room_1 s m #[(.int p0), (.int p1)] below meth c T276 _ 0 0 := X276
        obtain ⟨rfl, Nq276, eq276⟩ := hQ276
        have N276 := Fr.app N267 Nq276
        have k277 : ∀ tg_, Steps p.tables e below (T276.setTop (mkF m 86 #[.val (.int p0), .val (.int p1), .val (.int v228), .val (.ref vge), .val (.int v274), sl275] [(.int (own_exp v228 v274))])) tg_ → Steps p.tables e below (s₁.setTop (entryFrame m #[(.int p0), (.int p1)] maxLocals)) tg_ := by
          intro tg_ kt
          refine k273 tg_ ?_
          refine XS.iloadN X267.here hx rfl (hb hby at_80) rfl ?_
          show Steps p.tables e below (T267.setTop (mkF m 81 #[.val (.int p0), .val (.int p1), .val (.int v228), .val (.ref vge), .val (.int v274), sl275] [(.int v228)])) _
          refine XS.iload X267.here hx rfl (hb hby at_81) rfl ?_
          show Steps p.tables e below (T267.setTop (mkF m 83 #[.val (.int p0), .val (.int p1), .val (.int v228), .val (.ref vge), .val (.int v274), sl275] [(.int v274), (.int v228)])) _
          refine st276 _ ?_
          show Steps p.tables e below (T276.setTop (mkF m 86 #[.val (.int p0), .val (.int p1), .val (.int v228), .val (.ref vge), .val (.int v274), sl275] [(.int (own_exp v228 v274))])) _
          exact kt
        obtain ⟨r278, hr278⟩ : ∃ z : Int32, z = (own_exp v228 v274) := ⟨_, rfl⟩
        rw [← hr278] at k277
        obtain ⟨cq279, kq279, q279a, q279b, q279c⟩ := isOf hZ eq276 E_vge
        obtain ⟨_, _, ⟨T279, L279, kc279, nc279⟩, -, X279, ⟨Lc279, hQ279, l279, y279, z279⟩, st279⟩ := X276.virtualBack hx (y := (⟨"com/example/grendel/grendel/cli/Verb", "takes", "(C)Z"⟩ : MethodName)) (z := (⟨"com/example/grendel/grendel/cli/Verb", "takes", "(C)Z"⟩ : MethodName)) hown (mvT hZ (hw _ (List.mem_of_getElem? (i := 13) rfl))) (mvT hZ (hw _ (List.mem_of_getElem? (i := 14) rfl))) (notFace_of_selects (args := #[]) (mvT hZ (hw _ (List.mem_of_getElem? (i := 16) rfl)))) (mvT hZ (hw _ (List.mem_of_getElem? (i := 16) rfl))) (mvT hZ (hw _ (List.mem_of_getElem? (i := 15) rfl))) (by decide) (backOf (W := 0) (rmtk_1 l Z a0 hw [] vge v274 zc ol olv fol (115 : Int32) h0 n0 E_ol F_vge Fv_ol Fc_ol V_ol S_cs hz hy_ol_0) hZ (hw _ (List.mem_of_getElem? (i := 17) rfl)) (hw _ (List.mem_of_getElem? (i := 6) rfl)) (by decide) (by decide)) q279a q279c (g := (mkF m 91 #[.val (.int p0), .val (.int p1), .val (.int v228), .val (.ref vge), .val (.int v274), .val (.int r278)] [(.int v274), (.ref vge)])) rfl (by rw [hml]; rfl) (Steps.refl _) (argsL := [(.int v274)]) (rest := []) (lenOf pd_2 rfl) rfl (by show 2 * 0 + _ ≤ _; exact Nat.le_of_eq rfl) (hb hby at_91) (fun _ _ => ⟨rfl, eq276, (by decide : 0 + 0 ≤ _), (by decide : 0 + 0 ≤ _)⟩)
        dsimp only [Pt.U, Pt.locs, Pt.cells, Pt.slots] at X279 l279 y279 z279 st279 hQ279
        rw [l279, y279, z279] at X279
        replace X279 : Stand p l e room_1 s m #[(.int p0), (.int p1)] below meth c T279 _ 0 0 := X279
        obtain ⟨rfl, Nq279, eq279⟩ := hQ279
        have N279 := Fr.app N276 Nq279
        have k280 : ∀ tg_, Steps p.tables e below (T279.setTop (mkF m 94 #[.val (.int p0), .val (.int p1), .val (.int v228), .val (.ref vge), .val (.int v274), .val (.int r278)] [(.int (own_tk_1 v274 (115 : Int32)))])) tg_ → Steps p.tables e below (s₁.setTop (entryFrame m #[(.int p0), (.int p1)] maxLocals)) tg_ := by
          intro tg_ kt
          refine k277 tg_ ?_
          show Steps p.tables e below (T276.setTop (mkF m 86 #[.val (.int p0), .val (.int p1), .val (.int v228), .val (.ref vge), .val (.int v274), sl275] [(.int r278)])) _
          refine XS.istoreS X276.here hx rfl (hb hby at_86) rfl rfl osl275 ?_
          show Steps p.tables e below (T276.setTop (mkF m 88 #[.val (.int p0), .val (.int p1), .val (.int v228), .val (.ref vge), .val (.int v274), .val (.int r278)] [])) _
          refine XS.aloadN X276.here hx rfl (hb hby at_88) rfl rfl ?_
          show Steps p.tables e below (T276.setTop (mkF m 89 #[.val (.int p0), .val (.int p1), .val (.int v228), .val (.ref vge), .val (.int v274), .val (.int r278)] [(.ref vge)])) _
          refine XS.iload X276.here hx rfl (hb hby at_89) rfl ?_
          show Steps p.tables e below (T276.setTop (mkF m 91 #[.val (.int p0), .val (.int p1), .val (.int v228), .val (.ref vge), .val (.int v274), .val (.int r278)] [(.int v274), (.ref vge)])) _
          refine st279.trans ?_
          show Steps p.tables e below (T279.setTop (mkF m 94 #[.val (.int p0), .val (.int p1), .val (.int v228), .val (.ref vge), .val (.int v274), .val (.int r278)] [(.int (own_tk_1 v274 (115 : Int32)))])) _
          exact kt
        obtain ⟨r281, hr281⟩ : ∃ z : Int32, z = (own_tk_1 v274 (115 : Int32)) := ⟨_, rfl⟩
        rw [← hr281] at k280
        have hc96_282 : r281 = r278 := (by rw [hr281]; rw [hr278]; exact own_lw2 _ _ hc9_266)
        have k283 : ∀ tg_, Steps p.tables e below (T279.setTop (mkF m 104 #[.val (.int p0), .val (.int p1), .val (.int v228), .val (.ref vge), .val (.int v274), .val (.int r278)] [(.int (1 : Int32))])) tg_ → Steps p.tables e below (s₁.setTop (entryFrame m #[(.int p0), (.int p1)] maxLocals)) tg_ := by
          intro tg_ kt
          refine k280 tg_ ?_
          show Steps p.tables e below (T279.setTop (mkF m 94 #[.val (.int p0), .val (.int p1), .val (.int v228), .val (.ref vge), .val (.int v274), .val (.int r278)] [(.int r281)])) _
          refine XS.iload X279.here hx rfl (hb hby at_94) rfl ?_
          show Steps p.tables e below (T279.setTop (mkF m 96 #[.val (.int p0), .val (.int p1), .val (.int v228), .val (.ref vge), .val (.int v274), .val (.int r278)] [(.int r278), (.int r281)])) _
          refine XS.icmpNo X279.here hx rfl (hb hby at_96) rfl (teq hc96_282).2 ?_
          show Steps p.tables e below (T279.setTop (mkF m 99 #[.val (.int p0), .val (.int p1), .val (.int v228), .val (.ref vge), .val (.int v274), .val (.int r278)] [])) _
          refine XS.iconst X279.here hx rfl (hb hby at_99) ?_
          show Steps p.tables e below (T279.setTop (mkF m 100 #[.val (.int p0), .val (.int p1), .val (.int v228), .val (.ref vge), .val (.int v274), .val (.int r278)] [(.int (1 : Int32))])) _
          refine XS.goto X279.here hx rfl (pc0 := 100) (pc' := 104) rfl (hb hby at_100) (by decide) (by decide) ?_
          show Steps p.tables e below (T279.setTop (mkF m 104 #[.val (.int p0), .val (.int p1), .val (.int v228), .val (.ref vge), .val (.int v274), .val (.int r278)] [(.int (1 : Int32))])) _
          exact kt
        obtain ⟨fs, hr, hrun, hended, hW, hsame⟩ := X279.leave (v := some (.int (1 : Int32))) (fun h => by rw [Bd.returns] at h; cases h)
        refine ⟨_, _, k283 _ (retN X279 hx (t := .boolean) Bd.returns (by simp) (hb hby at_104) hr), hrun, hended, _, _, rfl, ?_, ⟨_, rfl⟩, hW, hsame.mono (by decide) (by decide)⟩
        show Q0 Z p0 p1 zc ol olv fol oc ocv foc od odv fod oe oev foe vls vcr vge vse vst vde vda vsy vhe vqu h0 n0 _ T279.heap _
        rw [eq279]
        exact ⟨rfl, N279⟩
      · by_cases hc9_284 : v228 = (3 : Int32)
        · obtain ⟨_, _, ⟨T285, L285, kc285, nc285⟩, -, X285, ⟨Lc285, hQ285, l285, y285, z285⟩, st285⟩ := Jvm.LawKit.callS X0 hx (y := (⟨"com/example/grendel/grendel/cli/VerbTakesPinLaw", "pick", "(I)Lcom/example/grendel/grendel/cli/Verb;"⟩ : MethodName)) hown (mvT hZ (hw _ (List.mem_of_getElem? (i := 1) rfl))) (mvT hZ (hw _ (List.mem_of_getElem? (i := 2) rfl))) (mvT hZ (hw _ (List.mem_of_getElem? (i := 3) rfl))) (mvT hZ (hw _ (List.mem_of_getElem? (i := 4) rfl))) (by decide) (backOf (W := 0) (rmpick3 l Z a0 hw [] v228 vse h0 n0 S_vse hc9_284) hZ (hw _ (List.mem_of_getElem? (i := 4) rfl)) (hw _ (List.mem_of_getElem? (i := 3) rfl)) (by decide) (by decide)) (g := (mkF m 9 #[.val (.int p0), .val (.int p1), .val (.int v228), .unset, .unset, .unset] [(.int v228)])) rfl (by rw [hml]; rfl) (argsL := [(.int v228)]) (rest := []) (lenOf pd_0 rfl) rfl (by show 2 * 0 + _ ≤ _; exact Nat.le_of_eq rfl) (hb hby at_9) (fun _ _ => ⟨rfl, e0, (by decide : 0 + 0 ≤ _), (by decide : 0 + 0 ≤ _)⟩)
          dsimp only [Pt.U, Pt.locs, Pt.cells, Pt.slots] at X285 l285 y285 z285 st285 hQ285
          rw [l285, y285, z285] at X285
          replace X285 : Stand p l e room_1 s m #[(.int p0), (.int p1)] below meth c T285 _ 0 0 := X285
          obtain ⟨rfl, Nq285, eq285⟩ := hQ285
          have N285 := Fr.app N0 Nq285
          have k286 : ∀ tg_, Steps p.tables e below (T285.setTop (mkF m 17 #[.val (.int p0), .val (.int p1), .val (.int v228), .val (.ref vse), .unset, .unset] [(.int (p1 &&& (65536 : Int32)))])) tg_ → Steps p.tables e below (s₁.setTop (entryFrame m #[(.int p0), (.int p1)] maxLocals)) tg_ := by
            intro tg_ kt
            refine k229 tg_ ?_
            refine st285 _ ?_
            show Steps p.tables e below (T285.setTop (mkF m 12 #[.val (.int p0), .val (.int p1), .val (.int v228), .unset, .unset, .unset] [(.ref vse)])) _
            refine XS.astoreN X285.here hx rfl (hb hby at_12) rfl rfl (l' := #[.val (.int p0), .val (.int p1), .val (.int v228), .val (.ref vse), .unset, .unset]) rfl ?_
            show Steps p.tables e below (T285.setTop (mkF m 13 #[.val (.int p0), .val (.int p1), .val (.int v228), .val (.ref vse), .unset, .unset] [])) _
            refine XS.iloadN X285.here hx rfl (hb hby at_13) rfl ?_
            show Steps p.tables e below (T285.setTop (mkF m 14 #[.val (.int p0), .val (.int p1), .val (.int v228), .val (.ref vse), .unset, .unset] [(.int p1)])) _
            refine X285.ldcInt hx hown (mvT hZ (hw _ (List.mem_of_getElem? (i := 8) rfl))) (g := (mkF m 14 #[.val (.int p0), .val (.int p1), .val (.int v228), .val (.ref vse), .unset, .unset] [(.int p1)])) rfl (hb hby at_14) _ ?_
            show Steps p.tables e below (T285.setTop (mkF m 16 #[.val (.int p0), .val (.int p1), .val (.int v228), .val (.ref vse), .unset, .unset] [(.int (65536 : Int32)), (.int p1)])) _
            refine XS.iand X285.here hx rfl (hb hby at_16) rfl ?_
            show Steps p.tables e below (T285.setTop (mkF m 17 #[.val (.int p0), .val (.int p1), .val (.int v228), .val (.ref vse), .unset, .unset] [(.int (p1 &&& (65536 : Int32)))])) _
            exact kt
          have k291 : ∀ tg_, Steps p.tables e below (T285.setTop (mkF m 80 #[.val (.int p0), .val (.int p1), .val (.int v228), .val (.ref vse), .val (.int (if (p1 &&& (65536 : Int32)) = (0 : Int32) then ((p1 &&& (65535 : Int32)).toUInt32.toUInt16.toUInt32.toInt32) else (if (((p1.toUInt32 >>> ((17 : Int32) &&& 31).toUInt32).toInt32) &&& (3 : Int32)) = (0 : Int32) then (115 : Int32) else (if (((p1.toUInt32 >>> ((17 : Int32) &&& 31).toUInt32).toInt32) &&& (3 : Int32)) = (1 : Int32) then (101 : Int32) else (if (((p1.toUInt32 >>> ((17 : Int32) &&& 31).toUInt32).toInt32) &&& (3 : Int32)) = (2 : Int32) then (118 : Int32) else (58 : Int32)))))), (if (p1 &&& (65536 : Int32)) = (0 : Int32) then (.unset : Slot) else .val (.int (((p1.toUInt32 >>> ((17 : Int32) &&& 31).toUInt32).toInt32) &&& (3 : Int32))))] [])) tg_ → Steps p.tables e below (s₁.setTop (entryFrame m #[(.int p0), (.int p1)] maxLocals)) tg_ := by
            intro tg_ kt
            refine k286 tg_ ?_
            by_cases hj17_287 : (p1 &&& (65536 : Int32)) = (0 : Int32)
            · refine XS.ifYes X285.here hx rfl (pc0 := 17) (pc' := 73) rfl (hb hby at_17) rfl ((if0 _ _).trans (teq hj17_287).1) (by decide) (by decide) ?_
              show Steps p.tables e below (T285.setTop (mkF m 73 #[.val (.int p0), .val (.int p1), .val (.int v228), .val (.ref vse), .unset, .unset] [])) _
              refine XS.iloadN X285.here hx rfl (hb hby at_73) rfl ?_
              show Steps p.tables e below (T285.setTop (mkF m 74 #[.val (.int p0), .val (.int p1), .val (.int v228), .val (.ref vse), .unset, .unset] [(.int p1)])) _
              refine X285.ldcInt hx hown (mvT hZ (hw _ (List.mem_of_getElem? (i := 9) rfl))) (g := (mkF m 74 #[.val (.int p0), .val (.int p1), .val (.int v228), .val (.ref vse), .unset, .unset] [(.int p1)])) rfl (hb hby at_74) _ ?_
              show Steps p.tables e below (T285.setTop (mkF m 76 #[.val (.int p0), .val (.int p1), .val (.int v228), .val (.ref vse), .unset, .unset] [(.int (65535 : Int32)), (.int p1)])) _
              refine XS.iand X285.here hx rfl (hb hby at_76) rfl ?_
              show Steps p.tables e below (T285.setTop (mkF m 77 #[.val (.int p0), .val (.int p1), .val (.int v228), .val (.ref vse), .unset, .unset] [(.int (p1 &&& (65535 : Int32)))])) _
              refine XS.i2c X285.here hx rfl (hb hby at_77) rfl ?_
              show Steps p.tables e below (T285.setTop (mkF m 78 #[.val (.int p0), .val (.int p1), .val (.int v228), .val (.ref vse), .unset, .unset] [(.int ((p1 &&& (65535 : Int32)).toUInt32.toUInt16.toUInt32.toInt32))])) _
              refine XS.istore X285.here hx rfl (hb hby at_78) rfl (l' := #[.val (.int p0), .val (.int p1), .val (.int v228), .val (.ref vse), .val (.int ((p1 &&& (65535 : Int32)).toUInt32.toUInt16.toUInt32.toInt32)), .unset]) rfl ?_
              show Steps p.tables e below (T285.setTop (mkF m 80 #[.val (.int p0), .val (.int p1), .val (.int v228), .val (.ref vse), .val (.int ((p1 &&& (65535 : Int32)).toUInt32.toUInt16.toUInt32.toInt32)), .unset] [])) _
              simpa only [if_pos hj17_287] using kt
            · refine XS.ifNo X285.here hx rfl (hb hby at_17) rfl ((if0 _ _).trans (feq hj17_287).1) ?_
              show Steps p.tables e below (T285.setTop (mkF m 20 #[.val (.int p0), .val (.int p1), .val (.int v228), .val (.ref vse), .unset, .unset] [])) _
              refine XS.iloadN X285.here hx rfl (hb hby at_20) rfl ?_
              show Steps p.tables e below (T285.setTop (mkF m 21 #[.val (.int p0), .val (.int p1), .val (.int v228), .val (.ref vse), .unset, .unset] [(.int p1)])) _
              refine XS.bipush X285.here hx rfl (hb hby at_21) ?_
              show Steps p.tables e below (T285.setTop (mkF m 23 #[.val (.int p0), .val (.int p1), .val (.int v228), .val (.ref vse), .unset, .unset] [(.int (17 : Int32)), (.int p1)])) _
              refine XS.iushr X285.here hx rfl (hb hby at_23) rfl ?_
              show Steps p.tables e below (T285.setTop (mkF m 24 #[.val (.int p0), .val (.int p1), .val (.int v228), .val (.ref vse), .unset, .unset] [(.int ((p1.toUInt32 >>> ((17 : Int32) &&& 31).toUInt32).toInt32))])) _
              refine XS.iconst X285.here hx rfl (hb hby at_24) ?_
              show Steps p.tables e below (T285.setTop (mkF m 25 #[.val (.int p0), .val (.int p1), .val (.int v228), .val (.ref vse), .unset, .unset] [(.int (3 : Int32)), (.int ((p1.toUInt32 >>> ((17 : Int32) &&& 31).toUInt32).toInt32))])) _
              refine XS.iand X285.here hx rfl (hb hby at_25) rfl ?_
              show Steps p.tables e below (T285.setTop (mkF m 26 #[.val (.int p0), .val (.int p1), .val (.int v228), .val (.ref vse), .unset, .unset] [(.int (((p1.toUInt32 >>> ((17 : Int32) &&& 31).toUInt32).toInt32) &&& (3 : Int32)))])) _
              refine XS.istore X285.here hx rfl (hb hby at_26) rfl (l' := #[.val (.int p0), .val (.int p1), .val (.int v228), .val (.ref vse), .unset, .val (.int (((p1.toUInt32 >>> ((17 : Int32) &&& 31).toUInt32).toInt32) &&& (3 : Int32)))]) rfl ?_
              show Steps p.tables e below (T285.setTop (mkF m 28 #[.val (.int p0), .val (.int p1), .val (.int v228), .val (.ref vse), .unset, .val (.int (((p1.toUInt32 >>> ((17 : Int32) &&& 31).toUInt32).toInt32) &&& (3 : Int32)))] [])) _
              refine XS.iload X285.here hx rfl (hb hby at_28) rfl ?_
              show Steps p.tables e below (T285.setTop (mkF m 30 #[.val (.int p0), .val (.int p1), .val (.int v228), .val (.ref vse), .unset, .val (.int (((p1.toUInt32 >>> ((17 : Int32) &&& 31).toUInt32).toInt32) &&& (3 : Int32)))] [(.int (((p1.toUInt32 >>> ((17 : Int32) &&& 31).toUInt32).toInt32) &&& (3 : Int32)))])) _
              by_cases hj30_288 : (((p1.toUInt32 >>> ((17 : Int32) &&& 31).toUInt32).toInt32) &&& (3 : Int32)) = (0 : Int32)
              · refine XS.ifNo X285.here hx rfl (hb hby at_30) rfl ((if0 _ _).trans (teq hj30_288).2) ?_
                show Steps p.tables e below (T285.setTop (mkF m 33 #[.val (.int p0), .val (.int p1), .val (.int v228), .val (.ref vse), .unset, .val (.int (((p1.toUInt32 >>> ((17 : Int32) &&& 31).toUInt32).toInt32) &&& (3 : Int32)))] [])) _
                refine XS.bipush X285.here hx rfl (hb hby at_33) ?_
                show Steps p.tables e below (T285.setTop (mkF m 35 #[.val (.int p0), .val (.int p1), .val (.int v228), .val (.ref vse), .unset, .val (.int (((p1.toUInt32 >>> ((17 : Int32) &&& 31).toUInt32).toInt32) &&& (3 : Int32)))] [(.int (115 : Int32))])) _
                refine XS.istore X285.here hx rfl (hb hby at_35) rfl (l' := #[.val (.int p0), .val (.int p1), .val (.int v228), .val (.ref vse), .val (.int (115 : Int32)), .val (.int (((p1.toUInt32 >>> ((17 : Int32) &&& 31).toUInt32).toInt32) &&& (3 : Int32)))]) rfl ?_
                show Steps p.tables e below (T285.setTop (mkF m 37 #[.val (.int p0), .val (.int p1), .val (.int v228), .val (.ref vse), .val (.int (115 : Int32)), .val (.int (((p1.toUInt32 >>> ((17 : Int32) &&& 31).toUInt32).toInt32) &&& (3 : Int32)))] [])) _
                refine XS.goto X285.here hx rfl (pc0 := 37) (pc' := 70) rfl (hb hby at_37) (by decide) (by decide) ?_
                show Steps p.tables e below (T285.setTop (mkF m 70 #[.val (.int p0), .val (.int p1), .val (.int v228), .val (.ref vse), .val (.int (115 : Int32)), .val (.int (((p1.toUInt32 >>> ((17 : Int32) &&& 31).toUInt32).toInt32) &&& (3 : Int32)))] [])) _
                refine XS.goto X285.here hx rfl (pc0 := 70) (pc' := 80) rfl (hb hby at_70) (by decide) (by decide) ?_
                show Steps p.tables e below (T285.setTop (mkF m 80 #[.val (.int p0), .val (.int p1), .val (.int v228), .val (.ref vse), .val (.int (115 : Int32)), .val (.int (((p1.toUInt32 >>> ((17 : Int32) &&& 31).toUInt32).toInt32) &&& (3 : Int32)))] [])) _
                simpa only [if_neg hj17_287, if_pos hj30_288] using kt
              · refine XS.ifYes X285.here hx rfl (pc0 := 30) (pc' := 40) rfl (hb hby at_30) rfl ((if0 _ _).trans (feq hj30_288).2) (by decide) (by decide) ?_
                show Steps p.tables e below (T285.setTop (mkF m 40 #[.val (.int p0), .val (.int p1), .val (.int v228), .val (.ref vse), .unset, .val (.int (((p1.toUInt32 >>> ((17 : Int32) &&& 31).toUInt32).toInt32) &&& (3 : Int32)))] [])) _
                refine XS.iload X285.here hx rfl (hb hby at_40) rfl ?_
                show Steps p.tables e below (T285.setTop (mkF m 42 #[.val (.int p0), .val (.int p1), .val (.int v228), .val (.ref vse), .unset, .val (.int (((p1.toUInt32 >>> ((17 : Int32) &&& 31).toUInt32).toInt32) &&& (3 : Int32)))] [(.int (((p1.toUInt32 >>> ((17 : Int32) &&& 31).toUInt32).toInt32) &&& (3 : Int32)))])) _
                refine XS.iconst X285.here hx rfl (hb hby at_42) ?_
                show Steps p.tables e below (T285.setTop (mkF m 43 #[.val (.int p0), .val (.int p1), .val (.int v228), .val (.ref vse), .unset, .val (.int (((p1.toUInt32 >>> ((17 : Int32) &&& 31).toUInt32).toInt32) &&& (3 : Int32)))] [(.int (1 : Int32)), (.int (((p1.toUInt32 >>> ((17 : Int32) &&& 31).toUInt32).toInt32) &&& (3 : Int32)))])) _
                by_cases hj43_289 : (((p1.toUInt32 >>> ((17 : Int32) &&& 31).toUInt32).toInt32) &&& (3 : Int32)) = (1 : Int32)
                · refine XS.icmpNo X285.here hx rfl (hb hby at_43) rfl (teq hj43_289).2 ?_
                  show Steps p.tables e below (T285.setTop (mkF m 46 #[.val (.int p0), .val (.int p1), .val (.int v228), .val (.ref vse), .unset, .val (.int (((p1.toUInt32 >>> ((17 : Int32) &&& 31).toUInt32).toInt32) &&& (3 : Int32)))] [])) _
                  refine XS.bipush X285.here hx rfl (hb hby at_46) ?_
                  show Steps p.tables e below (T285.setTop (mkF m 48 #[.val (.int p0), .val (.int p1), .val (.int v228), .val (.ref vse), .unset, .val (.int (((p1.toUInt32 >>> ((17 : Int32) &&& 31).toUInt32).toInt32) &&& (3 : Int32)))] [(.int (101 : Int32))])) _
                  refine XS.istore X285.here hx rfl (hb hby at_48) rfl (l' := #[.val (.int p0), .val (.int p1), .val (.int v228), .val (.ref vse), .val (.int (101 : Int32)), .val (.int (((p1.toUInt32 >>> ((17 : Int32) &&& 31).toUInt32).toInt32) &&& (3 : Int32)))]) rfl ?_
                  show Steps p.tables e below (T285.setTop (mkF m 50 #[.val (.int p0), .val (.int p1), .val (.int v228), .val (.ref vse), .val (.int (101 : Int32)), .val (.int (((p1.toUInt32 >>> ((17 : Int32) &&& 31).toUInt32).toInt32) &&& (3 : Int32)))] [])) _
                  refine XS.goto X285.here hx rfl (pc0 := 50) (pc' := 70) rfl (hb hby at_50) (by decide) (by decide) ?_
                  show Steps p.tables e below (T285.setTop (mkF m 70 #[.val (.int p0), .val (.int p1), .val (.int v228), .val (.ref vse), .val (.int (101 : Int32)), .val (.int (((p1.toUInt32 >>> ((17 : Int32) &&& 31).toUInt32).toInt32) &&& (3 : Int32)))] [])) _
                  refine XS.goto X285.here hx rfl (pc0 := 70) (pc' := 80) rfl (hb hby at_70) (by decide) (by decide) ?_
                  show Steps p.tables e below (T285.setTop (mkF m 80 #[.val (.int p0), .val (.int p1), .val (.int v228), .val (.ref vse), .val (.int (101 : Int32)), .val (.int (((p1.toUInt32 >>> ((17 : Int32) &&& 31).toUInt32).toInt32) &&& (3 : Int32)))] [])) _
                  simpa only [if_neg hj17_287, if_neg hj30_288, if_pos hj43_289] using kt
                · refine XS.icmpYes X285.here hx rfl (pc0 := 43) (pc' := 53) rfl (hb hby at_43) rfl (feq hj43_289).2 (by decide) (by decide) ?_
                  show Steps p.tables e below (T285.setTop (mkF m 53 #[.val (.int p0), .val (.int p1), .val (.int v228), .val (.ref vse), .unset, .val (.int (((p1.toUInt32 >>> ((17 : Int32) &&& 31).toUInt32).toInt32) &&& (3 : Int32)))] [])) _
                  refine XS.iload X285.here hx rfl (hb hby at_53) rfl ?_
                  show Steps p.tables e below (T285.setTop (mkF m 55 #[.val (.int p0), .val (.int p1), .val (.int v228), .val (.ref vse), .unset, .val (.int (((p1.toUInt32 >>> ((17 : Int32) &&& 31).toUInt32).toInt32) &&& (3 : Int32)))] [(.int (((p1.toUInt32 >>> ((17 : Int32) &&& 31).toUInt32).toInt32) &&& (3 : Int32)))])) _
                  refine XS.iconst X285.here hx rfl (hb hby at_55) ?_
                  show Steps p.tables e below (T285.setTop (mkF m 56 #[.val (.int p0), .val (.int p1), .val (.int v228), .val (.ref vse), .unset, .val (.int (((p1.toUInt32 >>> ((17 : Int32) &&& 31).toUInt32).toInt32) &&& (3 : Int32)))] [(.int (2 : Int32)), (.int (((p1.toUInt32 >>> ((17 : Int32) &&& 31).toUInt32).toInt32) &&& (3 : Int32)))])) _
                  by_cases hj56_290 : (((p1.toUInt32 >>> ((17 : Int32) &&& 31).toUInt32).toInt32) &&& (3 : Int32)) = (2 : Int32)
                  · refine XS.icmpNo X285.here hx rfl (hb hby at_56) rfl (teq hj56_290).2 ?_
                    show Steps p.tables e below (T285.setTop (mkF m 59 #[.val (.int p0), .val (.int p1), .val (.int v228), .val (.ref vse), .unset, .val (.int (((p1.toUInt32 >>> ((17 : Int32) &&& 31).toUInt32).toInt32) &&& (3 : Int32)))] [])) _
                    refine XS.bipush X285.here hx rfl (hb hby at_59) ?_
                    show Steps p.tables e below (T285.setTop (mkF m 61 #[.val (.int p0), .val (.int p1), .val (.int v228), .val (.ref vse), .unset, .val (.int (((p1.toUInt32 >>> ((17 : Int32) &&& 31).toUInt32).toInt32) &&& (3 : Int32)))] [(.int (118 : Int32))])) _
                    refine XS.istore X285.here hx rfl (hb hby at_61) rfl (l' := #[.val (.int p0), .val (.int p1), .val (.int v228), .val (.ref vse), .val (.int (118 : Int32)), .val (.int (((p1.toUInt32 >>> ((17 : Int32) &&& 31).toUInt32).toInt32) &&& (3 : Int32)))]) rfl ?_
                    show Steps p.tables e below (T285.setTop (mkF m 63 #[.val (.int p0), .val (.int p1), .val (.int v228), .val (.ref vse), .val (.int (118 : Int32)), .val (.int (((p1.toUInt32 >>> ((17 : Int32) &&& 31).toUInt32).toInt32) &&& (3 : Int32)))] [])) _
                    refine XS.goto X285.here hx rfl (pc0 := 63) (pc' := 70) rfl (hb hby at_63) (by decide) (by decide) ?_
                    show Steps p.tables e below (T285.setTop (mkF m 70 #[.val (.int p0), .val (.int p1), .val (.int v228), .val (.ref vse), .val (.int (118 : Int32)), .val (.int (((p1.toUInt32 >>> ((17 : Int32) &&& 31).toUInt32).toInt32) &&& (3 : Int32)))] [])) _
                    refine XS.goto X285.here hx rfl (pc0 := 70) (pc' := 80) rfl (hb hby at_70) (by decide) (by decide) ?_
                    show Steps p.tables e below (T285.setTop (mkF m 80 #[.val (.int p0), .val (.int p1), .val (.int v228), .val (.ref vse), .val (.int (118 : Int32)), .val (.int (((p1.toUInt32 >>> ((17 : Int32) &&& 31).toUInt32).toInt32) &&& (3 : Int32)))] [])) _
                    simpa only [if_neg hj17_287, if_neg hj30_288, if_neg hj43_289, if_pos hj56_290] using kt
                  · refine XS.icmpYes X285.here hx rfl (pc0 := 56) (pc' := 66) rfl (hb hby at_56) rfl (feq hj56_290).2 (by decide) (by decide) ?_
                    show Steps p.tables e below (T285.setTop (mkF m 66 #[.val (.int p0), .val (.int p1), .val (.int v228), .val (.ref vse), .unset, .val (.int (((p1.toUInt32 >>> ((17 : Int32) &&& 31).toUInt32).toInt32) &&& (3 : Int32)))] [])) _
                    refine XS.bipush X285.here hx rfl (hb hby at_66) ?_
                    show Steps p.tables e below (T285.setTop (mkF m 68 #[.val (.int p0), .val (.int p1), .val (.int v228), .val (.ref vse), .unset, .val (.int (((p1.toUInt32 >>> ((17 : Int32) &&& 31).toUInt32).toInt32) &&& (3 : Int32)))] [(.int (58 : Int32))])) _
                    refine XS.istore X285.here hx rfl (hb hby at_68) rfl (l' := #[.val (.int p0), .val (.int p1), .val (.int v228), .val (.ref vse), .val (.int (58 : Int32)), .val (.int (((p1.toUInt32 >>> ((17 : Int32) &&& 31).toUInt32).toInt32) &&& (3 : Int32)))]) rfl ?_
                    show Steps p.tables e below (T285.setTop (mkF m 70 #[.val (.int p0), .val (.int p1), .val (.int v228), .val (.ref vse), .val (.int (58 : Int32)), .val (.int (((p1.toUInt32 >>> ((17 : Int32) &&& 31).toUInt32).toInt32) &&& (3 : Int32)))] [])) _
                    refine XS.goto X285.here hx rfl (pc0 := 70) (pc' := 80) rfl (hb hby at_70) (by decide) (by decide) ?_
                    show Steps p.tables e below (T285.setTop (mkF m 80 #[.val (.int p0), .val (.int p1), .val (.int v228), .val (.ref vse), .val (.int (58 : Int32)), .val (.int (((p1.toUInt32 >>> ((17 : Int32) &&& 31).toUInt32).toInt32) &&& (3 : Int32)))] [])) _
                    simpa only [if_neg hj17_287, if_neg hj30_288, if_neg hj43_289, if_neg hj56_290] using kt
          obtain ⟨v292, hv292⟩ : ∃ z : Int32, z = (if (p1 &&& (65536 : Int32)) = (0 : Int32) then ((p1 &&& (65535 : Int32)).toUInt32.toUInt16.toUInt32.toInt32) else (if (((p1.toUInt32 >>> ((17 : Int32) &&& 31).toUInt32).toInt32) &&& (3 : Int32)) = (0 : Int32) then (115 : Int32) else (if (((p1.toUInt32 >>> ((17 : Int32) &&& 31).toUInt32).toInt32) &&& (3 : Int32)) = (1 : Int32) then (101 : Int32) else (if (((p1.toUInt32 >>> ((17 : Int32) &&& 31).toUInt32).toInt32) &&& (3 : Int32)) = (2 : Int32) then (118 : Int32) else (58 : Int32))))) := ⟨_, rfl⟩
          rw [← hv292] at k291
          obtain ⟨sl293, hsl293⟩ : ∃ z : Slot, z = (if (p1 &&& (65536 : Int32)) = (0 : Int32) then (.unset : Slot) else .val (.int (((p1.toUInt32 >>> ((17 : Int32) &&& 31).toUInt32).toInt32) &&& (3 : Int32)))) := ⟨_, rfl⟩
          have osl293 : One sl293 := by rw [hsl293]; repeat' split; all_goals first | exact One.u | exact One.val rfl
          rw [← hsl293] at k291
          obtain ⟨_, _, ⟨T294, L294, kc294, nc294⟩, -, X294, ⟨Lc294, hQ294, l294, y294, z294⟩, st294⟩ := Jvm.LawKit.callS X285 hx (y := (⟨"com/example/grendel/grendel/cli/VerbTakesPinLaw", "expect", "(IC)Z"⟩ : MethodName)) hown (mvT hZ (hw _ (List.mem_of_getElem? (i := 10) rfl))) (mvT hZ (hw _ (List.mem_of_getElem? (i := 11) rfl))) (mvT hZ (hw _ (List.mem_of_getElem? (i := 3) rfl))) (mvT hZ (hw _ (List.mem_of_getElem? (i := 12) rfl))) (by decide) (backOf (W := 0) (rm2 l Z a0 hw [] v228 v292 h0 n0 ) hZ (hw _ (List.mem_of_getElem? (i := 12) rfl)) (hw _ (List.mem_of_getElem? (i := 3) rfl)) (by decide) (by decide)) (g := (mkF m 83 #[.val (.int p0), .val (.int p1), .val (.int v228), .val (.ref vse), .val (.int v292), sl293] [(.int v292), (.int v228)])) rfl (by rw [hml]; rfl) (argsL := [(.int v228), (.int v292)]) (rest := []) (lenOf pd_1 rfl) rfl (by show 2 * 0 + _ ≤ _; exact Nat.le_of_eq rfl) (hb hby at_83) (fun _ _ => ⟨rfl, eq285, (by decide : 0 + 0 ≤ _), (by decide : 0 + 0 ≤ _)⟩)
          dsimp only [Pt.U, Pt.locs, Pt.cells, Pt.slots] at X294 l294 y294 z294 st294 hQ294
          rw [l294, y294, z294] at X294
          replace X294 : Stand p l e room_1 s m #[(.int p0), (.int p1)] below meth c T294 _ 0 0 := X294
          obtain ⟨rfl, Nq294, eq294⟩ := hQ294
          have N294 := Fr.app N285 Nq294
          have k295 : ∀ tg_, Steps p.tables e below (T294.setTop (mkF m 86 #[.val (.int p0), .val (.int p1), .val (.int v228), .val (.ref vse), .val (.int v292), sl293] [(.int (own_exp v228 v292))])) tg_ → Steps p.tables e below (s₁.setTop (entryFrame m #[(.int p0), (.int p1)] maxLocals)) tg_ := by
            intro tg_ kt
            refine k291 tg_ ?_
            refine XS.iloadN X285.here hx rfl (hb hby at_80) rfl ?_
            show Steps p.tables e below (T285.setTop (mkF m 81 #[.val (.int p0), .val (.int p1), .val (.int v228), .val (.ref vse), .val (.int v292), sl293] [(.int v228)])) _
            refine XS.iload X285.here hx rfl (hb hby at_81) rfl ?_
            show Steps p.tables e below (T285.setTop (mkF m 83 #[.val (.int p0), .val (.int p1), .val (.int v228), .val (.ref vse), .val (.int v292), sl293] [(.int v292), (.int v228)])) _
            refine st294 _ ?_
            show Steps p.tables e below (T294.setTop (mkF m 86 #[.val (.int p0), .val (.int p1), .val (.int v228), .val (.ref vse), .val (.int v292), sl293] [(.int (own_exp v228 v292))])) _
            exact kt
          obtain ⟨r296, hr296⟩ : ∃ z : Int32, z = (own_exp v228 v292) := ⟨_, rfl⟩
          rw [← hr296] at k295
          obtain ⟨cq297, kq297, q297a, q297b, q297c⟩ := isOf hZ eq294 E_vse
          obtain ⟨_, _, ⟨T297, L297, kc297, nc297⟩, -, X297, ⟨Lc297, hQ297, l297, y297, z297⟩, st297⟩ := X294.virtualBack hx (y := (⟨"com/example/grendel/grendel/cli/Verb", "takes", "(C)Z"⟩ : MethodName)) (z := (⟨"com/example/grendel/grendel/cli/Verb", "takes", "(C)Z"⟩ : MethodName)) hown (mvT hZ (hw _ (List.mem_of_getElem? (i := 13) rfl))) (mvT hZ (hw _ (List.mem_of_getElem? (i := 14) rfl))) (notFace_of_selects (args := #[]) (mvT hZ (hw _ (List.mem_of_getElem? (i := 16) rfl)))) (mvT hZ (hw _ (List.mem_of_getElem? (i := 16) rfl))) (mvT hZ (hw _ (List.mem_of_getElem? (i := 15) rfl))) (by decide) (backOf (W := 0) (rmtk_0 l Z a0 hw [] vse v292 zc oe oev foe h0 n0 E_oe F_vse Fv_oe Fc_oe V_oe S_cs hz) hZ (hw _ (List.mem_of_getElem? (i := 17) rfl)) (hw _ (List.mem_of_getElem? (i := 6) rfl)) (by decide) (by decide)) q297a q297c (g := (mkF m 91 #[.val (.int p0), .val (.int p1), .val (.int v228), .val (.ref vse), .val (.int v292), .val (.int r296)] [(.int v292), (.ref vse)])) rfl (by rw [hml]; rfl) (Steps.refl _) (argsL := [(.int v292)]) (rest := []) (lenOf pd_2 rfl) rfl (by show 2 * 0 + _ ≤ _; exact Nat.le_of_eq rfl) (hb hby at_91) (fun _ _ => ⟨rfl, eq294, (by decide : 0 + 0 ≤ _), (by decide : 0 + 0 ≤ _)⟩)
          dsimp only [Pt.U, Pt.locs, Pt.cells, Pt.slots] at X297 l297 y297 z297 st297 hQ297
          rw [l297, y297, z297] at X297
          replace X297 : Stand p l e room_1 s m #[(.int p0), (.int p1)] below meth c T297 _ 0 0 := X297
          obtain ⟨rfl, Nq297, eq297⟩ := hQ297
          have N297 := Fr.app N294 Nq297
          have k298 : ∀ tg_, Steps p.tables e below (T297.setTop (mkF m 94 #[.val (.int p0), .val (.int p1), .val (.int v228), .val (.ref vse), .val (.int v292), .val (.int r296)] [(.int (own_tk_0 v292))])) tg_ → Steps p.tables e below (s₁.setTop (entryFrame m #[(.int p0), (.int p1)] maxLocals)) tg_ := by
            intro tg_ kt
            refine k295 tg_ ?_
            show Steps p.tables e below (T294.setTop (mkF m 86 #[.val (.int p0), .val (.int p1), .val (.int v228), .val (.ref vse), .val (.int v292), sl293] [(.int r296)])) _
            refine XS.istoreS X294.here hx rfl (hb hby at_86) rfl rfl osl293 ?_
            show Steps p.tables e below (T294.setTop (mkF m 88 #[.val (.int p0), .val (.int p1), .val (.int v228), .val (.ref vse), .val (.int v292), .val (.int r296)] [])) _
            refine XS.aloadN X294.here hx rfl (hb hby at_88) rfl rfl ?_
            show Steps p.tables e below (T294.setTop (mkF m 89 #[.val (.int p0), .val (.int p1), .val (.int v228), .val (.ref vse), .val (.int v292), .val (.int r296)] [(.ref vse)])) _
            refine XS.iload X294.here hx rfl (hb hby at_89) rfl ?_
            show Steps p.tables e below (T294.setTop (mkF m 91 #[.val (.int p0), .val (.int p1), .val (.int v228), .val (.ref vse), .val (.int v292), .val (.int r296)] [(.int v292), (.ref vse)])) _
            refine st297.trans ?_
            show Steps p.tables e below (T297.setTop (mkF m 94 #[.val (.int p0), .val (.int p1), .val (.int v228), .val (.ref vse), .val (.int v292), .val (.int r296)] [(.int (own_tk_0 v292))])) _
            exact kt
          obtain ⟨r299, hr299⟩ : ∃ z : Int32, z = (own_tk_0 v292) := ⟨_, rfl⟩
          rw [← hr299] at k298
          have hc96_300 : r299 = r296 := (by rw [hr299]; rw [hr296]; exact own_lw3 _ _ hc9_284)
          have k301 : ∀ tg_, Steps p.tables e below (T297.setTop (mkF m 104 #[.val (.int p0), .val (.int p1), .val (.int v228), .val (.ref vse), .val (.int v292), .val (.int r296)] [(.int (1 : Int32))])) tg_ → Steps p.tables e below (s₁.setTop (entryFrame m #[(.int p0), (.int p1)] maxLocals)) tg_ := by
            intro tg_ kt
            refine k298 tg_ ?_
            show Steps p.tables e below (T297.setTop (mkF m 94 #[.val (.int p0), .val (.int p1), .val (.int v228), .val (.ref vse), .val (.int v292), .val (.int r296)] [(.int r299)])) _
            refine XS.iload X297.here hx rfl (hb hby at_94) rfl ?_
            show Steps p.tables e below (T297.setTop (mkF m 96 #[.val (.int p0), .val (.int p1), .val (.int v228), .val (.ref vse), .val (.int v292), .val (.int r296)] [(.int r296), (.int r299)])) _
            refine XS.icmpNo X297.here hx rfl (hb hby at_96) rfl (teq hc96_300).2 ?_
            show Steps p.tables e below (T297.setTop (mkF m 99 #[.val (.int p0), .val (.int p1), .val (.int v228), .val (.ref vse), .val (.int v292), .val (.int r296)] [])) _
            refine XS.iconst X297.here hx rfl (hb hby at_99) ?_
            show Steps p.tables e below (T297.setTop (mkF m 100 #[.val (.int p0), .val (.int p1), .val (.int v228), .val (.ref vse), .val (.int v292), .val (.int r296)] [(.int (1 : Int32))])) _
            refine XS.goto X297.here hx rfl (pc0 := 100) (pc' := 104) rfl (hb hby at_100) (by decide) (by decide) ?_
            show Steps p.tables e below (T297.setTop (mkF m 104 #[.val (.int p0), .val (.int p1), .val (.int v228), .val (.ref vse), .val (.int v292), .val (.int r296)] [(.int (1 : Int32))])) _
            exact kt
          obtain ⟨fs, hr, hrun, hended, hW, hsame⟩ := X297.leave (v := some (.int (1 : Int32))) (fun h => by rw [Bd.returns] at h; cases h)
          refine ⟨_, _, k301 _ (retN X297 hx (t := .boolean) Bd.returns (by simp) (hb hby at_104) hr), hrun, hended, _, _, rfl, ?_, ⟨_, rfl⟩, hW, hsame.mono (by decide) (by decide)⟩
          show Q0 Z p0 p1 zc ol olv fol oc ocv foc od odv fod oe oev foe vls vcr vge vse vst vde vda vsy vhe vqu h0 n0 _ T297.heap _
          rw [eq297]
          exact ⟨rfl, N297⟩
        · by_cases hc9_302 : v228 = (4 : Int32)
          · obtain ⟨_, _, ⟨T303, L303, kc303, nc303⟩, -, X303, ⟨Lc303, hQ303, l303, y303, z303⟩, st303⟩ := Jvm.LawKit.callS X0 hx (y := (⟨"com/example/grendel/grendel/cli/VerbTakesPinLaw", "pick", "(I)Lcom/example/grendel/grendel/cli/Verb;"⟩ : MethodName)) hown (mvT hZ (hw _ (List.mem_of_getElem? (i := 1) rfl))) (mvT hZ (hw _ (List.mem_of_getElem? (i := 2) rfl))) (mvT hZ (hw _ (List.mem_of_getElem? (i := 3) rfl))) (mvT hZ (hw _ (List.mem_of_getElem? (i := 4) rfl))) (by decide) (backOf (W := 0) (rmpick4 l Z a0 hw [] v228 vst h0 n0 S_vst hc9_302) hZ (hw _ (List.mem_of_getElem? (i := 4) rfl)) (hw _ (List.mem_of_getElem? (i := 3) rfl)) (by decide) (by decide)) (g := (mkF m 9 #[.val (.int p0), .val (.int p1), .val (.int v228), .unset, .unset, .unset] [(.int v228)])) rfl (by rw [hml]; rfl) (argsL := [(.int v228)]) (rest := []) (lenOf pd_0 rfl) rfl (by show 2 * 0 + _ ≤ _; exact Nat.le_of_eq rfl) (hb hby at_9) (fun _ _ => ⟨rfl, e0, (by decide : 0 + 0 ≤ _), (by decide : 0 + 0 ≤ _)⟩)
            dsimp only [Pt.U, Pt.locs, Pt.cells, Pt.slots] at X303 l303 y303 z303 st303 hQ303
            rw [l303, y303, z303] at X303
            replace X303 : Stand p l e room_1 s m #[(.int p0), (.int p1)] below meth c T303 _ 0 0 := X303
            obtain ⟨rfl, Nq303, eq303⟩ := hQ303
            have N303 := Fr.app N0 Nq303
            have k304 : ∀ tg_, Steps p.tables e below (T303.setTop (mkF m 17 #[.val (.int p0), .val (.int p1), .val (.int v228), .val (.ref vst), .unset, .unset] [(.int (p1 &&& (65536 : Int32)))])) tg_ → Steps p.tables e below (s₁.setTop (entryFrame m #[(.int p0), (.int p1)] maxLocals)) tg_ := by
              intro tg_ kt
              refine k229 tg_ ?_
              refine st303 _ ?_
              show Steps p.tables e below (T303.setTop (mkF m 12 #[.val (.int p0), .val (.int p1), .val (.int v228), .unset, .unset, .unset] [(.ref vst)])) _
              refine XS.astoreN X303.here hx rfl (hb hby at_12) rfl rfl (l' := #[.val (.int p0), .val (.int p1), .val (.int v228), .val (.ref vst), .unset, .unset]) rfl ?_
              show Steps p.tables e below (T303.setTop (mkF m 13 #[.val (.int p0), .val (.int p1), .val (.int v228), .val (.ref vst), .unset, .unset] [])) _
              refine XS.iloadN X303.here hx rfl (hb hby at_13) rfl ?_
              show Steps p.tables e below (T303.setTop (mkF m 14 #[.val (.int p0), .val (.int p1), .val (.int v228), .val (.ref vst), .unset, .unset] [(.int p1)])) _
              refine X303.ldcInt hx hown (mvT hZ (hw _ (List.mem_of_getElem? (i := 8) rfl))) (g := (mkF m 14 #[.val (.int p0), .val (.int p1), .val (.int v228), .val (.ref vst), .unset, .unset] [(.int p1)])) rfl (hb hby at_14) _ ?_
              show Steps p.tables e below (T303.setTop (mkF m 16 #[.val (.int p0), .val (.int p1), .val (.int v228), .val (.ref vst), .unset, .unset] [(.int (65536 : Int32)), (.int p1)])) _
              refine XS.iand X303.here hx rfl (hb hby at_16) rfl ?_
              show Steps p.tables e below (T303.setTop (mkF m 17 #[.val (.int p0), .val (.int p1), .val (.int v228), .val (.ref vst), .unset, .unset] [(.int (p1 &&& (65536 : Int32)))])) _
              exact kt
            have k309 : ∀ tg_, Steps p.tables e below (T303.setTop (mkF m 80 #[.val (.int p0), .val (.int p1), .val (.int v228), .val (.ref vst), .val (.int (if (p1 &&& (65536 : Int32)) = (0 : Int32) then ((p1 &&& (65535 : Int32)).toUInt32.toUInt16.toUInt32.toInt32) else (if (((p1.toUInt32 >>> ((17 : Int32) &&& 31).toUInt32).toInt32) &&& (3 : Int32)) = (0 : Int32) then (115 : Int32) else (if (((p1.toUInt32 >>> ((17 : Int32) &&& 31).toUInt32).toInt32) &&& (3 : Int32)) = (1 : Int32) then (101 : Int32) else (if (((p1.toUInt32 >>> ((17 : Int32) &&& 31).toUInt32).toInt32) &&& (3 : Int32)) = (2 : Int32) then (118 : Int32) else (58 : Int32)))))), (if (p1 &&& (65536 : Int32)) = (0 : Int32) then (.unset : Slot) else .val (.int (((p1.toUInt32 >>> ((17 : Int32) &&& 31).toUInt32).toInt32) &&& (3 : Int32))))] [])) tg_ → Steps p.tables e below (s₁.setTop (entryFrame m #[(.int p0), (.int p1)] maxLocals)) tg_ := by
              intro tg_ kt
              refine k304 tg_ ?_
              by_cases hj17_305 : (p1 &&& (65536 : Int32)) = (0 : Int32)
              · refine XS.ifYes X303.here hx rfl (pc0 := 17) (pc' := 73) rfl (hb hby at_17) rfl ((if0 _ _).trans (teq hj17_305).1) (by decide) (by decide) ?_
                show Steps p.tables e below (T303.setTop (mkF m 73 #[.val (.int p0), .val (.int p1), .val (.int v228), .val (.ref vst), .unset, .unset] [])) _
                refine XS.iloadN X303.here hx rfl (hb hby at_73) rfl ?_
                show Steps p.tables e below (T303.setTop (mkF m 74 #[.val (.int p0), .val (.int p1), .val (.int v228), .val (.ref vst), .unset, .unset] [(.int p1)])) _
                refine X303.ldcInt hx hown (mvT hZ (hw _ (List.mem_of_getElem? (i := 9) rfl))) (g := (mkF m 74 #[.val (.int p0), .val (.int p1), .val (.int v228), .val (.ref vst), .unset, .unset] [(.int p1)])) rfl (hb hby at_74) _ ?_
                show Steps p.tables e below (T303.setTop (mkF m 76 #[.val (.int p0), .val (.int p1), .val (.int v228), .val (.ref vst), .unset, .unset] [(.int (65535 : Int32)), (.int p1)])) _
                refine XS.iand X303.here hx rfl (hb hby at_76) rfl ?_
                show Steps p.tables e below (T303.setTop (mkF m 77 #[.val (.int p0), .val (.int p1), .val (.int v228), .val (.ref vst), .unset, .unset] [(.int (p1 &&& (65535 : Int32)))])) _
                refine XS.i2c X303.here hx rfl (hb hby at_77) rfl ?_
                show Steps p.tables e below (T303.setTop (mkF m 78 #[.val (.int p0), .val (.int p1), .val (.int v228), .val (.ref vst), .unset, .unset] [(.int ((p1 &&& (65535 : Int32)).toUInt32.toUInt16.toUInt32.toInt32))])) _
                refine XS.istore X303.here hx rfl (hb hby at_78) rfl (l' := #[.val (.int p0), .val (.int p1), .val (.int v228), .val (.ref vst), .val (.int ((p1 &&& (65535 : Int32)).toUInt32.toUInt16.toUInt32.toInt32)), .unset]) rfl ?_
                show Steps p.tables e below (T303.setTop (mkF m 80 #[.val (.int p0), .val (.int p1), .val (.int v228), .val (.ref vst), .val (.int ((p1 &&& (65535 : Int32)).toUInt32.toUInt16.toUInt32.toInt32)), .unset] [])) _
                simpa only [if_pos hj17_305] using kt
              · refine XS.ifNo X303.here hx rfl (hb hby at_17) rfl ((if0 _ _).trans (feq hj17_305).1) ?_
                show Steps p.tables e below (T303.setTop (mkF m 20 #[.val (.int p0), .val (.int p1), .val (.int v228), .val (.ref vst), .unset, .unset] [])) _
                refine XS.iloadN X303.here hx rfl (hb hby at_20) rfl ?_
                show Steps p.tables e below (T303.setTop (mkF m 21 #[.val (.int p0), .val (.int p1), .val (.int v228), .val (.ref vst), .unset, .unset] [(.int p1)])) _
                refine XS.bipush X303.here hx rfl (hb hby at_21) ?_
                show Steps p.tables e below (T303.setTop (mkF m 23 #[.val (.int p0), .val (.int p1), .val (.int v228), .val (.ref vst), .unset, .unset] [(.int (17 : Int32)), (.int p1)])) _
                refine XS.iushr X303.here hx rfl (hb hby at_23) rfl ?_
                show Steps p.tables e below (T303.setTop (mkF m 24 #[.val (.int p0), .val (.int p1), .val (.int v228), .val (.ref vst), .unset, .unset] [(.int ((p1.toUInt32 >>> ((17 : Int32) &&& 31).toUInt32).toInt32))])) _
                refine XS.iconst X303.here hx rfl (hb hby at_24) ?_
                show Steps p.tables e below (T303.setTop (mkF m 25 #[.val (.int p0), .val (.int p1), .val (.int v228), .val (.ref vst), .unset, .unset] [(.int (3 : Int32)), (.int ((p1.toUInt32 >>> ((17 : Int32) &&& 31).toUInt32).toInt32))])) _
                refine XS.iand X303.here hx rfl (hb hby at_25) rfl ?_
                show Steps p.tables e below (T303.setTop (mkF m 26 #[.val (.int p0), .val (.int p1), .val (.int v228), .val (.ref vst), .unset, .unset] [(.int (((p1.toUInt32 >>> ((17 : Int32) &&& 31).toUInt32).toInt32) &&& (3 : Int32)))])) _
                refine XS.istore X303.here hx rfl (hb hby at_26) rfl (l' := #[.val (.int p0), .val (.int p1), .val (.int v228), .val (.ref vst), .unset, .val (.int (((p1.toUInt32 >>> ((17 : Int32) &&& 31).toUInt32).toInt32) &&& (3 : Int32)))]) rfl ?_
                show Steps p.tables e below (T303.setTop (mkF m 28 #[.val (.int p0), .val (.int p1), .val (.int v228), .val (.ref vst), .unset, .val (.int (((p1.toUInt32 >>> ((17 : Int32) &&& 31).toUInt32).toInt32) &&& (3 : Int32)))] [])) _
                refine XS.iload X303.here hx rfl (hb hby at_28) rfl ?_
                show Steps p.tables e below (T303.setTop (mkF m 30 #[.val (.int p0), .val (.int p1), .val (.int v228), .val (.ref vst), .unset, .val (.int (((p1.toUInt32 >>> ((17 : Int32) &&& 31).toUInt32).toInt32) &&& (3 : Int32)))] [(.int (((p1.toUInt32 >>> ((17 : Int32) &&& 31).toUInt32).toInt32) &&& (3 : Int32)))])) _
                by_cases hj30_306 : (((p1.toUInt32 >>> ((17 : Int32) &&& 31).toUInt32).toInt32) &&& (3 : Int32)) = (0 : Int32)
                · refine XS.ifNo X303.here hx rfl (hb hby at_30) rfl ((if0 _ _).trans (teq hj30_306).2) ?_
                  show Steps p.tables e below (T303.setTop (mkF m 33 #[.val (.int p0), .val (.int p1), .val (.int v228), .val (.ref vst), .unset, .val (.int (((p1.toUInt32 >>> ((17 : Int32) &&& 31).toUInt32).toInt32) &&& (3 : Int32)))] [])) _
                  refine XS.bipush X303.here hx rfl (hb hby at_33) ?_
                  show Steps p.tables e below (T303.setTop (mkF m 35 #[.val (.int p0), .val (.int p1), .val (.int v228), .val (.ref vst), .unset, .val (.int (((p1.toUInt32 >>> ((17 : Int32) &&& 31).toUInt32).toInt32) &&& (3 : Int32)))] [(.int (115 : Int32))])) _
                  refine XS.istore X303.here hx rfl (hb hby at_35) rfl (l' := #[.val (.int p0), .val (.int p1), .val (.int v228), .val (.ref vst), .val (.int (115 : Int32)), .val (.int (((p1.toUInt32 >>> ((17 : Int32) &&& 31).toUInt32).toInt32) &&& (3 : Int32)))]) rfl ?_
                  show Steps p.tables e below (T303.setTop (mkF m 37 #[.val (.int p0), .val (.int p1), .val (.int v228), .val (.ref vst), .val (.int (115 : Int32)), .val (.int (((p1.toUInt32 >>> ((17 : Int32) &&& 31).toUInt32).toInt32) &&& (3 : Int32)))] [])) _
                  refine XS.goto X303.here hx rfl (pc0 := 37) (pc' := 70) rfl (hb hby at_37) (by decide) (by decide) ?_
                  show Steps p.tables e below (T303.setTop (mkF m 70 #[.val (.int p0), .val (.int p1), .val (.int v228), .val (.ref vst), .val (.int (115 : Int32)), .val (.int (((p1.toUInt32 >>> ((17 : Int32) &&& 31).toUInt32).toInt32) &&& (3 : Int32)))] [])) _
                  refine XS.goto X303.here hx rfl (pc0 := 70) (pc' := 80) rfl (hb hby at_70) (by decide) (by decide) ?_
                  show Steps p.tables e below (T303.setTop (mkF m 80 #[.val (.int p0), .val (.int p1), .val (.int v228), .val (.ref vst), .val (.int (115 : Int32)), .val (.int (((p1.toUInt32 >>> ((17 : Int32) &&& 31).toUInt32).toInt32) &&& (3 : Int32)))] [])) _
                  simpa only [if_neg hj17_305, if_pos hj30_306] using kt
                · refine XS.ifYes X303.here hx rfl (pc0 := 30) (pc' := 40) rfl (hb hby at_30) rfl ((if0 _ _).trans (feq hj30_306).2) (by decide) (by decide) ?_
                  show Steps p.tables e below (T303.setTop (mkF m 40 #[.val (.int p0), .val (.int p1), .val (.int v228), .val (.ref vst), .unset, .val (.int (((p1.toUInt32 >>> ((17 : Int32) &&& 31).toUInt32).toInt32) &&& (3 : Int32)))] [])) _
                  refine XS.iload X303.here hx rfl (hb hby at_40) rfl ?_
                  show Steps p.tables e below (T303.setTop (mkF m 42 #[.val (.int p0), .val (.int p1), .val (.int v228), .val (.ref vst), .unset, .val (.int (((p1.toUInt32 >>> ((17 : Int32) &&& 31).toUInt32).toInt32) &&& (3 : Int32)))] [(.int (((p1.toUInt32 >>> ((17 : Int32) &&& 31).toUInt32).toInt32) &&& (3 : Int32)))])) _
                  refine XS.iconst X303.here hx rfl (hb hby at_42) ?_
                  show Steps p.tables e below (T303.setTop (mkF m 43 #[.val (.int p0), .val (.int p1), .val (.int v228), .val (.ref vst), .unset, .val (.int (((p1.toUInt32 >>> ((17 : Int32) &&& 31).toUInt32).toInt32) &&& (3 : Int32)))] [(.int (1 : Int32)), (.int (((p1.toUInt32 >>> ((17 : Int32) &&& 31).toUInt32).toInt32) &&& (3 : Int32)))])) _
                  by_cases hj43_307 : (((p1.toUInt32 >>> ((17 : Int32) &&& 31).toUInt32).toInt32) &&& (3 : Int32)) = (1 : Int32)
                  · refine XS.icmpNo X303.here hx rfl (hb hby at_43) rfl (teq hj43_307).2 ?_
                    show Steps p.tables e below (T303.setTop (mkF m 46 #[.val (.int p0), .val (.int p1), .val (.int v228), .val (.ref vst), .unset, .val (.int (((p1.toUInt32 >>> ((17 : Int32) &&& 31).toUInt32).toInt32) &&& (3 : Int32)))] [])) _
                    refine XS.bipush X303.here hx rfl (hb hby at_46) ?_
                    show Steps p.tables e below (T303.setTop (mkF m 48 #[.val (.int p0), .val (.int p1), .val (.int v228), .val (.ref vst), .unset, .val (.int (((p1.toUInt32 >>> ((17 : Int32) &&& 31).toUInt32).toInt32) &&& (3 : Int32)))] [(.int (101 : Int32))])) _
                    refine XS.istore X303.here hx rfl (hb hby at_48) rfl (l' := #[.val (.int p0), .val (.int p1), .val (.int v228), .val (.ref vst), .val (.int (101 : Int32)), .val (.int (((p1.toUInt32 >>> ((17 : Int32) &&& 31).toUInt32).toInt32) &&& (3 : Int32)))]) rfl ?_
                    show Steps p.tables e below (T303.setTop (mkF m 50 #[.val (.int p0), .val (.int p1), .val (.int v228), .val (.ref vst), .val (.int (101 : Int32)), .val (.int (((p1.toUInt32 >>> ((17 : Int32) &&& 31).toUInt32).toInt32) &&& (3 : Int32)))] [])) _
                    refine XS.goto X303.here hx rfl (pc0 := 50) (pc' := 70) rfl (hb hby at_50) (by decide) (by decide) ?_
                    show Steps p.tables e below (T303.setTop (mkF m 70 #[.val (.int p0), .val (.int p1), .val (.int v228), .val (.ref vst), .val (.int (101 : Int32)), .val (.int (((p1.toUInt32 >>> ((17 : Int32) &&& 31).toUInt32).toInt32) &&& (3 : Int32)))] [])) _
                    refine XS.goto X303.here hx rfl (pc0 := 70) (pc' := 80) rfl (hb hby at_70) (by decide) (by decide) ?_
                    show Steps p.tables e below (T303.setTop (mkF m 80 #[.val (.int p0), .val (.int p1), .val (.int v228), .val (.ref vst), .val (.int (101 : Int32)), .val (.int (((p1.toUInt32 >>> ((17 : Int32) &&& 31).toUInt32).toInt32) &&& (3 : Int32)))] [])) _
                    simpa only [if_neg hj17_305, if_neg hj30_306, if_pos hj43_307] using kt
                  · refine XS.icmpYes X303.here hx rfl (pc0 := 43) (pc' := 53) rfl (hb hby at_43) rfl (feq hj43_307).2 (by decide) (by decide) ?_
                    show Steps p.tables e below (T303.setTop (mkF m 53 #[.val (.int p0), .val (.int p1), .val (.int v228), .val (.ref vst), .unset, .val (.int (((p1.toUInt32 >>> ((17 : Int32) &&& 31).toUInt32).toInt32) &&& (3 : Int32)))] [])) _
                    refine XS.iload X303.here hx rfl (hb hby at_53) rfl ?_
                    show Steps p.tables e below (T303.setTop (mkF m 55 #[.val (.int p0), .val (.int p1), .val (.int v228), .val (.ref vst), .unset, .val (.int (((p1.toUInt32 >>> ((17 : Int32) &&& 31).toUInt32).toInt32) &&& (3 : Int32)))] [(.int (((p1.toUInt32 >>> ((17 : Int32) &&& 31).toUInt32).toInt32) &&& (3 : Int32)))])) _
                    refine XS.iconst X303.here hx rfl (hb hby at_55) ?_
                    show Steps p.tables e below (T303.setTop (mkF m 56 #[.val (.int p0), .val (.int p1), .val (.int v228), .val (.ref vst), .unset, .val (.int (((p1.toUInt32 >>> ((17 : Int32) &&& 31).toUInt32).toInt32) &&& (3 : Int32)))] [(.int (2 : Int32)), (.int (((p1.toUInt32 >>> ((17 : Int32) &&& 31).toUInt32).toInt32) &&& (3 : Int32)))])) _
                    by_cases hj56_308 : (((p1.toUInt32 >>> ((17 : Int32) &&& 31).toUInt32).toInt32) &&& (3 : Int32)) = (2 : Int32)
                    · refine XS.icmpNo X303.here hx rfl (hb hby at_56) rfl (teq hj56_308).2 ?_
                      show Steps p.tables e below (T303.setTop (mkF m 59 #[.val (.int p0), .val (.int p1), .val (.int v228), .val (.ref vst), .unset, .val (.int (((p1.toUInt32 >>> ((17 : Int32) &&& 31).toUInt32).toInt32) &&& (3 : Int32)))] [])) _
                      refine XS.bipush X303.here hx rfl (hb hby at_59) ?_
                      show Steps p.tables e below (T303.setTop (mkF m 61 #[.val (.int p0), .val (.int p1), .val (.int v228), .val (.ref vst), .unset, .val (.int (((p1.toUInt32 >>> ((17 : Int32) &&& 31).toUInt32).toInt32) &&& (3 : Int32)))] [(.int (118 : Int32))])) _
                      refine XS.istore X303.here hx rfl (hb hby at_61) rfl (l' := #[.val (.int p0), .val (.int p1), .val (.int v228), .val (.ref vst), .val (.int (118 : Int32)), .val (.int (((p1.toUInt32 >>> ((17 : Int32) &&& 31).toUInt32).toInt32) &&& (3 : Int32)))]) rfl ?_
                      show Steps p.tables e below (T303.setTop (mkF m 63 #[.val (.int p0), .val (.int p1), .val (.int v228), .val (.ref vst), .val (.int (118 : Int32)), .val (.int (((p1.toUInt32 >>> ((17 : Int32) &&& 31).toUInt32).toInt32) &&& (3 : Int32)))] [])) _
                      refine XS.goto X303.here hx rfl (pc0 := 63) (pc' := 70) rfl (hb hby at_63) (by decide) (by decide) ?_
                      show Steps p.tables e below (T303.setTop (mkF m 70 #[.val (.int p0), .val (.int p1), .val (.int v228), .val (.ref vst), .val (.int (118 : Int32)), .val (.int (((p1.toUInt32 >>> ((17 : Int32) &&& 31).toUInt32).toInt32) &&& (3 : Int32)))] [])) _
                      refine XS.goto X303.here hx rfl (pc0 := 70) (pc' := 80) rfl (hb hby at_70) (by decide) (by decide) ?_
                      show Steps p.tables e below (T303.setTop (mkF m 80 #[.val (.int p0), .val (.int p1), .val (.int v228), .val (.ref vst), .val (.int (118 : Int32)), .val (.int (((p1.toUInt32 >>> ((17 : Int32) &&& 31).toUInt32).toInt32) &&& (3 : Int32)))] [])) _
                      simpa only [if_neg hj17_305, if_neg hj30_306, if_neg hj43_307, if_pos hj56_308] using kt
                    · refine XS.icmpYes X303.here hx rfl (pc0 := 56) (pc' := 66) rfl (hb hby at_56) rfl (feq hj56_308).2 (by decide) (by decide) ?_
                      show Steps p.tables e below (T303.setTop (mkF m 66 #[.val (.int p0), .val (.int p1), .val (.int v228), .val (.ref vst), .unset, .val (.int (((p1.toUInt32 >>> ((17 : Int32) &&& 31).toUInt32).toInt32) &&& (3 : Int32)))] [])) _
                      refine XS.bipush X303.here hx rfl (hb hby at_66) ?_
                      show Steps p.tables e below (T303.setTop (mkF m 68 #[.val (.int p0), .val (.int p1), .val (.int v228), .val (.ref vst), .unset, .val (.int (((p1.toUInt32 >>> ((17 : Int32) &&& 31).toUInt32).toInt32) &&& (3 : Int32)))] [(.int (58 : Int32))])) _
                      refine XS.istore X303.here hx rfl (hb hby at_68) rfl (l' := #[.val (.int p0), .val (.int p1), .val (.int v228), .val (.ref vst), .val (.int (58 : Int32)), .val (.int (((p1.toUInt32 >>> ((17 : Int32) &&& 31).toUInt32).toInt32) &&& (3 : Int32)))]) rfl ?_
                      show Steps p.tables e below (T303.setTop (mkF m 70 #[.val (.int p0), .val (.int p1), .val (.int v228), .val (.ref vst), .val (.int (58 : Int32)), .val (.int (((p1.toUInt32 >>> ((17 : Int32) &&& 31).toUInt32).toInt32) &&& (3 : Int32)))] [])) _
                      refine XS.goto X303.here hx rfl (pc0 := 70) (pc' := 80) rfl (hb hby at_70) (by decide) (by decide) ?_
                      show Steps p.tables e below (T303.setTop (mkF m 80 #[.val (.int p0), .val (.int p1), .val (.int v228), .val (.ref vst), .val (.int (58 : Int32)), .val (.int (((p1.toUInt32 >>> ((17 : Int32) &&& 31).toUInt32).toInt32) &&& (3 : Int32)))] [])) _
                      simpa only [if_neg hj17_305, if_neg hj30_306, if_neg hj43_307, if_neg hj56_308] using kt
            obtain ⟨v310, hv310⟩ : ∃ z : Int32, z = (if (p1 &&& (65536 : Int32)) = (0 : Int32) then ((p1 &&& (65535 : Int32)).toUInt32.toUInt16.toUInt32.toInt32) else (if (((p1.toUInt32 >>> ((17 : Int32) &&& 31).toUInt32).toInt32) &&& (3 : Int32)) = (0 : Int32) then (115 : Int32) else (if (((p1.toUInt32 >>> ((17 : Int32) &&& 31).toUInt32).toInt32) &&& (3 : Int32)) = (1 : Int32) then (101 : Int32) else (if (((p1.toUInt32 >>> ((17 : Int32) &&& 31).toUInt32).toInt32) &&& (3 : Int32)) = (2 : Int32) then (118 : Int32) else (58 : Int32))))) := ⟨_, rfl⟩
            rw [← hv310] at k309
            obtain ⟨sl311, hsl311⟩ : ∃ z : Slot, z = (if (p1 &&& (65536 : Int32)) = (0 : Int32) then (.unset : Slot) else .val (.int (((p1.toUInt32 >>> ((17 : Int32) &&& 31).toUInt32).toInt32) &&& (3 : Int32)))) := ⟨_, rfl⟩
            have osl311 : One sl311 := by rw [hsl311]; repeat' split; all_goals first | exact One.u | exact One.val rfl
            rw [← hsl311] at k309
            obtain ⟨_, _, ⟨T312, L312, kc312, nc312⟩, -, X312, ⟨Lc312, hQ312, l312, y312, z312⟩, st312⟩ := Jvm.LawKit.callS X303 hx (y := (⟨"com/example/grendel/grendel/cli/VerbTakesPinLaw", "expect", "(IC)Z"⟩ : MethodName)) hown (mvT hZ (hw _ (List.mem_of_getElem? (i := 10) rfl))) (mvT hZ (hw _ (List.mem_of_getElem? (i := 11) rfl))) (mvT hZ (hw _ (List.mem_of_getElem? (i := 3) rfl))) (mvT hZ (hw _ (List.mem_of_getElem? (i := 12) rfl))) (by decide) (backOf (W := 0) (rm2 l Z a0 hw [] v228 v310 h0 n0 ) hZ (hw _ (List.mem_of_getElem? (i := 12) rfl)) (hw _ (List.mem_of_getElem? (i := 3) rfl)) (by decide) (by decide)) (g := (mkF m 83 #[.val (.int p0), .val (.int p1), .val (.int v228), .val (.ref vst), .val (.int v310), sl311] [(.int v310), (.int v228)])) rfl (by rw [hml]; rfl) (argsL := [(.int v228), (.int v310)]) (rest := []) (lenOf pd_1 rfl) rfl (by show 2 * 0 + _ ≤ _; exact Nat.le_of_eq rfl) (hb hby at_83) (fun _ _ => ⟨rfl, eq303, (by decide : 0 + 0 ≤ _), (by decide : 0 + 0 ≤ _)⟩)
            dsimp only [Pt.U, Pt.locs, Pt.cells, Pt.slots] at X312 l312 y312 z312 st312 hQ312
            rw [l312, y312, z312] at X312
            replace X312 : Stand p l e room_1 s m #[(.int p0), (.int p1)] below meth c T312 _ 0 0 := X312
            obtain ⟨rfl, Nq312, eq312⟩ := hQ312
            have N312 := Fr.app N303 Nq312
            have k313 : ∀ tg_, Steps p.tables e below (T312.setTop (mkF m 86 #[.val (.int p0), .val (.int p1), .val (.int v228), .val (.ref vst), .val (.int v310), sl311] [(.int (own_exp v228 v310))])) tg_ → Steps p.tables e below (s₁.setTop (entryFrame m #[(.int p0), (.int p1)] maxLocals)) tg_ := by
              intro tg_ kt
              refine k309 tg_ ?_
              refine XS.iloadN X303.here hx rfl (hb hby at_80) rfl ?_
              show Steps p.tables e below (T303.setTop (mkF m 81 #[.val (.int p0), .val (.int p1), .val (.int v228), .val (.ref vst), .val (.int v310), sl311] [(.int v228)])) _
              refine XS.iload X303.here hx rfl (hb hby at_81) rfl ?_
              show Steps p.tables e below (T303.setTop (mkF m 83 #[.val (.int p0), .val (.int p1), .val (.int v228), .val (.ref vst), .val (.int v310), sl311] [(.int v310), (.int v228)])) _
              refine st312 _ ?_
              show Steps p.tables e below (T312.setTop (mkF m 86 #[.val (.int p0), .val (.int p1), .val (.int v228), .val (.ref vst), .val (.int v310), sl311] [(.int (own_exp v228 v310))])) _
              exact kt
            obtain ⟨r314, hr314⟩ : ∃ z : Int32, z = (own_exp v228 v310) := ⟨_, rfl⟩
            rw [← hr314] at k313
            obtain ⟨cq315, kq315, q315a, q315b, q315c⟩ := isOf hZ eq312 E_vst
            obtain ⟨_, _, ⟨T315, L315, kc315, nc315⟩, -, X315, ⟨Lc315, hQ315, l315, y315, z315⟩, st315⟩ := X312.virtualBack hx (y := (⟨"com/example/grendel/grendel/cli/Verb", "takes", "(C)Z"⟩ : MethodName)) (z := (⟨"com/example/grendel/grendel/cli/Verb", "takes", "(C)Z"⟩ : MethodName)) hown (mvT hZ (hw _ (List.mem_of_getElem? (i := 13) rfl))) (mvT hZ (hw _ (List.mem_of_getElem? (i := 14) rfl))) (notFace_of_selects (args := #[]) (mvT hZ (hw _ (List.mem_of_getElem? (i := 16) rfl)))) (mvT hZ (hw _ (List.mem_of_getElem? (i := 16) rfl))) (mvT hZ (hw _ (List.mem_of_getElem? (i := 15) rfl))) (by decide) (backOf (W := 0) (rmtk_0 l Z a0 hw [] vst v310 zc oe oev foe h0 n0 E_oe F_vst Fv_oe Fc_oe V_oe S_cs hz) hZ (hw _ (List.mem_of_getElem? (i := 17) rfl)) (hw _ (List.mem_of_getElem? (i := 6) rfl)) (by decide) (by decide)) q315a q315c (g := (mkF m 91 #[.val (.int p0), .val (.int p1), .val (.int v228), .val (.ref vst), .val (.int v310), .val (.int r314)] [(.int v310), (.ref vst)])) rfl (by rw [hml]; rfl) (Steps.refl _) (argsL := [(.int v310)]) (rest := []) (lenOf pd_2 rfl) rfl (by show 2 * 0 + _ ≤ _; exact Nat.le_of_eq rfl) (hb hby at_91) (fun _ _ => ⟨rfl, eq312, (by decide : 0 + 0 ≤ _), (by decide : 0 + 0 ≤ _)⟩)
            dsimp only [Pt.U, Pt.locs, Pt.cells, Pt.slots] at X315 l315 y315 z315 st315 hQ315
            rw [l315, y315, z315] at X315
            replace X315 : Stand p l e room_1 s m #[(.int p0), (.int p1)] below meth c T315 _ 0 0 := X315
            obtain ⟨rfl, Nq315, eq315⟩ := hQ315
            have N315 := Fr.app N312 Nq315
            have k316 : ∀ tg_, Steps p.tables e below (T315.setTop (mkF m 94 #[.val (.int p0), .val (.int p1), .val (.int v228), .val (.ref vst), .val (.int v310), .val (.int r314)] [(.int (own_tk_0 v310))])) tg_ → Steps p.tables e below (s₁.setTop (entryFrame m #[(.int p0), (.int p1)] maxLocals)) tg_ := by
              intro tg_ kt
              refine k313 tg_ ?_
              show Steps p.tables e below (T312.setTop (mkF m 86 #[.val (.int p0), .val (.int p1), .val (.int v228), .val (.ref vst), .val (.int v310), sl311] [(.int r314)])) _
              refine XS.istoreS X312.here hx rfl (hb hby at_86) rfl rfl osl311 ?_
              show Steps p.tables e below (T312.setTop (mkF m 88 #[.val (.int p0), .val (.int p1), .val (.int v228), .val (.ref vst), .val (.int v310), .val (.int r314)] [])) _
              refine XS.aloadN X312.here hx rfl (hb hby at_88) rfl rfl ?_
              show Steps p.tables e below (T312.setTop (mkF m 89 #[.val (.int p0), .val (.int p1), .val (.int v228), .val (.ref vst), .val (.int v310), .val (.int r314)] [(.ref vst)])) _
              refine XS.iload X312.here hx rfl (hb hby at_89) rfl ?_
              show Steps p.tables e below (T312.setTop (mkF m 91 #[.val (.int p0), .val (.int p1), .val (.int v228), .val (.ref vst), .val (.int v310), .val (.int r314)] [(.int v310), (.ref vst)])) _
              refine st315.trans ?_
              show Steps p.tables e below (T315.setTop (mkF m 94 #[.val (.int p0), .val (.int p1), .val (.int v228), .val (.ref vst), .val (.int v310), .val (.int r314)] [(.int (own_tk_0 v310))])) _
              exact kt
            obtain ⟨r317, hr317⟩ : ∃ z : Int32, z = (own_tk_0 v310) := ⟨_, rfl⟩
            rw [← hr317] at k316
            have hc96_318 : r317 = r314 := (by rw [hr317]; rw [hr314]; exact own_lw4 _ _ hc9_302)
            have k319 : ∀ tg_, Steps p.tables e below (T315.setTop (mkF m 104 #[.val (.int p0), .val (.int p1), .val (.int v228), .val (.ref vst), .val (.int v310), .val (.int r314)] [(.int (1 : Int32))])) tg_ → Steps p.tables e below (s₁.setTop (entryFrame m #[(.int p0), (.int p1)] maxLocals)) tg_ := by
              intro tg_ kt
              refine k316 tg_ ?_
              show Steps p.tables e below (T315.setTop (mkF m 94 #[.val (.int p0), .val (.int p1), .val (.int v228), .val (.ref vst), .val (.int v310), .val (.int r314)] [(.int r317)])) _
              refine XS.iload X315.here hx rfl (hb hby at_94) rfl ?_
              show Steps p.tables e below (T315.setTop (mkF m 96 #[.val (.int p0), .val (.int p1), .val (.int v228), .val (.ref vst), .val (.int v310), .val (.int r314)] [(.int r314), (.int r317)])) _
              refine XS.icmpNo X315.here hx rfl (hb hby at_96) rfl (teq hc96_318).2 ?_
              show Steps p.tables e below (T315.setTop (mkF m 99 #[.val (.int p0), .val (.int p1), .val (.int v228), .val (.ref vst), .val (.int v310), .val (.int r314)] [])) _
              refine XS.iconst X315.here hx rfl (hb hby at_99) ?_
              show Steps p.tables e below (T315.setTop (mkF m 100 #[.val (.int p0), .val (.int p1), .val (.int v228), .val (.ref vst), .val (.int v310), .val (.int r314)] [(.int (1 : Int32))])) _
              refine XS.goto X315.here hx rfl (pc0 := 100) (pc' := 104) rfl (hb hby at_100) (by decide) (by decide) ?_
              show Steps p.tables e below (T315.setTop (mkF m 104 #[.val (.int p0), .val (.int p1), .val (.int v228), .val (.ref vst), .val (.int v310), .val (.int r314)] [(.int (1 : Int32))])) _
              exact kt
            obtain ⟨fs, hr, hrun, hended, hW, hsame⟩ := X315.leave (v := some (.int (1 : Int32))) (fun h => by rw [Bd.returns] at h; cases h)
            refine ⟨_, _, k319 _ (retN X315 hx (t := .boolean) Bd.returns (by simp) (hb hby at_104) hr), hrun, hended, _, _, rfl, ?_, ⟨_, rfl⟩, hW, hsame.mono (by decide) (by decide)⟩
            show Q0 Z p0 p1 zc ol olv fol oc ocv foc od odv fod oe oev foe vls vcr vge vse vst vde vda vsy vhe vqu h0 n0 _ T315.heap _
            rw [eq315]
            exact ⟨rfl, N315⟩
          · by_cases hc9_320 : v228 = (5 : Int32)
            · obtain ⟨_, _, ⟨T321, L321, kc321, nc321⟩, -, X321, ⟨Lc321, hQ321, l321, y321, z321⟩, st321⟩ := Jvm.LawKit.callS X0 hx (y := (⟨"com/example/grendel/grendel/cli/VerbTakesPinLaw", "pick", "(I)Lcom/example/grendel/grendel/cli/Verb;"⟩ : MethodName)) hown (mvT hZ (hw _ (List.mem_of_getElem? (i := 1) rfl))) (mvT hZ (hw _ (List.mem_of_getElem? (i := 2) rfl))) (mvT hZ (hw _ (List.mem_of_getElem? (i := 3) rfl))) (mvT hZ (hw _ (List.mem_of_getElem? (i := 4) rfl))) (by decide) (backOf (W := 0) (rmpick5 l Z a0 hw [] v228 vde h0 n0 S_vde hc9_320) hZ (hw _ (List.mem_of_getElem? (i := 4) rfl)) (hw _ (List.mem_of_getElem? (i := 3) rfl)) (by decide) (by decide)) (g := (mkF m 9 #[.val (.int p0), .val (.int p1), .val (.int v228), .unset, .unset, .unset] [(.int v228)])) rfl (by rw [hml]; rfl) (argsL := [(.int v228)]) (rest := []) (lenOf pd_0 rfl) rfl (by show 2 * 0 + _ ≤ _; exact Nat.le_of_eq rfl) (hb hby at_9) (fun _ _ => ⟨rfl, e0, (by decide : 0 + 0 ≤ _), (by decide : 0 + 0 ≤ _)⟩)
              dsimp only [Pt.U, Pt.locs, Pt.cells, Pt.slots] at X321 l321 y321 z321 st321 hQ321
              rw [l321, y321, z321] at X321
              replace X321 : Stand p l e room_1 s m #[(.int p0), (.int p1)] below meth c T321 _ 0 0 := X321
              obtain ⟨rfl, Nq321, eq321⟩ := hQ321
              have N321 := Fr.app N0 Nq321
              have k322 : ∀ tg_, Steps p.tables e below (T321.setTop (mkF m 17 #[.val (.int p0), .val (.int p1), .val (.int v228), .val (.ref vde), .unset, .unset] [(.int (p1 &&& (65536 : Int32)))])) tg_ → Steps p.tables e below (s₁.setTop (entryFrame m #[(.int p0), (.int p1)] maxLocals)) tg_ := by
                intro tg_ kt
                refine k229 tg_ ?_
                refine st321 _ ?_
                show Steps p.tables e below (T321.setTop (mkF m 12 #[.val (.int p0), .val (.int p1), .val (.int v228), .unset, .unset, .unset] [(.ref vde)])) _
                refine XS.astoreN X321.here hx rfl (hb hby at_12) rfl rfl (l' := #[.val (.int p0), .val (.int p1), .val (.int v228), .val (.ref vde), .unset, .unset]) rfl ?_
                show Steps p.tables e below (T321.setTop (mkF m 13 #[.val (.int p0), .val (.int p1), .val (.int v228), .val (.ref vde), .unset, .unset] [])) _
                refine XS.iloadN X321.here hx rfl (hb hby at_13) rfl ?_
                show Steps p.tables e below (T321.setTop (mkF m 14 #[.val (.int p0), .val (.int p1), .val (.int v228), .val (.ref vde), .unset, .unset] [(.int p1)])) _
                refine X321.ldcInt hx hown (mvT hZ (hw _ (List.mem_of_getElem? (i := 8) rfl))) (g := (mkF m 14 #[.val (.int p0), .val (.int p1), .val (.int v228), .val (.ref vde), .unset, .unset] [(.int p1)])) rfl (hb hby at_14) _ ?_
                show Steps p.tables e below (T321.setTop (mkF m 16 #[.val (.int p0), .val (.int p1), .val (.int v228), .val (.ref vde), .unset, .unset] [(.int (65536 : Int32)), (.int p1)])) _
                refine XS.iand X321.here hx rfl (hb hby at_16) rfl ?_
                show Steps p.tables e below (T321.setTop (mkF m 17 #[.val (.int p0), .val (.int p1), .val (.int v228), .val (.ref vde), .unset, .unset] [(.int (p1 &&& (65536 : Int32)))])) _
                exact kt
              have k327 : ∀ tg_, Steps p.tables e below (T321.setTop (mkF m 80 #[.val (.int p0), .val (.int p1), .val (.int v228), .val (.ref vde), .val (.int (if (p1 &&& (65536 : Int32)) = (0 : Int32) then ((p1 &&& (65535 : Int32)).toUInt32.toUInt16.toUInt32.toInt32) else (if (((p1.toUInt32 >>> ((17 : Int32) &&& 31).toUInt32).toInt32) &&& (3 : Int32)) = (0 : Int32) then (115 : Int32) else (if (((p1.toUInt32 >>> ((17 : Int32) &&& 31).toUInt32).toInt32) &&& (3 : Int32)) = (1 : Int32) then (101 : Int32) else (if (((p1.toUInt32 >>> ((17 : Int32) &&& 31).toUInt32).toInt32) &&& (3 : Int32)) = (2 : Int32) then (118 : Int32) else (58 : Int32)))))), (if (p1 &&& (65536 : Int32)) = (0 : Int32) then (.unset : Slot) else .val (.int (((p1.toUInt32 >>> ((17 : Int32) &&& 31).toUInt32).toInt32) &&& (3 : Int32))))] [])) tg_ → Steps p.tables e below (s₁.setTop (entryFrame m #[(.int p0), (.int p1)] maxLocals)) tg_ := by
                intro tg_ kt
                refine k322 tg_ ?_
                by_cases hj17_323 : (p1 &&& (65536 : Int32)) = (0 : Int32)
                · refine XS.ifYes X321.here hx rfl (pc0 := 17) (pc' := 73) rfl (hb hby at_17) rfl ((if0 _ _).trans (teq hj17_323).1) (by decide) (by decide) ?_
                  show Steps p.tables e below (T321.setTop (mkF m 73 #[.val (.int p0), .val (.int p1), .val (.int v228), .val (.ref vde), .unset, .unset] [])) _
                  refine XS.iloadN X321.here hx rfl (hb hby at_73) rfl ?_
                  show Steps p.tables e below (T321.setTop (mkF m 74 #[.val (.int p0), .val (.int p1), .val (.int v228), .val (.ref vde), .unset, .unset] [(.int p1)])) _
                  refine X321.ldcInt hx hown (mvT hZ (hw _ (List.mem_of_getElem? (i := 9) rfl))) (g := (mkF m 74 #[.val (.int p0), .val (.int p1), .val (.int v228), .val (.ref vde), .unset, .unset] [(.int p1)])) rfl (hb hby at_74) _ ?_
                  show Steps p.tables e below (T321.setTop (mkF m 76 #[.val (.int p0), .val (.int p1), .val (.int v228), .val (.ref vde), .unset, .unset] [(.int (65535 : Int32)), (.int p1)])) _
                  refine XS.iand X321.here hx rfl (hb hby at_76) rfl ?_
                  show Steps p.tables e below (T321.setTop (mkF m 77 #[.val (.int p0), .val (.int p1), .val (.int v228), .val (.ref vde), .unset, .unset] [(.int (p1 &&& (65535 : Int32)))])) _
                  refine XS.i2c X321.here hx rfl (hb hby at_77) rfl ?_
                  show Steps p.tables e below (T321.setTop (mkF m 78 #[.val (.int p0), .val (.int p1), .val (.int v228), .val (.ref vde), .unset, .unset] [(.int ((p1 &&& (65535 : Int32)).toUInt32.toUInt16.toUInt32.toInt32))])) _
                  refine XS.istore X321.here hx rfl (hb hby at_78) rfl (l' := #[.val (.int p0), .val (.int p1), .val (.int v228), .val (.ref vde), .val (.int ((p1 &&& (65535 : Int32)).toUInt32.toUInt16.toUInt32.toInt32)), .unset]) rfl ?_
                  show Steps p.tables e below (T321.setTop (mkF m 80 #[.val (.int p0), .val (.int p1), .val (.int v228), .val (.ref vde), .val (.int ((p1 &&& (65535 : Int32)).toUInt32.toUInt16.toUInt32.toInt32)), .unset] [])) _
                  simpa only [if_pos hj17_323] using kt
                · refine XS.ifNo X321.here hx rfl (hb hby at_17) rfl ((if0 _ _).trans (feq hj17_323).1) ?_
                  show Steps p.tables e below (T321.setTop (mkF m 20 #[.val (.int p0), .val (.int p1), .val (.int v228), .val (.ref vde), .unset, .unset] [])) _
                  refine XS.iloadN X321.here hx rfl (hb hby at_20) rfl ?_
                  show Steps p.tables e below (T321.setTop (mkF m 21 #[.val (.int p0), .val (.int p1), .val (.int v228), .val (.ref vde), .unset, .unset] [(.int p1)])) _
                  refine XS.bipush X321.here hx rfl (hb hby at_21) ?_
                  show Steps p.tables e below (T321.setTop (mkF m 23 #[.val (.int p0), .val (.int p1), .val (.int v228), .val (.ref vde), .unset, .unset] [(.int (17 : Int32)), (.int p1)])) _
                  refine XS.iushr X321.here hx rfl (hb hby at_23) rfl ?_
                  show Steps p.tables e below (T321.setTop (mkF m 24 #[.val (.int p0), .val (.int p1), .val (.int v228), .val (.ref vde), .unset, .unset] [(.int ((p1.toUInt32 >>> ((17 : Int32) &&& 31).toUInt32).toInt32))])) _
                  refine XS.iconst X321.here hx rfl (hb hby at_24) ?_
                  show Steps p.tables e below (T321.setTop (mkF m 25 #[.val (.int p0), .val (.int p1), .val (.int v228), .val (.ref vde), .unset, .unset] [(.int (3 : Int32)), (.int ((p1.toUInt32 >>> ((17 : Int32) &&& 31).toUInt32).toInt32))])) _
                  refine XS.iand X321.here hx rfl (hb hby at_25) rfl ?_
                  show Steps p.tables e below (T321.setTop (mkF m 26 #[.val (.int p0), .val (.int p1), .val (.int v228), .val (.ref vde), .unset, .unset] [(.int (((p1.toUInt32 >>> ((17 : Int32) &&& 31).toUInt32).toInt32) &&& (3 : Int32)))])) _
                  refine XS.istore X321.here hx rfl (hb hby at_26) rfl (l' := #[.val (.int p0), .val (.int p1), .val (.int v228), .val (.ref vde), .unset, .val (.int (((p1.toUInt32 >>> ((17 : Int32) &&& 31).toUInt32).toInt32) &&& (3 : Int32)))]) rfl ?_
                  show Steps p.tables e below (T321.setTop (mkF m 28 #[.val (.int p0), .val (.int p1), .val (.int v228), .val (.ref vde), .unset, .val (.int (((p1.toUInt32 >>> ((17 : Int32) &&& 31).toUInt32).toInt32) &&& (3 : Int32)))] [])) _
                  refine XS.iload X321.here hx rfl (hb hby at_28) rfl ?_
                  show Steps p.tables e below (T321.setTop (mkF m 30 #[.val (.int p0), .val (.int p1), .val (.int v228), .val (.ref vde), .unset, .val (.int (((p1.toUInt32 >>> ((17 : Int32) &&& 31).toUInt32).toInt32) &&& (3 : Int32)))] [(.int (((p1.toUInt32 >>> ((17 : Int32) &&& 31).toUInt32).toInt32) &&& (3 : Int32)))])) _
                  by_cases hj30_324 : (((p1.toUInt32 >>> ((17 : Int32) &&& 31).toUInt32).toInt32) &&& (3 : Int32)) = (0 : Int32)
                  · refine XS.ifNo X321.here hx rfl (hb hby at_30) rfl ((if0 _ _).trans (teq hj30_324).2) ?_
                    show Steps p.tables e below (T321.setTop (mkF m 33 #[.val (.int p0), .val (.int p1), .val (.int v228), .val (.ref vde), .unset, .val (.int (((p1.toUInt32 >>> ((17 : Int32) &&& 31).toUInt32).toInt32) &&& (3 : Int32)))] [])) _
                    refine XS.bipush X321.here hx rfl (hb hby at_33) ?_
                    show Steps p.tables e below (T321.setTop (mkF m 35 #[.val (.int p0), .val (.int p1), .val (.int v228), .val (.ref vde), .unset, .val (.int (((p1.toUInt32 >>> ((17 : Int32) &&& 31).toUInt32).toInt32) &&& (3 : Int32)))] [(.int (115 : Int32))])) _
                    refine XS.istore X321.here hx rfl (hb hby at_35) rfl (l' := #[.val (.int p0), .val (.int p1), .val (.int v228), .val (.ref vde), .val (.int (115 : Int32)), .val (.int (((p1.toUInt32 >>> ((17 : Int32) &&& 31).toUInt32).toInt32) &&& (3 : Int32)))]) rfl ?_
                    show Steps p.tables e below (T321.setTop (mkF m 37 #[.val (.int p0), .val (.int p1), .val (.int v228), .val (.ref vde), .val (.int (115 : Int32)), .val (.int (((p1.toUInt32 >>> ((17 : Int32) &&& 31).toUInt32).toInt32) &&& (3 : Int32)))] [])) _
                    refine XS.goto X321.here hx rfl (pc0 := 37) (pc' := 70) rfl (hb hby at_37) (by decide) (by decide) ?_
                    show Steps p.tables e below (T321.setTop (mkF m 70 #[.val (.int p0), .val (.int p1), .val (.int v228), .val (.ref vde), .val (.int (115 : Int32)), .val (.int (((p1.toUInt32 >>> ((17 : Int32) &&& 31).toUInt32).toInt32) &&& (3 : Int32)))] [])) _
                    refine XS.goto X321.here hx rfl (pc0 := 70) (pc' := 80) rfl (hb hby at_70) (by decide) (by decide) ?_
                    show Steps p.tables e below (T321.setTop (mkF m 80 #[.val (.int p0), .val (.int p1), .val (.int v228), .val (.ref vde), .val (.int (115 : Int32)), .val (.int (((p1.toUInt32 >>> ((17 : Int32) &&& 31).toUInt32).toInt32) &&& (3 : Int32)))] [])) _
                    simpa only [if_neg hj17_323, if_pos hj30_324] using kt
                  · refine XS.ifYes X321.here hx rfl (pc0 := 30) (pc' := 40) rfl (hb hby at_30) rfl ((if0 _ _).trans (feq hj30_324).2) (by decide) (by decide) ?_
                    show Steps p.tables e below (T321.setTop (mkF m 40 #[.val (.int p0), .val (.int p1), .val (.int v228), .val (.ref vde), .unset, .val (.int (((p1.toUInt32 >>> ((17 : Int32) &&& 31).toUInt32).toInt32) &&& (3 : Int32)))] [])) _
                    refine XS.iload X321.here hx rfl (hb hby at_40) rfl ?_
                    show Steps p.tables e below (T321.setTop (mkF m 42 #[.val (.int p0), .val (.int p1), .val (.int v228), .val (.ref vde), .unset, .val (.int (((p1.toUInt32 >>> ((17 : Int32) &&& 31).toUInt32).toInt32) &&& (3 : Int32)))] [(.int (((p1.toUInt32 >>> ((17 : Int32) &&& 31).toUInt32).toInt32) &&& (3 : Int32)))])) _
                    refine XS.iconst X321.here hx rfl (hb hby at_42) ?_
                    show Steps p.tables e below (T321.setTop (mkF m 43 #[.val (.int p0), .val (.int p1), .val (.int v228), .val (.ref vde), .unset, .val (.int (((p1.toUInt32 >>> ((17 : Int32) &&& 31).toUInt32).toInt32) &&& (3 : Int32)))] [(.int (1 : Int32)), (.int (((p1.toUInt32 >>> ((17 : Int32) &&& 31).toUInt32).toInt32) &&& (3 : Int32)))])) _
                    by_cases hj43_325 : (((p1.toUInt32 >>> ((17 : Int32) &&& 31).toUInt32).toInt32) &&& (3 : Int32)) = (1 : Int32)
                    · refine XS.icmpNo X321.here hx rfl (hb hby at_43) rfl (teq hj43_325).2 ?_
                      show Steps p.tables e below (T321.setTop (mkF m 46 #[.val (.int p0), .val (.int p1), .val (.int v228), .val (.ref vde), .unset, .val (.int (((p1.toUInt32 >>> ((17 : Int32) &&& 31).toUInt32).toInt32) &&& (3 : Int32)))] [])) _
                      refine XS.bipush X321.here hx rfl (hb hby at_46) ?_
                      show Steps p.tables e below (T321.setTop (mkF m 48 #[.val (.int p0), .val (.int p1), .val (.int v228), .val (.ref vde), .unset, .val (.int (((p1.toUInt32 >>> ((17 : Int32) &&& 31).toUInt32).toInt32) &&& (3 : Int32)))] [(.int (101 : Int32))])) _
                      refine XS.istore X321.here hx rfl (hb hby at_48) rfl (l' := #[.val (.int p0), .val (.int p1), .val (.int v228), .val (.ref vde), .val (.int (101 : Int32)), .val (.int (((p1.toUInt32 >>> ((17 : Int32) &&& 31).toUInt32).toInt32) &&& (3 : Int32)))]) rfl ?_
                      show Steps p.tables e below (T321.setTop (mkF m 50 #[.val (.int p0), .val (.int p1), .val (.int v228), .val (.ref vde), .val (.int (101 : Int32)), .val (.int (((p1.toUInt32 >>> ((17 : Int32) &&& 31).toUInt32).toInt32) &&& (3 : Int32)))] [])) _
                      refine XS.goto X321.here hx rfl (pc0 := 50) (pc' := 70) rfl (hb hby at_50) (by decide) (by decide) ?_
                      show Steps p.tables e below (T321.setTop (mkF m 70 #[.val (.int p0), .val (.int p1), .val (.int v228), .val (.ref vde), .val (.int (101 : Int32)), .val (.int (((p1.toUInt32 >>> ((17 : Int32) &&& 31).toUInt32).toInt32) &&& (3 : Int32)))] [])) _
                      refine XS.goto X321.here hx rfl (pc0 := 70) (pc' := 80) rfl (hb hby at_70) (by decide) (by decide) ?_
                      show Steps p.tables e below (T321.setTop (mkF m 80 #[.val (.int p0), .val (.int p1), .val (.int v228), .val (.ref vde), .val (.int (101 : Int32)), .val (.int (((p1.toUInt32 >>> ((17 : Int32) &&& 31).toUInt32).toInt32) &&& (3 : Int32)))] [])) _
                      simpa only [if_neg hj17_323, if_neg hj30_324, if_pos hj43_325] using kt
                    · refine XS.icmpYes X321.here hx rfl (pc0 := 43) (pc' := 53) rfl (hb hby at_43) rfl (feq hj43_325).2 (by decide) (by decide) ?_
                      show Steps p.tables e below (T321.setTop (mkF m 53 #[.val (.int p0), .val (.int p1), .val (.int v228), .val (.ref vde), .unset, .val (.int (((p1.toUInt32 >>> ((17 : Int32) &&& 31).toUInt32).toInt32) &&& (3 : Int32)))] [])) _
                      refine XS.iload X321.here hx rfl (hb hby at_53) rfl ?_
                      show Steps p.tables e below (T321.setTop (mkF m 55 #[.val (.int p0), .val (.int p1), .val (.int v228), .val (.ref vde), .unset, .val (.int (((p1.toUInt32 >>> ((17 : Int32) &&& 31).toUInt32).toInt32) &&& (3 : Int32)))] [(.int (((p1.toUInt32 >>> ((17 : Int32) &&& 31).toUInt32).toInt32) &&& (3 : Int32)))])) _
                      refine XS.iconst X321.here hx rfl (hb hby at_55) ?_
                      show Steps p.tables e below (T321.setTop (mkF m 56 #[.val (.int p0), .val (.int p1), .val (.int v228), .val (.ref vde), .unset, .val (.int (((p1.toUInt32 >>> ((17 : Int32) &&& 31).toUInt32).toInt32) &&& (3 : Int32)))] [(.int (2 : Int32)), (.int (((p1.toUInt32 >>> ((17 : Int32) &&& 31).toUInt32).toInt32) &&& (3 : Int32)))])) _
                      by_cases hj56_326 : (((p1.toUInt32 >>> ((17 : Int32) &&& 31).toUInt32).toInt32) &&& (3 : Int32)) = (2 : Int32)
                      · refine XS.icmpNo X321.here hx rfl (hb hby at_56) rfl (teq hj56_326).2 ?_
                        show Steps p.tables e below (T321.setTop (mkF m 59 #[.val (.int p0), .val (.int p1), .val (.int v228), .val (.ref vde), .unset, .val (.int (((p1.toUInt32 >>> ((17 : Int32) &&& 31).toUInt32).toInt32) &&& (3 : Int32)))] [])) _
                        refine XS.bipush X321.here hx rfl (hb hby at_59) ?_
                        show Steps p.tables e below (T321.setTop (mkF m 61 #[.val (.int p0), .val (.int p1), .val (.int v228), .val (.ref vde), .unset, .val (.int (((p1.toUInt32 >>> ((17 : Int32) &&& 31).toUInt32).toInt32) &&& (3 : Int32)))] [(.int (118 : Int32))])) _
                        refine XS.istore X321.here hx rfl (hb hby at_61) rfl (l' := #[.val (.int p0), .val (.int p1), .val (.int v228), .val (.ref vde), .val (.int (118 : Int32)), .val (.int (((p1.toUInt32 >>> ((17 : Int32) &&& 31).toUInt32).toInt32) &&& (3 : Int32)))]) rfl ?_
                        show Steps p.tables e below (T321.setTop (mkF m 63 #[.val (.int p0), .val (.int p1), .val (.int v228), .val (.ref vde), .val (.int (118 : Int32)), .val (.int (((p1.toUInt32 >>> ((17 : Int32) &&& 31).toUInt32).toInt32) &&& (3 : Int32)))] [])) _
                        refine XS.goto X321.here hx rfl (pc0 := 63) (pc' := 70) rfl (hb hby at_63) (by decide) (by decide) ?_
                        show Steps p.tables e below (T321.setTop (mkF m 70 #[.val (.int p0), .val (.int p1), .val (.int v228), .val (.ref vde), .val (.int (118 : Int32)), .val (.int (((p1.toUInt32 >>> ((17 : Int32) &&& 31).toUInt32).toInt32) &&& (3 : Int32)))] [])) _
                        refine XS.goto X321.here hx rfl (pc0 := 70) (pc' := 80) rfl (hb hby at_70) (by decide) (by decide) ?_
                        show Steps p.tables e below (T321.setTop (mkF m 80 #[.val (.int p0), .val (.int p1), .val (.int v228), .val (.ref vde), .val (.int (118 : Int32)), .val (.int (((p1.toUInt32 >>> ((17 : Int32) &&& 31).toUInt32).toInt32) &&& (3 : Int32)))] [])) _
                        simpa only [if_neg hj17_323, if_neg hj30_324, if_neg hj43_325, if_pos hj56_326] using kt
                      · refine XS.icmpYes X321.here hx rfl (pc0 := 56) (pc' := 66) rfl (hb hby at_56) rfl (feq hj56_326).2 (by decide) (by decide) ?_
                        show Steps p.tables e below (T321.setTop (mkF m 66 #[.val (.int p0), .val (.int p1), .val (.int v228), .val (.ref vde), .unset, .val (.int (((p1.toUInt32 >>> ((17 : Int32) &&& 31).toUInt32).toInt32) &&& (3 : Int32)))] [])) _
                        refine XS.bipush X321.here hx rfl (hb hby at_66) ?_
                        show Steps p.tables e below (T321.setTop (mkF m 68 #[.val (.int p0), .val (.int p1), .val (.int v228), .val (.ref vde), .unset, .val (.int (((p1.toUInt32 >>> ((17 : Int32) &&& 31).toUInt32).toInt32) &&& (3 : Int32)))] [(.int (58 : Int32))])) _
                        refine XS.istore X321.here hx rfl (hb hby at_68) rfl (l' := #[.val (.int p0), .val (.int p1), .val (.int v228), .val (.ref vde), .val (.int (58 : Int32)), .val (.int (((p1.toUInt32 >>> ((17 : Int32) &&& 31).toUInt32).toInt32) &&& (3 : Int32)))]) rfl ?_
                        show Steps p.tables e below (T321.setTop (mkF m 70 #[.val (.int p0), .val (.int p1), .val (.int v228), .val (.ref vde), .val (.int (58 : Int32)), .val (.int (((p1.toUInt32 >>> ((17 : Int32) &&& 31).toUInt32).toInt32) &&& (3 : Int32)))] [])) _
                        refine XS.goto X321.here hx rfl (pc0 := 70) (pc' := 80) rfl (hb hby at_70) (by decide) (by decide) ?_
                        show Steps p.tables e below (T321.setTop (mkF m 80 #[.val (.int p0), .val (.int p1), .val (.int v228), .val (.ref vde), .val (.int (58 : Int32)), .val (.int (((p1.toUInt32 >>> ((17 : Int32) &&& 31).toUInt32).toInt32) &&& (3 : Int32)))] [])) _
                        simpa only [if_neg hj17_323, if_neg hj30_324, if_neg hj43_325, if_neg hj56_326] using kt
              obtain ⟨v328, hv328⟩ : ∃ z : Int32, z = (if (p1 &&& (65536 : Int32)) = (0 : Int32) then ((p1 &&& (65535 : Int32)).toUInt32.toUInt16.toUInt32.toInt32) else (if (((p1.toUInt32 >>> ((17 : Int32) &&& 31).toUInt32).toInt32) &&& (3 : Int32)) = (0 : Int32) then (115 : Int32) else (if (((p1.toUInt32 >>> ((17 : Int32) &&& 31).toUInt32).toInt32) &&& (3 : Int32)) = (1 : Int32) then (101 : Int32) else (if (((p1.toUInt32 >>> ((17 : Int32) &&& 31).toUInt32).toInt32) &&& (3 : Int32)) = (2 : Int32) then (118 : Int32) else (58 : Int32))))) := ⟨_, rfl⟩
              rw [← hv328] at k327
              obtain ⟨sl329, hsl329⟩ : ∃ z : Slot, z = (if (p1 &&& (65536 : Int32)) = (0 : Int32) then (.unset : Slot) else .val (.int (((p1.toUInt32 >>> ((17 : Int32) &&& 31).toUInt32).toInt32) &&& (3 : Int32)))) := ⟨_, rfl⟩
              have osl329 : One sl329 := by rw [hsl329]; repeat' split; all_goals first | exact One.u | exact One.val rfl
              rw [← hsl329] at k327
              obtain ⟨_, _, ⟨T330, L330, kc330, nc330⟩, -, X330, ⟨Lc330, hQ330, l330, y330, z330⟩, st330⟩ := Jvm.LawKit.callS X321 hx (y := (⟨"com/example/grendel/grendel/cli/VerbTakesPinLaw", "expect", "(IC)Z"⟩ : MethodName)) hown (mvT hZ (hw _ (List.mem_of_getElem? (i := 10) rfl))) (mvT hZ (hw _ (List.mem_of_getElem? (i := 11) rfl))) (mvT hZ (hw _ (List.mem_of_getElem? (i := 3) rfl))) (mvT hZ (hw _ (List.mem_of_getElem? (i := 12) rfl))) (by decide) (backOf (W := 0) (rm2 l Z a0 hw [] v228 v328 h0 n0 ) hZ (hw _ (List.mem_of_getElem? (i := 12) rfl)) (hw _ (List.mem_of_getElem? (i := 3) rfl)) (by decide) (by decide)) (g := (mkF m 83 #[.val (.int p0), .val (.int p1), .val (.int v228), .val (.ref vde), .val (.int v328), sl329] [(.int v328), (.int v228)])) rfl (by rw [hml]; rfl) (argsL := [(.int v228), (.int v328)]) (rest := []) (lenOf pd_1 rfl) rfl (by show 2 * 0 + _ ≤ _; exact Nat.le_of_eq rfl) (hb hby at_83) (fun _ _ => ⟨rfl, eq321, (by decide : 0 + 0 ≤ _), (by decide : 0 + 0 ≤ _)⟩)
              dsimp only [Pt.U, Pt.locs, Pt.cells, Pt.slots] at X330 l330 y330 z330 st330 hQ330
              rw [l330, y330, z330] at X330
              replace X330 : Stand p l e room_1 s m #[(.int p0), (.int p1)] below meth c T330 _ 0 0 := X330
              obtain ⟨rfl, Nq330, eq330⟩ := hQ330
              have N330 := Fr.app N321 Nq330
              have k331 : ∀ tg_, Steps p.tables e below (T330.setTop (mkF m 86 #[.val (.int p0), .val (.int p1), .val (.int v228), .val (.ref vde), .val (.int v328), sl329] [(.int (own_exp v228 v328))])) tg_ → Steps p.tables e below (s₁.setTop (entryFrame m #[(.int p0), (.int p1)] maxLocals)) tg_ := by
                intro tg_ kt
                refine k327 tg_ ?_
                refine XS.iloadN X321.here hx rfl (hb hby at_80) rfl ?_
                show Steps p.tables e below (T321.setTop (mkF m 81 #[.val (.int p0), .val (.int p1), .val (.int v228), .val (.ref vde), .val (.int v328), sl329] [(.int v228)])) _
                refine XS.iload X321.here hx rfl (hb hby at_81) rfl ?_
                show Steps p.tables e below (T321.setTop (mkF m 83 #[.val (.int p0), .val (.int p1), .val (.int v228), .val (.ref vde), .val (.int v328), sl329] [(.int v328), (.int v228)])) _
                refine st330 _ ?_
                show Steps p.tables e below (T330.setTop (mkF m 86 #[.val (.int p0), .val (.int p1), .val (.int v228), .val (.ref vde), .val (.int v328), sl329] [(.int (own_exp v228 v328))])) _
                exact kt
              obtain ⟨r332, hr332⟩ : ∃ z : Int32, z = (own_exp v228 v328) := ⟨_, rfl⟩
              rw [← hr332] at k331
              obtain ⟨cq333, kq333, q333a, q333b, q333c⟩ := isOf hZ eq330 E_vde
              obtain ⟨_, _, ⟨T333, L333, kc333, nc333⟩, -, X333, ⟨Lc333, hQ333, l333, y333, z333⟩, st333⟩ := X330.virtualBack hx (y := (⟨"com/example/grendel/grendel/cli/Verb", "takes", "(C)Z"⟩ : MethodName)) (z := (⟨"com/example/grendel/grendel/cli/Verb", "takes", "(C)Z"⟩ : MethodName)) hown (mvT hZ (hw _ (List.mem_of_getElem? (i := 13) rfl))) (mvT hZ (hw _ (List.mem_of_getElem? (i := 14) rfl))) (notFace_of_selects (args := #[]) (mvT hZ (hw _ (List.mem_of_getElem? (i := 16) rfl)))) (mvT hZ (hw _ (List.mem_of_getElem? (i := 16) rfl))) (mvT hZ (hw _ (List.mem_of_getElem? (i := 15) rfl))) (by decide) (backOf (W := 0) (rmtk_2 l Z a0 hw [] vde v328 zc od odv fod (118 : Int32) (58 : Int32) h0 n0 E_od F_vde Fv_od Fc_od V_od S_cs hz hy_od_0 hy_od_1) hZ (hw _ (List.mem_of_getElem? (i := 17) rfl)) (hw _ (List.mem_of_getElem? (i := 6) rfl)) (by decide) (by decide)) q333a q333c (g := (mkF m 91 #[.val (.int p0), .val (.int p1), .val (.int v228), .val (.ref vde), .val (.int v328), .val (.int r332)] [(.int v328), (.ref vde)])) rfl (by rw [hml]; rfl) (Steps.refl _) (argsL := [(.int v328)]) (rest := []) (lenOf pd_2 rfl) rfl (by show 2 * 0 + _ ≤ _; exact Nat.le_of_eq rfl) (hb hby at_91) (fun _ _ => ⟨rfl, eq330, (by decide : 0 + 0 ≤ _), (by decide : 0 + 0 ≤ _)⟩)
              dsimp only [Pt.U, Pt.locs, Pt.cells, Pt.slots] at X333 l333 y333 z333 st333 hQ333
              rw [l333, y333, z333] at X333
              replace X333 : Stand p l e room_1 s m #[(.int p0), (.int p1)] below meth c T333 _ 0 0 := X333
              obtain ⟨rfl, Nq333, eq333⟩ := hQ333
              have N333 := Fr.app N330 Nq333
              have k334 : ∀ tg_, Steps p.tables e below (T333.setTop (mkF m 94 #[.val (.int p0), .val (.int p1), .val (.int v228), .val (.ref vde), .val (.int v328), .val (.int r332)] [(.int (own_tk_2 v328 (118 : Int32) (58 : Int32)))])) tg_ → Steps p.tables e below (s₁.setTop (entryFrame m #[(.int p0), (.int p1)] maxLocals)) tg_ := by
                intro tg_ kt
                refine k331 tg_ ?_
                show Steps p.tables e below (T330.setTop (mkF m 86 #[.val (.int p0), .val (.int p1), .val (.int v228), .val (.ref vde), .val (.int v328), sl329] [(.int r332)])) _
                refine XS.istoreS X330.here hx rfl (hb hby at_86) rfl rfl osl329 ?_
                show Steps p.tables e below (T330.setTop (mkF m 88 #[.val (.int p0), .val (.int p1), .val (.int v228), .val (.ref vde), .val (.int v328), .val (.int r332)] [])) _
                refine XS.aloadN X330.here hx rfl (hb hby at_88) rfl rfl ?_
                show Steps p.tables e below (T330.setTop (mkF m 89 #[.val (.int p0), .val (.int p1), .val (.int v228), .val (.ref vde), .val (.int v328), .val (.int r332)] [(.ref vde)])) _
                refine XS.iload X330.here hx rfl (hb hby at_89) rfl ?_
                show Steps p.tables e below (T330.setTop (mkF m 91 #[.val (.int p0), .val (.int p1), .val (.int v228), .val (.ref vde), .val (.int v328), .val (.int r332)] [(.int v328), (.ref vde)])) _
                refine st333.trans ?_
                show Steps p.tables e below (T333.setTop (mkF m 94 #[.val (.int p0), .val (.int p1), .val (.int v228), .val (.ref vde), .val (.int v328), .val (.int r332)] [(.int (own_tk_2 v328 (118 : Int32) (58 : Int32)))])) _
                exact kt
              obtain ⟨r335, hr335⟩ : ∃ z : Int32, z = (own_tk_2 v328 (118 : Int32) (58 : Int32)) := ⟨_, rfl⟩
              rw [← hr335] at k334
              have hc96_336 : r335 = r332 := (by rw [hr335]; rw [hr332]; exact own_lw5 _ _ hc9_320)
              have k337 : ∀ tg_, Steps p.tables e below (T333.setTop (mkF m 104 #[.val (.int p0), .val (.int p1), .val (.int v228), .val (.ref vde), .val (.int v328), .val (.int r332)] [(.int (1 : Int32))])) tg_ → Steps p.tables e below (s₁.setTop (entryFrame m #[(.int p0), (.int p1)] maxLocals)) tg_ := by
                intro tg_ kt
                refine k334 tg_ ?_
                show Steps p.tables e below (T333.setTop (mkF m 94 #[.val (.int p0), .val (.int p1), .val (.int v228), .val (.ref vde), .val (.int v328), .val (.int r332)] [(.int r335)])) _
                refine XS.iload X333.here hx rfl (hb hby at_94) rfl ?_
                show Steps p.tables e below (T333.setTop (mkF m 96 #[.val (.int p0), .val (.int p1), .val (.int v228), .val (.ref vde), .val (.int v328), .val (.int r332)] [(.int r332), (.int r335)])) _
                refine XS.icmpNo X333.here hx rfl (hb hby at_96) rfl (teq hc96_336).2 ?_
                show Steps p.tables e below (T333.setTop (mkF m 99 #[.val (.int p0), .val (.int p1), .val (.int v228), .val (.ref vde), .val (.int v328), .val (.int r332)] [])) _
                refine XS.iconst X333.here hx rfl (hb hby at_99) ?_
                show Steps p.tables e below (T333.setTop (mkF m 100 #[.val (.int p0), .val (.int p1), .val (.int v228), .val (.ref vde), .val (.int v328), .val (.int r332)] [(.int (1 : Int32))])) _
                refine XS.goto X333.here hx rfl (pc0 := 100) (pc' := 104) rfl (hb hby at_100) (by decide) (by decide) ?_
                show Steps p.tables e below (T333.setTop (mkF m 104 #[.val (.int p0), .val (.int p1), .val (.int v228), .val (.ref vde), .val (.int v328), .val (.int r332)] [(.int (1 : Int32))])) _
                exact kt
              obtain ⟨fs, hr, hrun, hended, hW, hsame⟩ := X333.leave (v := some (.int (1 : Int32))) (fun h => by rw [Bd.returns] at h; cases h)
              refine ⟨_, _, k337 _ (retN X333 hx (t := .boolean) Bd.returns (by simp) (hb hby at_104) hr), hrun, hended, _, _, rfl, ?_, ⟨_, rfl⟩, hW, hsame.mono (by decide) (by decide)⟩
              show Q0 Z p0 p1 zc ol olv fol oc ocv foc od odv fod oe oev foe vls vcr vge vse vst vde vda vsy vhe vqu h0 n0 _ T333.heap _
              rw [eq333]
              exact ⟨rfl, N333⟩
            · by_cases hc9_338 : v228 = (6 : Int32)
              · obtain ⟨_, _, ⟨T339, L339, kc339, nc339⟩, -, X339, ⟨Lc339, hQ339, l339, y339, z339⟩, st339⟩ := Jvm.LawKit.callS X0 hx (y := (⟨"com/example/grendel/grendel/cli/VerbTakesPinLaw", "pick", "(I)Lcom/example/grendel/grendel/cli/Verb;"⟩ : MethodName)) hown (mvT hZ (hw _ (List.mem_of_getElem? (i := 1) rfl))) (mvT hZ (hw _ (List.mem_of_getElem? (i := 2) rfl))) (mvT hZ (hw _ (List.mem_of_getElem? (i := 3) rfl))) (mvT hZ (hw _ (List.mem_of_getElem? (i := 4) rfl))) (by decide) (backOf (W := 0) (rmpick6 l Z a0 hw [] v228 vda h0 n0 S_vda hc9_338) hZ (hw _ (List.mem_of_getElem? (i := 4) rfl)) (hw _ (List.mem_of_getElem? (i := 3) rfl)) (by decide) (by decide)) (g := (mkF m 9 #[.val (.int p0), .val (.int p1), .val (.int v228), .unset, .unset, .unset] [(.int v228)])) rfl (by rw [hml]; rfl) (argsL := [(.int v228)]) (rest := []) (lenOf pd_0 rfl) rfl (by show 2 * 0 + _ ≤ _; exact Nat.le_of_eq rfl) (hb hby at_9) (fun _ _ => ⟨rfl, e0, (by decide : 0 + 0 ≤ _), (by decide : 0 + 0 ≤ _)⟩)
                dsimp only [Pt.U, Pt.locs, Pt.cells, Pt.slots] at X339 l339 y339 z339 st339 hQ339
                rw [l339, y339, z339] at X339
                replace X339 : Stand p l e room_1 s m #[(.int p0), (.int p1)] below meth c T339 _ 0 0 := X339
                obtain ⟨rfl, Nq339, eq339⟩ := hQ339
                have N339 := Fr.app N0 Nq339
                have k340 : ∀ tg_, Steps p.tables e below (T339.setTop (mkF m 17 #[.val (.int p0), .val (.int p1), .val (.int v228), .val (.ref vda), .unset, .unset] [(.int (p1 &&& (65536 : Int32)))])) tg_ → Steps p.tables e below (s₁.setTop (entryFrame m #[(.int p0), (.int p1)] maxLocals)) tg_ := by
                  intro tg_ kt
                  refine k229 tg_ ?_
                  refine st339 _ ?_
                  show Steps p.tables e below (T339.setTop (mkF m 12 #[.val (.int p0), .val (.int p1), .val (.int v228), .unset, .unset, .unset] [(.ref vda)])) _
                  refine XS.astoreN X339.here hx rfl (hb hby at_12) rfl rfl (l' := #[.val (.int p0), .val (.int p1), .val (.int v228), .val (.ref vda), .unset, .unset]) rfl ?_
                  show Steps p.tables e below (T339.setTop (mkF m 13 #[.val (.int p0), .val (.int p1), .val (.int v228), .val (.ref vda), .unset, .unset] [])) _
                  refine XS.iloadN X339.here hx rfl (hb hby at_13) rfl ?_
                  show Steps p.tables e below (T339.setTop (mkF m 14 #[.val (.int p0), .val (.int p1), .val (.int v228), .val (.ref vda), .unset, .unset] [(.int p1)])) _
                  refine X339.ldcInt hx hown (mvT hZ (hw _ (List.mem_of_getElem? (i := 8) rfl))) (g := (mkF m 14 #[.val (.int p0), .val (.int p1), .val (.int v228), .val (.ref vda), .unset, .unset] [(.int p1)])) rfl (hb hby at_14) _ ?_
                  show Steps p.tables e below (T339.setTop (mkF m 16 #[.val (.int p0), .val (.int p1), .val (.int v228), .val (.ref vda), .unset, .unset] [(.int (65536 : Int32)), (.int p1)])) _
                  refine XS.iand X339.here hx rfl (hb hby at_16) rfl ?_
                  show Steps p.tables e below (T339.setTop (mkF m 17 #[.val (.int p0), .val (.int p1), .val (.int v228), .val (.ref vda), .unset, .unset] [(.int (p1 &&& (65536 : Int32)))])) _
                  exact kt
                have k345 : ∀ tg_, Steps p.tables e below (T339.setTop (mkF m 80 #[.val (.int p0), .val (.int p1), .val (.int v228), .val (.ref vda), .val (.int (if (p1 &&& (65536 : Int32)) = (0 : Int32) then ((p1 &&& (65535 : Int32)).toUInt32.toUInt16.toUInt32.toInt32) else (if (((p1.toUInt32 >>> ((17 : Int32) &&& 31).toUInt32).toInt32) &&& (3 : Int32)) = (0 : Int32) then (115 : Int32) else (if (((p1.toUInt32 >>> ((17 : Int32) &&& 31).toUInt32).toInt32) &&& (3 : Int32)) = (1 : Int32) then (101 : Int32) else (if (((p1.toUInt32 >>> ((17 : Int32) &&& 31).toUInt32).toInt32) &&& (3 : Int32)) = (2 : Int32) then (118 : Int32) else (58 : Int32)))))), (if (p1 &&& (65536 : Int32)) = (0 : Int32) then (.unset : Slot) else .val (.int (((p1.toUInt32 >>> ((17 : Int32) &&& 31).toUInt32).toInt32) &&& (3 : Int32))))] [])) tg_ → Steps p.tables e below (s₁.setTop (entryFrame m #[(.int p0), (.int p1)] maxLocals)) tg_ := by
                  intro tg_ kt
                  refine k340 tg_ ?_
                  by_cases hj17_341 : (p1 &&& (65536 : Int32)) = (0 : Int32)
                  · refine XS.ifYes X339.here hx rfl (pc0 := 17) (pc' := 73) rfl (hb hby at_17) rfl ((if0 _ _).trans (teq hj17_341).1) (by decide) (by decide) ?_
                    show Steps p.tables e below (T339.setTop (mkF m 73 #[.val (.int p0), .val (.int p1), .val (.int v228), .val (.ref vda), .unset, .unset] [])) _
                    refine XS.iloadN X339.here hx rfl (hb hby at_73) rfl ?_
                    show Steps p.tables e below (T339.setTop (mkF m 74 #[.val (.int p0), .val (.int p1), .val (.int v228), .val (.ref vda), .unset, .unset] [(.int p1)])) _
                    refine X339.ldcInt hx hown (mvT hZ (hw _ (List.mem_of_getElem? (i := 9) rfl))) (g := (mkF m 74 #[.val (.int p0), .val (.int p1), .val (.int v228), .val (.ref vda), .unset, .unset] [(.int p1)])) rfl (hb hby at_74) _ ?_
                    show Steps p.tables e below (T339.setTop (mkF m 76 #[.val (.int p0), .val (.int p1), .val (.int v228), .val (.ref vda), .unset, .unset] [(.int (65535 : Int32)), (.int p1)])) _
                    refine XS.iand X339.here hx rfl (hb hby at_76) rfl ?_
                    show Steps p.tables e below (T339.setTop (mkF m 77 #[.val (.int p0), .val (.int p1), .val (.int v228), .val (.ref vda), .unset, .unset] [(.int (p1 &&& (65535 : Int32)))])) _
                    refine XS.i2c X339.here hx rfl (hb hby at_77) rfl ?_
                    show Steps p.tables e below (T339.setTop (mkF m 78 #[.val (.int p0), .val (.int p1), .val (.int v228), .val (.ref vda), .unset, .unset] [(.int ((p1 &&& (65535 : Int32)).toUInt32.toUInt16.toUInt32.toInt32))])) _
                    refine XS.istore X339.here hx rfl (hb hby at_78) rfl (l' := #[.val (.int p0), .val (.int p1), .val (.int v228), .val (.ref vda), .val (.int ((p1 &&& (65535 : Int32)).toUInt32.toUInt16.toUInt32.toInt32)), .unset]) rfl ?_
                    show Steps p.tables e below (T339.setTop (mkF m 80 #[.val (.int p0), .val (.int p1), .val (.int v228), .val (.ref vda), .val (.int ((p1 &&& (65535 : Int32)).toUInt32.toUInt16.toUInt32.toInt32)), .unset] [])) _
                    simpa only [if_pos hj17_341] using kt
                  · refine XS.ifNo X339.here hx rfl (hb hby at_17) rfl ((if0 _ _).trans (feq hj17_341).1) ?_
                    show Steps p.tables e below (T339.setTop (mkF m 20 #[.val (.int p0), .val (.int p1), .val (.int v228), .val (.ref vda), .unset, .unset] [])) _
                    refine XS.iloadN X339.here hx rfl (hb hby at_20) rfl ?_
                    show Steps p.tables e below (T339.setTop (mkF m 21 #[.val (.int p0), .val (.int p1), .val (.int v228), .val (.ref vda), .unset, .unset] [(.int p1)])) _
                    refine XS.bipush X339.here hx rfl (hb hby at_21) ?_
                    show Steps p.tables e below (T339.setTop (mkF m 23 #[.val (.int p0), .val (.int p1), .val (.int v228), .val (.ref vda), .unset, .unset] [(.int (17 : Int32)), (.int p1)])) _
                    refine XS.iushr X339.here hx rfl (hb hby at_23) rfl ?_
                    show Steps p.tables e below (T339.setTop (mkF m 24 #[.val (.int p0), .val (.int p1), .val (.int v228), .val (.ref vda), .unset, .unset] [(.int ((p1.toUInt32 >>> ((17 : Int32) &&& 31).toUInt32).toInt32))])) _
                    refine XS.iconst X339.here hx rfl (hb hby at_24) ?_
                    show Steps p.tables e below (T339.setTop (mkF m 25 #[.val (.int p0), .val (.int p1), .val (.int v228), .val (.ref vda), .unset, .unset] [(.int (3 : Int32)), (.int ((p1.toUInt32 >>> ((17 : Int32) &&& 31).toUInt32).toInt32))])) _
                    refine XS.iand X339.here hx rfl (hb hby at_25) rfl ?_
                    show Steps p.tables e below (T339.setTop (mkF m 26 #[.val (.int p0), .val (.int p1), .val (.int v228), .val (.ref vda), .unset, .unset] [(.int (((p1.toUInt32 >>> ((17 : Int32) &&& 31).toUInt32).toInt32) &&& (3 : Int32)))])) _
                    refine XS.istore X339.here hx rfl (hb hby at_26) rfl (l' := #[.val (.int p0), .val (.int p1), .val (.int v228), .val (.ref vda), .unset, .val (.int (((p1.toUInt32 >>> ((17 : Int32) &&& 31).toUInt32).toInt32) &&& (3 : Int32)))]) rfl ?_
                    show Steps p.tables e below (T339.setTop (mkF m 28 #[.val (.int p0), .val (.int p1), .val (.int v228), .val (.ref vda), .unset, .val (.int (((p1.toUInt32 >>> ((17 : Int32) &&& 31).toUInt32).toInt32) &&& (3 : Int32)))] [])) _
                    refine XS.iload X339.here hx rfl (hb hby at_28) rfl ?_
                    show Steps p.tables e below (T339.setTop (mkF m 30 #[.val (.int p0), .val (.int p1), .val (.int v228), .val (.ref vda), .unset, .val (.int (((p1.toUInt32 >>> ((17 : Int32) &&& 31).toUInt32).toInt32) &&& (3 : Int32)))] [(.int (((p1.toUInt32 >>> ((17 : Int32) &&& 31).toUInt32).toInt32) &&& (3 : Int32)))])) _
                    by_cases hj30_342 : (((p1.toUInt32 >>> ((17 : Int32) &&& 31).toUInt32).toInt32) &&& (3 : Int32)) = (0 : Int32)
                    · refine XS.ifNo X339.here hx rfl (hb hby at_30) rfl ((if0 _ _).trans (teq hj30_342).2) ?_
                      show Steps p.tables e below (T339.setTop (mkF m 33 #[.val (.int p0), .val (.int p1), .val (.int v228), .val (.ref vda), .unset, .val (.int (((p1.toUInt32 >>> ((17 : Int32) &&& 31).toUInt32).toInt32) &&& (3 : Int32)))] [])) _
                      refine XS.bipush X339.here hx rfl (hb hby at_33) ?_
                      show Steps p.tables e below (T339.setTop (mkF m 35 #[.val (.int p0), .val (.int p1), .val (.int v228), .val (.ref vda), .unset, .val (.int (((p1.toUInt32 >>> ((17 : Int32) &&& 31).toUInt32).toInt32) &&& (3 : Int32)))] [(.int (115 : Int32))])) _
                      refine XS.istore X339.here hx rfl (hb hby at_35) rfl (l' := #[.val (.int p0), .val (.int p1), .val (.int v228), .val (.ref vda), .val (.int (115 : Int32)), .val (.int (((p1.toUInt32 >>> ((17 : Int32) &&& 31).toUInt32).toInt32) &&& (3 : Int32)))]) rfl ?_
                      show Steps p.tables e below (T339.setTop (mkF m 37 #[.val (.int p0), .val (.int p1), .val (.int v228), .val (.ref vda), .val (.int (115 : Int32)), .val (.int (((p1.toUInt32 >>> ((17 : Int32) &&& 31).toUInt32).toInt32) &&& (3 : Int32)))] [])) _
                      refine XS.goto X339.here hx rfl (pc0 := 37) (pc' := 70) rfl (hb hby at_37) (by decide) (by decide) ?_
                      show Steps p.tables e below (T339.setTop (mkF m 70 #[.val (.int p0), .val (.int p1), .val (.int v228), .val (.ref vda), .val (.int (115 : Int32)), .val (.int (((p1.toUInt32 >>> ((17 : Int32) &&& 31).toUInt32).toInt32) &&& (3 : Int32)))] [])) _
                      refine XS.goto X339.here hx rfl (pc0 := 70) (pc' := 80) rfl (hb hby at_70) (by decide) (by decide) ?_
                      show Steps p.tables e below (T339.setTop (mkF m 80 #[.val (.int p0), .val (.int p1), .val (.int v228), .val (.ref vda), .val (.int (115 : Int32)), .val (.int (((p1.toUInt32 >>> ((17 : Int32) &&& 31).toUInt32).toInt32) &&& (3 : Int32)))] [])) _
                      simpa only [if_neg hj17_341, if_pos hj30_342] using kt
                    · refine XS.ifYes X339.here hx rfl (pc0 := 30) (pc' := 40) rfl (hb hby at_30) rfl ((if0 _ _).trans (feq hj30_342).2) (by decide) (by decide) ?_
                      show Steps p.tables e below (T339.setTop (mkF m 40 #[.val (.int p0), .val (.int p1), .val (.int v228), .val (.ref vda), .unset, .val (.int (((p1.toUInt32 >>> ((17 : Int32) &&& 31).toUInt32).toInt32) &&& (3 : Int32)))] [])) _
                      refine XS.iload X339.here hx rfl (hb hby at_40) rfl ?_
                      show Steps p.tables e below (T339.setTop (mkF m 42 #[.val (.int p0), .val (.int p1), .val (.int v228), .val (.ref vda), .unset, .val (.int (((p1.toUInt32 >>> ((17 : Int32) &&& 31).toUInt32).toInt32) &&& (3 : Int32)))] [(.int (((p1.toUInt32 >>> ((17 : Int32) &&& 31).toUInt32).toInt32) &&& (3 : Int32)))])) _
                      refine XS.iconst X339.here hx rfl (hb hby at_42) ?_
                      show Steps p.tables e below (T339.setTop (mkF m 43 #[.val (.int p0), .val (.int p1), .val (.int v228), .val (.ref vda), .unset, .val (.int (((p1.toUInt32 >>> ((17 : Int32) &&& 31).toUInt32).toInt32) &&& (3 : Int32)))] [(.int (1 : Int32)), (.int (((p1.toUInt32 >>> ((17 : Int32) &&& 31).toUInt32).toInt32) &&& (3 : Int32)))])) _
                      by_cases hj43_343 : (((p1.toUInt32 >>> ((17 : Int32) &&& 31).toUInt32).toInt32) &&& (3 : Int32)) = (1 : Int32)
                      · refine XS.icmpNo X339.here hx rfl (hb hby at_43) rfl (teq hj43_343).2 ?_
                        show Steps p.tables e below (T339.setTop (mkF m 46 #[.val (.int p0), .val (.int p1), .val (.int v228), .val (.ref vda), .unset, .val (.int (((p1.toUInt32 >>> ((17 : Int32) &&& 31).toUInt32).toInt32) &&& (3 : Int32)))] [])) _
                        refine XS.bipush X339.here hx rfl (hb hby at_46) ?_
                        show Steps p.tables e below (T339.setTop (mkF m 48 #[.val (.int p0), .val (.int p1), .val (.int v228), .val (.ref vda), .unset, .val (.int (((p1.toUInt32 >>> ((17 : Int32) &&& 31).toUInt32).toInt32) &&& (3 : Int32)))] [(.int (101 : Int32))])) _
                        refine XS.istore X339.here hx rfl (hb hby at_48) rfl (l' := #[.val (.int p0), .val (.int p1), .val (.int v228), .val (.ref vda), .val (.int (101 : Int32)), .val (.int (((p1.toUInt32 >>> ((17 : Int32) &&& 31).toUInt32).toInt32) &&& (3 : Int32)))]) rfl ?_
                        show Steps p.tables e below (T339.setTop (mkF m 50 #[.val (.int p0), .val (.int p1), .val (.int v228), .val (.ref vda), .val (.int (101 : Int32)), .val (.int (((p1.toUInt32 >>> ((17 : Int32) &&& 31).toUInt32).toInt32) &&& (3 : Int32)))] [])) _
                        refine XS.goto X339.here hx rfl (pc0 := 50) (pc' := 70) rfl (hb hby at_50) (by decide) (by decide) ?_
                        show Steps p.tables e below (T339.setTop (mkF m 70 #[.val (.int p0), .val (.int p1), .val (.int v228), .val (.ref vda), .val (.int (101 : Int32)), .val (.int (((p1.toUInt32 >>> ((17 : Int32) &&& 31).toUInt32).toInt32) &&& (3 : Int32)))] [])) _
                        refine XS.goto X339.here hx rfl (pc0 := 70) (pc' := 80) rfl (hb hby at_70) (by decide) (by decide) ?_
                        show Steps p.tables e below (T339.setTop (mkF m 80 #[.val (.int p0), .val (.int p1), .val (.int v228), .val (.ref vda), .val (.int (101 : Int32)), .val (.int (((p1.toUInt32 >>> ((17 : Int32) &&& 31).toUInt32).toInt32) &&& (3 : Int32)))] [])) _
                        simpa only [if_neg hj17_341, if_neg hj30_342, if_pos hj43_343] using kt
                      · refine XS.icmpYes X339.here hx rfl (pc0 := 43) (pc' := 53) rfl (hb hby at_43) rfl (feq hj43_343).2 (by decide) (by decide) ?_
                        show Steps p.tables e below (T339.setTop (mkF m 53 #[.val (.int p0), .val (.int p1), .val (.int v228), .val (.ref vda), .unset, .val (.int (((p1.toUInt32 >>> ((17 : Int32) &&& 31).toUInt32).toInt32) &&& (3 : Int32)))] [])) _
                        refine XS.iload X339.here hx rfl (hb hby at_53) rfl ?_
                        show Steps p.tables e below (T339.setTop (mkF m 55 #[.val (.int p0), .val (.int p1), .val (.int v228), .val (.ref vda), .unset, .val (.int (((p1.toUInt32 >>> ((17 : Int32) &&& 31).toUInt32).toInt32) &&& (3 : Int32)))] [(.int (((p1.toUInt32 >>> ((17 : Int32) &&& 31).toUInt32).toInt32) &&& (3 : Int32)))])) _
                        refine XS.iconst X339.here hx rfl (hb hby at_55) ?_
                        show Steps p.tables e below (T339.setTop (mkF m 56 #[.val (.int p0), .val (.int p1), .val (.int v228), .val (.ref vda), .unset, .val (.int (((p1.toUInt32 >>> ((17 : Int32) &&& 31).toUInt32).toInt32) &&& (3 : Int32)))] [(.int (2 : Int32)), (.int (((p1.toUInt32 >>> ((17 : Int32) &&& 31).toUInt32).toInt32) &&& (3 : Int32)))])) _
                        by_cases hj56_344 : (((p1.toUInt32 >>> ((17 : Int32) &&& 31).toUInt32).toInt32) &&& (3 : Int32)) = (2 : Int32)
                        · refine XS.icmpNo X339.here hx rfl (hb hby at_56) rfl (teq hj56_344).2 ?_
                          show Steps p.tables e below (T339.setTop (mkF m 59 #[.val (.int p0), .val (.int p1), .val (.int v228), .val (.ref vda), .unset, .val (.int (((p1.toUInt32 >>> ((17 : Int32) &&& 31).toUInt32).toInt32) &&& (3 : Int32)))] [])) _
                          refine XS.bipush X339.here hx rfl (hb hby at_59) ?_
                          show Steps p.tables e below (T339.setTop (mkF m 61 #[.val (.int p0), .val (.int p1), .val (.int v228), .val (.ref vda), .unset, .val (.int (((p1.toUInt32 >>> ((17 : Int32) &&& 31).toUInt32).toInt32) &&& (3 : Int32)))] [(.int (118 : Int32))])) _
                          refine XS.istore X339.here hx rfl (hb hby at_61) rfl (l' := #[.val (.int p0), .val (.int p1), .val (.int v228), .val (.ref vda), .val (.int (118 : Int32)), .val (.int (((p1.toUInt32 >>> ((17 : Int32) &&& 31).toUInt32).toInt32) &&& (3 : Int32)))]) rfl ?_
                          show Steps p.tables e below (T339.setTop (mkF m 63 #[.val (.int p0), .val (.int p1), .val (.int v228), .val (.ref vda), .val (.int (118 : Int32)), .val (.int (((p1.toUInt32 >>> ((17 : Int32) &&& 31).toUInt32).toInt32) &&& (3 : Int32)))] [])) _
                          refine XS.goto X339.here hx rfl (pc0 := 63) (pc' := 70) rfl (hb hby at_63) (by decide) (by decide) ?_
                          show Steps p.tables e below (T339.setTop (mkF m 70 #[.val (.int p0), .val (.int p1), .val (.int v228), .val (.ref vda), .val (.int (118 : Int32)), .val (.int (((p1.toUInt32 >>> ((17 : Int32) &&& 31).toUInt32).toInt32) &&& (3 : Int32)))] [])) _
                          refine XS.goto X339.here hx rfl (pc0 := 70) (pc' := 80) rfl (hb hby at_70) (by decide) (by decide) ?_
                          show Steps p.tables e below (T339.setTop (mkF m 80 #[.val (.int p0), .val (.int p1), .val (.int v228), .val (.ref vda), .val (.int (118 : Int32)), .val (.int (((p1.toUInt32 >>> ((17 : Int32) &&& 31).toUInt32).toInt32) &&& (3 : Int32)))] [])) _
                          simpa only [if_neg hj17_341, if_neg hj30_342, if_neg hj43_343, if_pos hj56_344] using kt
                        · refine XS.icmpYes X339.here hx rfl (pc0 := 56) (pc' := 66) rfl (hb hby at_56) rfl (feq hj56_344).2 (by decide) (by decide) ?_
                          show Steps p.tables e below (T339.setTop (mkF m 66 #[.val (.int p0), .val (.int p1), .val (.int v228), .val (.ref vda), .unset, .val (.int (((p1.toUInt32 >>> ((17 : Int32) &&& 31).toUInt32).toInt32) &&& (3 : Int32)))] [])) _
                          refine XS.bipush X339.here hx rfl (hb hby at_66) ?_
                          show Steps p.tables e below (T339.setTop (mkF m 68 #[.val (.int p0), .val (.int p1), .val (.int v228), .val (.ref vda), .unset, .val (.int (((p1.toUInt32 >>> ((17 : Int32) &&& 31).toUInt32).toInt32) &&& (3 : Int32)))] [(.int (58 : Int32))])) _
                          refine XS.istore X339.here hx rfl (hb hby at_68) rfl (l' := #[.val (.int p0), .val (.int p1), .val (.int v228), .val (.ref vda), .val (.int (58 : Int32)), .val (.int (((p1.toUInt32 >>> ((17 : Int32) &&& 31).toUInt32).toInt32) &&& (3 : Int32)))]) rfl ?_
                          show Steps p.tables e below (T339.setTop (mkF m 70 #[.val (.int p0), .val (.int p1), .val (.int v228), .val (.ref vda), .val (.int (58 : Int32)), .val (.int (((p1.toUInt32 >>> ((17 : Int32) &&& 31).toUInt32).toInt32) &&& (3 : Int32)))] [])) _
                          refine XS.goto X339.here hx rfl (pc0 := 70) (pc' := 80) rfl (hb hby at_70) (by decide) (by decide) ?_
                          show Steps p.tables e below (T339.setTop (mkF m 80 #[.val (.int p0), .val (.int p1), .val (.int v228), .val (.ref vda), .val (.int (58 : Int32)), .val (.int (((p1.toUInt32 >>> ((17 : Int32) &&& 31).toUInt32).toInt32) &&& (3 : Int32)))] [])) _
                          simpa only [if_neg hj17_341, if_neg hj30_342, if_neg hj43_343, if_neg hj56_344] using kt
                obtain ⟨v346, hv346⟩ : ∃ z : Int32, z = (if (p1 &&& (65536 : Int32)) = (0 : Int32) then ((p1 &&& (65535 : Int32)).toUInt32.toUInt16.toUInt32.toInt32) else (if (((p1.toUInt32 >>> ((17 : Int32) &&& 31).toUInt32).toInt32) &&& (3 : Int32)) = (0 : Int32) then (115 : Int32) else (if (((p1.toUInt32 >>> ((17 : Int32) &&& 31).toUInt32).toInt32) &&& (3 : Int32)) = (1 : Int32) then (101 : Int32) else (if (((p1.toUInt32 >>> ((17 : Int32) &&& 31).toUInt32).toInt32) &&& (3 : Int32)) = (2 : Int32) then (118 : Int32) else (58 : Int32))))) := ⟨_, rfl⟩
                rw [← hv346] at k345
                obtain ⟨sl347, hsl347⟩ : ∃ z : Slot, z = (if (p1 &&& (65536 : Int32)) = (0 : Int32) then (.unset : Slot) else .val (.int (((p1.toUInt32 >>> ((17 : Int32) &&& 31).toUInt32).toInt32) &&& (3 : Int32)))) := ⟨_, rfl⟩
                have osl347 : One sl347 := by rw [hsl347]; repeat' split; all_goals first | exact One.u | exact One.val rfl
                rw [← hsl347] at k345
                obtain ⟨_, _, ⟨T348, L348, kc348, nc348⟩, -, X348, ⟨Lc348, hQ348, l348, y348, z348⟩, st348⟩ := Jvm.LawKit.callS X339 hx (y := (⟨"com/example/grendel/grendel/cli/VerbTakesPinLaw", "expect", "(IC)Z"⟩ : MethodName)) hown (mvT hZ (hw _ (List.mem_of_getElem? (i := 10) rfl))) (mvT hZ (hw _ (List.mem_of_getElem? (i := 11) rfl))) (mvT hZ (hw _ (List.mem_of_getElem? (i := 3) rfl))) (mvT hZ (hw _ (List.mem_of_getElem? (i := 12) rfl))) (by decide) (backOf (W := 0) (rm2 l Z a0 hw [] v228 v346 h0 n0 ) hZ (hw _ (List.mem_of_getElem? (i := 12) rfl)) (hw _ (List.mem_of_getElem? (i := 3) rfl)) (by decide) (by decide)) (g := (mkF m 83 #[.val (.int p0), .val (.int p1), .val (.int v228), .val (.ref vda), .val (.int v346), sl347] [(.int v346), (.int v228)])) rfl (by rw [hml]; rfl) (argsL := [(.int v228), (.int v346)]) (rest := []) (lenOf pd_1 rfl) rfl (by show 2 * 0 + _ ≤ _; exact Nat.le_of_eq rfl) (hb hby at_83) (fun _ _ => ⟨rfl, eq339, (by decide : 0 + 0 ≤ _), (by decide : 0 + 0 ≤ _)⟩)
                dsimp only [Pt.U, Pt.locs, Pt.cells, Pt.slots] at X348 l348 y348 z348 st348 hQ348
                rw [l348, y348, z348] at X348
                replace X348 : Stand p l e room_1 s m #[(.int p0), (.int p1)] below meth c T348 _ 0 0 := X348
                obtain ⟨rfl, Nq348, eq348⟩ := hQ348
                have N348 := Fr.app N339 Nq348
                have k349 : ∀ tg_, Steps p.tables e below (T348.setTop (mkF m 86 #[.val (.int p0), .val (.int p1), .val (.int v228), .val (.ref vda), .val (.int v346), sl347] [(.int (own_exp v228 v346))])) tg_ → Steps p.tables e below (s₁.setTop (entryFrame m #[(.int p0), (.int p1)] maxLocals)) tg_ := by
                  intro tg_ kt
                  refine k345 tg_ ?_
                  refine XS.iloadN X339.here hx rfl (hb hby at_80) rfl ?_
                  show Steps p.tables e below (T339.setTop (mkF m 81 #[.val (.int p0), .val (.int p1), .val (.int v228), .val (.ref vda), .val (.int v346), sl347] [(.int v228)])) _
                  refine XS.iload X339.here hx rfl (hb hby at_81) rfl ?_
                  show Steps p.tables e below (T339.setTop (mkF m 83 #[.val (.int p0), .val (.int p1), .val (.int v228), .val (.ref vda), .val (.int v346), sl347] [(.int v346), (.int v228)])) _
                  refine st348 _ ?_
                  show Steps p.tables e below (T348.setTop (mkF m 86 #[.val (.int p0), .val (.int p1), .val (.int v228), .val (.ref vda), .val (.int v346), sl347] [(.int (own_exp v228 v346))])) _
                  exact kt
                obtain ⟨r350, hr350⟩ : ∃ z : Int32, z = (own_exp v228 v346) := ⟨_, rfl⟩
                rw [← hr350] at k349
                obtain ⟨cq351, kq351, q351a, q351b, q351c⟩ := isOf hZ eq348 E_vda
                obtain ⟨_, _, ⟨T351, L351, kc351, nc351⟩, -, X351, ⟨Lc351, hQ351, l351, y351, z351⟩, st351⟩ := X348.virtualBack hx (y := (⟨"com/example/grendel/grendel/cli/Verb", "takes", "(C)Z"⟩ : MethodName)) (z := (⟨"com/example/grendel/grendel/cli/Verb", "takes", "(C)Z"⟩ : MethodName)) hown (mvT hZ (hw _ (List.mem_of_getElem? (i := 13) rfl))) (mvT hZ (hw _ (List.mem_of_getElem? (i := 14) rfl))) (notFace_of_selects (args := #[]) (mvT hZ (hw _ (List.mem_of_getElem? (i := 16) rfl)))) (mvT hZ (hw _ (List.mem_of_getElem? (i := 16) rfl))) (mvT hZ (hw _ (List.mem_of_getElem? (i := 15) rfl))) (by decide) (backOf (W := 0) (rmtk_0 l Z a0 hw [] vda v346 zc oe oev foe h0 n0 E_oe F_vda Fv_oe Fc_oe V_oe S_cs hz) hZ (hw _ (List.mem_of_getElem? (i := 17) rfl)) (hw _ (List.mem_of_getElem? (i := 6) rfl)) (by decide) (by decide)) q351a q351c (g := (mkF m 91 #[.val (.int p0), .val (.int p1), .val (.int v228), .val (.ref vda), .val (.int v346), .val (.int r350)] [(.int v346), (.ref vda)])) rfl (by rw [hml]; rfl) (Steps.refl _) (argsL := [(.int v346)]) (rest := []) (lenOf pd_2 rfl) rfl (by show 2 * 0 + _ ≤ _; exact Nat.le_of_eq rfl) (hb hby at_91) (fun _ _ => ⟨rfl, eq348, (by decide : 0 + 0 ≤ _), (by decide : 0 + 0 ≤ _)⟩)
                dsimp only [Pt.U, Pt.locs, Pt.cells, Pt.slots] at X351 l351 y351 z351 st351 hQ351
                rw [l351, y351, z351] at X351
                replace X351 : Stand p l e room_1 s m #[(.int p0), (.int p1)] below meth c T351 _ 0 0 := X351
                obtain ⟨rfl, Nq351, eq351⟩ := hQ351
                have N351 := Fr.app N348 Nq351
                have k352 : ∀ tg_, Steps p.tables e below (T351.setTop (mkF m 94 #[.val (.int p0), .val (.int p1), .val (.int v228), .val (.ref vda), .val (.int v346), .val (.int r350)] [(.int (own_tk_0 v346))])) tg_ → Steps p.tables e below (s₁.setTop (entryFrame m #[(.int p0), (.int p1)] maxLocals)) tg_ := by
                  intro tg_ kt
                  refine k349 tg_ ?_
                  show Steps p.tables e below (T348.setTop (mkF m 86 #[.val (.int p0), .val (.int p1), .val (.int v228), .val (.ref vda), .val (.int v346), sl347] [(.int r350)])) _
                  refine XS.istoreS X348.here hx rfl (hb hby at_86) rfl rfl osl347 ?_
                  show Steps p.tables e below (T348.setTop (mkF m 88 #[.val (.int p0), .val (.int p1), .val (.int v228), .val (.ref vda), .val (.int v346), .val (.int r350)] [])) _
                  refine XS.aloadN X348.here hx rfl (hb hby at_88) rfl rfl ?_
                  show Steps p.tables e below (T348.setTop (mkF m 89 #[.val (.int p0), .val (.int p1), .val (.int v228), .val (.ref vda), .val (.int v346), .val (.int r350)] [(.ref vda)])) _
                  refine XS.iload X348.here hx rfl (hb hby at_89) rfl ?_
                  show Steps p.tables e below (T348.setTop (mkF m 91 #[.val (.int p0), .val (.int p1), .val (.int v228), .val (.ref vda), .val (.int v346), .val (.int r350)] [(.int v346), (.ref vda)])) _
                  refine st351.trans ?_
                  show Steps p.tables e below (T351.setTop (mkF m 94 #[.val (.int p0), .val (.int p1), .val (.int v228), .val (.ref vda), .val (.int v346), .val (.int r350)] [(.int (own_tk_0 v346))])) _
                  exact kt
                obtain ⟨r353, hr353⟩ : ∃ z : Int32, z = (own_tk_0 v346) := ⟨_, rfl⟩
                rw [← hr353] at k352
                have hc96_354 : r353 = r350 := (by rw [hr353]; rw [hr350]; exact own_lw6 _ _ hc9_338)
                have k355 : ∀ tg_, Steps p.tables e below (T351.setTop (mkF m 104 #[.val (.int p0), .val (.int p1), .val (.int v228), .val (.ref vda), .val (.int v346), .val (.int r350)] [(.int (1 : Int32))])) tg_ → Steps p.tables e below (s₁.setTop (entryFrame m #[(.int p0), (.int p1)] maxLocals)) tg_ := by
                  intro tg_ kt
                  refine k352 tg_ ?_
                  show Steps p.tables e below (T351.setTop (mkF m 94 #[.val (.int p0), .val (.int p1), .val (.int v228), .val (.ref vda), .val (.int v346), .val (.int r350)] [(.int r353)])) _
                  refine XS.iload X351.here hx rfl (hb hby at_94) rfl ?_
                  show Steps p.tables e below (T351.setTop (mkF m 96 #[.val (.int p0), .val (.int p1), .val (.int v228), .val (.ref vda), .val (.int v346), .val (.int r350)] [(.int r350), (.int r353)])) _
                  refine XS.icmpNo X351.here hx rfl (hb hby at_96) rfl (teq hc96_354).2 ?_
                  show Steps p.tables e below (T351.setTop (mkF m 99 #[.val (.int p0), .val (.int p1), .val (.int v228), .val (.ref vda), .val (.int v346), .val (.int r350)] [])) _
                  refine XS.iconst X351.here hx rfl (hb hby at_99) ?_
                  show Steps p.tables e below (T351.setTop (mkF m 100 #[.val (.int p0), .val (.int p1), .val (.int v228), .val (.ref vda), .val (.int v346), .val (.int r350)] [(.int (1 : Int32))])) _
                  refine XS.goto X351.here hx rfl (pc0 := 100) (pc' := 104) rfl (hb hby at_100) (by decide) (by decide) ?_
                  show Steps p.tables e below (T351.setTop (mkF m 104 #[.val (.int p0), .val (.int p1), .val (.int v228), .val (.ref vda), .val (.int v346), .val (.int r350)] [(.int (1 : Int32))])) _
                  exact kt
                obtain ⟨fs, hr, hrun, hended, hW, hsame⟩ := X351.leave (v := some (.int (1 : Int32))) (fun h => by rw [Bd.returns] at h; cases h)
                refine ⟨_, _, k355 _ (retN X351 hx (t := .boolean) Bd.returns (by simp) (hb hby at_104) hr), hrun, hended, _, _, rfl, ?_, ⟨_, rfl⟩, hW, hsame.mono (by decide) (by decide)⟩
                show Q0 Z p0 p1 zc ol olv fol oc ocv foc od odv fod oe oev foe vls vcr vge vse vst vde vda vsy vhe vqu h0 n0 _ T351.heap _
                rw [eq351]
                exact ⟨rfl, N351⟩
              · by_cases hc9_356 : v228 = (7 : Int32)
                · obtain ⟨_, _, ⟨T357, L357, kc357, nc357⟩, -, X357, ⟨Lc357, hQ357, l357, y357, z357⟩, st357⟩ := Jvm.LawKit.callS X0 hx (y := (⟨"com/example/grendel/grendel/cli/VerbTakesPinLaw", "pick", "(I)Lcom/example/grendel/grendel/cli/Verb;"⟩ : MethodName)) hown (mvT hZ (hw _ (List.mem_of_getElem? (i := 1) rfl))) (mvT hZ (hw _ (List.mem_of_getElem? (i := 2) rfl))) (mvT hZ (hw _ (List.mem_of_getElem? (i := 3) rfl))) (mvT hZ (hw _ (List.mem_of_getElem? (i := 4) rfl))) (by decide) (backOf (W := 0) (rmpick7 l Z a0 hw [] v228 vsy h0 n0 S_vsy hc9_356) hZ (hw _ (List.mem_of_getElem? (i := 4) rfl)) (hw _ (List.mem_of_getElem? (i := 3) rfl)) (by decide) (by decide)) (g := (mkF m 9 #[.val (.int p0), .val (.int p1), .val (.int v228), .unset, .unset, .unset] [(.int v228)])) rfl (by rw [hml]; rfl) (argsL := [(.int v228)]) (rest := []) (lenOf pd_0 rfl) rfl (by show 2 * 0 + _ ≤ _; exact Nat.le_of_eq rfl) (hb hby at_9) (fun _ _ => ⟨rfl, e0, (by decide : 0 + 0 ≤ _), (by decide : 0 + 0 ≤ _)⟩)
                  dsimp only [Pt.U, Pt.locs, Pt.cells, Pt.slots] at X357 l357 y357 z357 st357 hQ357
                  rw [l357, y357, z357] at X357
                  replace X357 : Stand p l e room_1 s m #[(.int p0), (.int p1)] below meth c T357 _ 0 0 := X357
                  obtain ⟨rfl, Nq357, eq357⟩ := hQ357
                  have N357 := Fr.app N0 Nq357
                  have k358 : ∀ tg_, Steps p.tables e below (T357.setTop (mkF m 17 #[.val (.int p0), .val (.int p1), .val (.int v228), .val (.ref vsy), .unset, .unset] [(.int (p1 &&& (65536 : Int32)))])) tg_ → Steps p.tables e below (s₁.setTop (entryFrame m #[(.int p0), (.int p1)] maxLocals)) tg_ := by
                    intro tg_ kt
                    refine k229 tg_ ?_
                    refine st357 _ ?_
                    show Steps p.tables e below (T357.setTop (mkF m 12 #[.val (.int p0), .val (.int p1), .val (.int v228), .unset, .unset, .unset] [(.ref vsy)])) _
                    refine XS.astoreN X357.here hx rfl (hb hby at_12) rfl rfl (l' := #[.val (.int p0), .val (.int p1), .val (.int v228), .val (.ref vsy), .unset, .unset]) rfl ?_
                    show Steps p.tables e below (T357.setTop (mkF m 13 #[.val (.int p0), .val (.int p1), .val (.int v228), .val (.ref vsy), .unset, .unset] [])) _
                    refine XS.iloadN X357.here hx rfl (hb hby at_13) rfl ?_
                    show Steps p.tables e below (T357.setTop (mkF m 14 #[.val (.int p0), .val (.int p1), .val (.int v228), .val (.ref vsy), .unset, .unset] [(.int p1)])) _
                    refine X357.ldcInt hx hown (mvT hZ (hw _ (List.mem_of_getElem? (i := 8) rfl))) (g := (mkF m 14 #[.val (.int p0), .val (.int p1), .val (.int v228), .val (.ref vsy), .unset, .unset] [(.int p1)])) rfl (hb hby at_14) _ ?_
                    show Steps p.tables e below (T357.setTop (mkF m 16 #[.val (.int p0), .val (.int p1), .val (.int v228), .val (.ref vsy), .unset, .unset] [(.int (65536 : Int32)), (.int p1)])) _
                    refine XS.iand X357.here hx rfl (hb hby at_16) rfl ?_
                    show Steps p.tables e below (T357.setTop (mkF m 17 #[.val (.int p0), .val (.int p1), .val (.int v228), .val (.ref vsy), .unset, .unset] [(.int (p1 &&& (65536 : Int32)))])) _
                    exact kt
                  have k363 : ∀ tg_, Steps p.tables e below (T357.setTop (mkF m 80 #[.val (.int p0), .val (.int p1), .val (.int v228), .val (.ref vsy), .val (.int (if (p1 &&& (65536 : Int32)) = (0 : Int32) then ((p1 &&& (65535 : Int32)).toUInt32.toUInt16.toUInt32.toInt32) else (if (((p1.toUInt32 >>> ((17 : Int32) &&& 31).toUInt32).toInt32) &&& (3 : Int32)) = (0 : Int32) then (115 : Int32) else (if (((p1.toUInt32 >>> ((17 : Int32) &&& 31).toUInt32).toInt32) &&& (3 : Int32)) = (1 : Int32) then (101 : Int32) else (if (((p1.toUInt32 >>> ((17 : Int32) &&& 31).toUInt32).toInt32) &&& (3 : Int32)) = (2 : Int32) then (118 : Int32) else (58 : Int32)))))), (if (p1 &&& (65536 : Int32)) = (0 : Int32) then (.unset : Slot) else .val (.int (((p1.toUInt32 >>> ((17 : Int32) &&& 31).toUInt32).toInt32) &&& (3 : Int32))))] [])) tg_ → Steps p.tables e below (s₁.setTop (entryFrame m #[(.int p0), (.int p1)] maxLocals)) tg_ := by
                    intro tg_ kt
                    refine k358 tg_ ?_
                    by_cases hj17_359 : (p1 &&& (65536 : Int32)) = (0 : Int32)
                    · refine XS.ifYes X357.here hx rfl (pc0 := 17) (pc' := 73) rfl (hb hby at_17) rfl ((if0 _ _).trans (teq hj17_359).1) (by decide) (by decide) ?_
                      show Steps p.tables e below (T357.setTop (mkF m 73 #[.val (.int p0), .val (.int p1), .val (.int v228), .val (.ref vsy), .unset, .unset] [])) _
                      refine XS.iloadN X357.here hx rfl (hb hby at_73) rfl ?_
                      show Steps p.tables e below (T357.setTop (mkF m 74 #[.val (.int p0), .val (.int p1), .val (.int v228), .val (.ref vsy), .unset, .unset] [(.int p1)])) _
                      refine X357.ldcInt hx hown (mvT hZ (hw _ (List.mem_of_getElem? (i := 9) rfl))) (g := (mkF m 74 #[.val (.int p0), .val (.int p1), .val (.int v228), .val (.ref vsy), .unset, .unset] [(.int p1)])) rfl (hb hby at_74) _ ?_
                      show Steps p.tables e below (T357.setTop (mkF m 76 #[.val (.int p0), .val (.int p1), .val (.int v228), .val (.ref vsy), .unset, .unset] [(.int (65535 : Int32)), (.int p1)])) _
                      refine XS.iand X357.here hx rfl (hb hby at_76) rfl ?_
                      show Steps p.tables e below (T357.setTop (mkF m 77 #[.val (.int p0), .val (.int p1), .val (.int v228), .val (.ref vsy), .unset, .unset] [(.int (p1 &&& (65535 : Int32)))])) _
                      refine XS.i2c X357.here hx rfl (hb hby at_77) rfl ?_
                      show Steps p.tables e below (T357.setTop (mkF m 78 #[.val (.int p0), .val (.int p1), .val (.int v228), .val (.ref vsy), .unset, .unset] [(.int ((p1 &&& (65535 : Int32)).toUInt32.toUInt16.toUInt32.toInt32))])) _
                      refine XS.istore X357.here hx rfl (hb hby at_78) rfl (l' := #[.val (.int p0), .val (.int p1), .val (.int v228), .val (.ref vsy), .val (.int ((p1 &&& (65535 : Int32)).toUInt32.toUInt16.toUInt32.toInt32)), .unset]) rfl ?_
                      show Steps p.tables e below (T357.setTop (mkF m 80 #[.val (.int p0), .val (.int p1), .val (.int v228), .val (.ref vsy), .val (.int ((p1 &&& (65535 : Int32)).toUInt32.toUInt16.toUInt32.toInt32)), .unset] [])) _
                      simpa only [if_pos hj17_359] using kt
                    · refine XS.ifNo X357.here hx rfl (hb hby at_17) rfl ((if0 _ _).trans (feq hj17_359).1) ?_
                      show Steps p.tables e below (T357.setTop (mkF m 20 #[.val (.int p0), .val (.int p1), .val (.int v228), .val (.ref vsy), .unset, .unset] [])) _
                      refine XS.iloadN X357.here hx rfl (hb hby at_20) rfl ?_
                      show Steps p.tables e below (T357.setTop (mkF m 21 #[.val (.int p0), .val (.int p1), .val (.int v228), .val (.ref vsy), .unset, .unset] [(.int p1)])) _
                      refine XS.bipush X357.here hx rfl (hb hby at_21) ?_
                      show Steps p.tables e below (T357.setTop (mkF m 23 #[.val (.int p0), .val (.int p1), .val (.int v228), .val (.ref vsy), .unset, .unset] [(.int (17 : Int32)), (.int p1)])) _
                      refine XS.iushr X357.here hx rfl (hb hby at_23) rfl ?_
                      show Steps p.tables e below (T357.setTop (mkF m 24 #[.val (.int p0), .val (.int p1), .val (.int v228), .val (.ref vsy), .unset, .unset] [(.int ((p1.toUInt32 >>> ((17 : Int32) &&& 31).toUInt32).toInt32))])) _
                      refine XS.iconst X357.here hx rfl (hb hby at_24) ?_
                      show Steps p.tables e below (T357.setTop (mkF m 25 #[.val (.int p0), .val (.int p1), .val (.int v228), .val (.ref vsy), .unset, .unset] [(.int (3 : Int32)), (.int ((p1.toUInt32 >>> ((17 : Int32) &&& 31).toUInt32).toInt32))])) _
                      refine XS.iand X357.here hx rfl (hb hby at_25) rfl ?_
                      show Steps p.tables e below (T357.setTop (mkF m 26 #[.val (.int p0), .val (.int p1), .val (.int v228), .val (.ref vsy), .unset, .unset] [(.int (((p1.toUInt32 >>> ((17 : Int32) &&& 31).toUInt32).toInt32) &&& (3 : Int32)))])) _
                      refine XS.istore X357.here hx rfl (hb hby at_26) rfl (l' := #[.val (.int p0), .val (.int p1), .val (.int v228), .val (.ref vsy), .unset, .val (.int (((p1.toUInt32 >>> ((17 : Int32) &&& 31).toUInt32).toInt32) &&& (3 : Int32)))]) rfl ?_
                      show Steps p.tables e below (T357.setTop (mkF m 28 #[.val (.int p0), .val (.int p1), .val (.int v228), .val (.ref vsy), .unset, .val (.int (((p1.toUInt32 >>> ((17 : Int32) &&& 31).toUInt32).toInt32) &&& (3 : Int32)))] [])) _
                      refine XS.iload X357.here hx rfl (hb hby at_28) rfl ?_
                      show Steps p.tables e below (T357.setTop (mkF m 30 #[.val (.int p0), .val (.int p1), .val (.int v228), .val (.ref vsy), .unset, .val (.int (((p1.toUInt32 >>> ((17 : Int32) &&& 31).toUInt32).toInt32) &&& (3 : Int32)))] [(.int (((p1.toUInt32 >>> ((17 : Int32) &&& 31).toUInt32).toInt32) &&& (3 : Int32)))])) _
                      by_cases hj30_360 : (((p1.toUInt32 >>> ((17 : Int32) &&& 31).toUInt32).toInt32) &&& (3 : Int32)) = (0 : Int32)
                      · refine XS.ifNo X357.here hx rfl (hb hby at_30) rfl ((if0 _ _).trans (teq hj30_360).2) ?_
                        show Steps p.tables e below (T357.setTop (mkF m 33 #[.val (.int p0), .val (.int p1), .val (.int v228), .val (.ref vsy), .unset, .val (.int (((p1.toUInt32 >>> ((17 : Int32) &&& 31).toUInt32).toInt32) &&& (3 : Int32)))] [])) _
                        refine XS.bipush X357.here hx rfl (hb hby at_33) ?_
                        show Steps p.tables e below (T357.setTop (mkF m 35 #[.val (.int p0), .val (.int p1), .val (.int v228), .val (.ref vsy), .unset, .val (.int (((p1.toUInt32 >>> ((17 : Int32) &&& 31).toUInt32).toInt32) &&& (3 : Int32)))] [(.int (115 : Int32))])) _
                        refine XS.istore X357.here hx rfl (hb hby at_35) rfl (l' := #[.val (.int p0), .val (.int p1), .val (.int v228), .val (.ref vsy), .val (.int (115 : Int32)), .val (.int (((p1.toUInt32 >>> ((17 : Int32) &&& 31).toUInt32).toInt32) &&& (3 : Int32)))]) rfl ?_
                        show Steps p.tables e below (T357.setTop (mkF m 37 #[.val (.int p0), .val (.int p1), .val (.int v228), .val (.ref vsy), .val (.int (115 : Int32)), .val (.int (((p1.toUInt32 >>> ((17 : Int32) &&& 31).toUInt32).toInt32) &&& (3 : Int32)))] [])) _
                        refine XS.goto X357.here hx rfl (pc0 := 37) (pc' := 70) rfl (hb hby at_37) (by decide) (by decide) ?_
                        show Steps p.tables e below (T357.setTop (mkF m 70 #[.val (.int p0), .val (.int p1), .val (.int v228), .val (.ref vsy), .val (.int (115 : Int32)), .val (.int (((p1.toUInt32 >>> ((17 : Int32) &&& 31).toUInt32).toInt32) &&& (3 : Int32)))] [])) _
                        refine XS.goto X357.here hx rfl (pc0 := 70) (pc' := 80) rfl (hb hby at_70) (by decide) (by decide) ?_
                        show Steps p.tables e below (T357.setTop (mkF m 80 #[.val (.int p0), .val (.int p1), .val (.int v228), .val (.ref vsy), .val (.int (115 : Int32)), .val (.int (((p1.toUInt32 >>> ((17 : Int32) &&& 31).toUInt32).toInt32) &&& (3 : Int32)))] [])) _
                        simpa only [if_neg hj17_359, if_pos hj30_360] using kt
                      · refine XS.ifYes X357.here hx rfl (pc0 := 30) (pc' := 40) rfl (hb hby at_30) rfl ((if0 _ _).trans (feq hj30_360).2) (by decide) (by decide) ?_
                        show Steps p.tables e below (T357.setTop (mkF m 40 #[.val (.int p0), .val (.int p1), .val (.int v228), .val (.ref vsy), .unset, .val (.int (((p1.toUInt32 >>> ((17 : Int32) &&& 31).toUInt32).toInt32) &&& (3 : Int32)))] [])) _
                        refine XS.iload X357.here hx rfl (hb hby at_40) rfl ?_
                        show Steps p.tables e below (T357.setTop (mkF m 42 #[.val (.int p0), .val (.int p1), .val (.int v228), .val (.ref vsy), .unset, .val (.int (((p1.toUInt32 >>> ((17 : Int32) &&& 31).toUInt32).toInt32) &&& (3 : Int32)))] [(.int (((p1.toUInt32 >>> ((17 : Int32) &&& 31).toUInt32).toInt32) &&& (3 : Int32)))])) _
                        refine XS.iconst X357.here hx rfl (hb hby at_42) ?_
                        show Steps p.tables e below (T357.setTop (mkF m 43 #[.val (.int p0), .val (.int p1), .val (.int v228), .val (.ref vsy), .unset, .val (.int (((p1.toUInt32 >>> ((17 : Int32) &&& 31).toUInt32).toInt32) &&& (3 : Int32)))] [(.int (1 : Int32)), (.int (((p1.toUInt32 >>> ((17 : Int32) &&& 31).toUInt32).toInt32) &&& (3 : Int32)))])) _
                        by_cases hj43_361 : (((p1.toUInt32 >>> ((17 : Int32) &&& 31).toUInt32).toInt32) &&& (3 : Int32)) = (1 : Int32)
                        · refine XS.icmpNo X357.here hx rfl (hb hby at_43) rfl (teq hj43_361).2 ?_
                          show Steps p.tables e below (T357.setTop (mkF m 46 #[.val (.int p0), .val (.int p1), .val (.int v228), .val (.ref vsy), .unset, .val (.int (((p1.toUInt32 >>> ((17 : Int32) &&& 31).toUInt32).toInt32) &&& (3 : Int32)))] [])) _
                          refine XS.bipush X357.here hx rfl (hb hby at_46) ?_
                          show Steps p.tables e below (T357.setTop (mkF m 48 #[.val (.int p0), .val (.int p1), .val (.int v228), .val (.ref vsy), .unset, .val (.int (((p1.toUInt32 >>> ((17 : Int32) &&& 31).toUInt32).toInt32) &&& (3 : Int32)))] [(.int (101 : Int32))])) _
                          refine XS.istore X357.here hx rfl (hb hby at_48) rfl (l' := #[.val (.int p0), .val (.int p1), .val (.int v228), .val (.ref vsy), .val (.int (101 : Int32)), .val (.int (((p1.toUInt32 >>> ((17 : Int32) &&& 31).toUInt32).toInt32) &&& (3 : Int32)))]) rfl ?_
                          show Steps p.tables e below (T357.setTop (mkF m 50 #[.val (.int p0), .val (.int p1), .val (.int v228), .val (.ref vsy), .val (.int (101 : Int32)), .val (.int (((p1.toUInt32 >>> ((17 : Int32) &&& 31).toUInt32).toInt32) &&& (3 : Int32)))] [])) _
                          refine XS.goto X357.here hx rfl (pc0 := 50) (pc' := 70) rfl (hb hby at_50) (by decide) (by decide) ?_
                          show Steps p.tables e below (T357.setTop (mkF m 70 #[.val (.int p0), .val (.int p1), .val (.int v228), .val (.ref vsy), .val (.int (101 : Int32)), .val (.int (((p1.toUInt32 >>> ((17 : Int32) &&& 31).toUInt32).toInt32) &&& (3 : Int32)))] [])) _
                          refine XS.goto X357.here hx rfl (pc0 := 70) (pc' := 80) rfl (hb hby at_70) (by decide) (by decide) ?_
                          show Steps p.tables e below (T357.setTop (mkF m 80 #[.val (.int p0), .val (.int p1), .val (.int v228), .val (.ref vsy), .val (.int (101 : Int32)), .val (.int (((p1.toUInt32 >>> ((17 : Int32) &&& 31).toUInt32).toInt32) &&& (3 : Int32)))] [])) _
                          simpa only [if_neg hj17_359, if_neg hj30_360, if_pos hj43_361] using kt
                        · refine XS.icmpYes X357.here hx rfl (pc0 := 43) (pc' := 53) rfl (hb hby at_43) rfl (feq hj43_361).2 (by decide) (by decide) ?_
                          show Steps p.tables e below (T357.setTop (mkF m 53 #[.val (.int p0), .val (.int p1), .val (.int v228), .val (.ref vsy), .unset, .val (.int (((p1.toUInt32 >>> ((17 : Int32) &&& 31).toUInt32).toInt32) &&& (3 : Int32)))] [])) _
                          refine XS.iload X357.here hx rfl (hb hby at_53) rfl ?_
                          show Steps p.tables e below (T357.setTop (mkF m 55 #[.val (.int p0), .val (.int p1), .val (.int v228), .val (.ref vsy), .unset, .val (.int (((p1.toUInt32 >>> ((17 : Int32) &&& 31).toUInt32).toInt32) &&& (3 : Int32)))] [(.int (((p1.toUInt32 >>> ((17 : Int32) &&& 31).toUInt32).toInt32) &&& (3 : Int32)))])) _
                          refine XS.iconst X357.here hx rfl (hb hby at_55) ?_
                          show Steps p.tables e below (T357.setTop (mkF m 56 #[.val (.int p0), .val (.int p1), .val (.int v228), .val (.ref vsy), .unset, .val (.int (((p1.toUInt32 >>> ((17 : Int32) &&& 31).toUInt32).toInt32) &&& (3 : Int32)))] [(.int (2 : Int32)), (.int (((p1.toUInt32 >>> ((17 : Int32) &&& 31).toUInt32).toInt32) &&& (3 : Int32)))])) _
                          by_cases hj56_362 : (((p1.toUInt32 >>> ((17 : Int32) &&& 31).toUInt32).toInt32) &&& (3 : Int32)) = (2 : Int32)
                          · refine XS.icmpNo X357.here hx rfl (hb hby at_56) rfl (teq hj56_362).2 ?_
                            show Steps p.tables e below (T357.setTop (mkF m 59 #[.val (.int p0), .val (.int p1), .val (.int v228), .val (.ref vsy), .unset, .val (.int (((p1.toUInt32 >>> ((17 : Int32) &&& 31).toUInt32).toInt32) &&& (3 : Int32)))] [])) _
                            refine XS.bipush X357.here hx rfl (hb hby at_59) ?_
                            show Steps p.tables e below (T357.setTop (mkF m 61 #[.val (.int p0), .val (.int p1), .val (.int v228), .val (.ref vsy), .unset, .val (.int (((p1.toUInt32 >>> ((17 : Int32) &&& 31).toUInt32).toInt32) &&& (3 : Int32)))] [(.int (118 : Int32))])) _
                            refine XS.istore X357.here hx rfl (hb hby at_61) rfl (l' := #[.val (.int p0), .val (.int p1), .val (.int v228), .val (.ref vsy), .val (.int (118 : Int32)), .val (.int (((p1.toUInt32 >>> ((17 : Int32) &&& 31).toUInt32).toInt32) &&& (3 : Int32)))]) rfl ?_
                            show Steps p.tables e below (T357.setTop (mkF m 63 #[.val (.int p0), .val (.int p1), .val (.int v228), .val (.ref vsy), .val (.int (118 : Int32)), .val (.int (((p1.toUInt32 >>> ((17 : Int32) &&& 31).toUInt32).toInt32) &&& (3 : Int32)))] [])) _
                            refine XS.goto X357.here hx rfl (pc0 := 63) (pc' := 70) rfl (hb hby at_63) (by decide) (by decide) ?_
                            show Steps p.tables e below (T357.setTop (mkF m 70 #[.val (.int p0), .val (.int p1), .val (.int v228), .val (.ref vsy), .val (.int (118 : Int32)), .val (.int (((p1.toUInt32 >>> ((17 : Int32) &&& 31).toUInt32).toInt32) &&& (3 : Int32)))] [])) _
                            refine XS.goto X357.here hx rfl (pc0 := 70) (pc' := 80) rfl (hb hby at_70) (by decide) (by decide) ?_
                            show Steps p.tables e below (T357.setTop (mkF m 80 #[.val (.int p0), .val (.int p1), .val (.int v228), .val (.ref vsy), .val (.int (118 : Int32)), .val (.int (((p1.toUInt32 >>> ((17 : Int32) &&& 31).toUInt32).toInt32) &&& (3 : Int32)))] [])) _
                            simpa only [if_neg hj17_359, if_neg hj30_360, if_neg hj43_361, if_pos hj56_362] using kt
                          · refine XS.icmpYes X357.here hx rfl (pc0 := 56) (pc' := 66) rfl (hb hby at_56) rfl (feq hj56_362).2 (by decide) (by decide) ?_
                            show Steps p.tables e below (T357.setTop (mkF m 66 #[.val (.int p0), .val (.int p1), .val (.int v228), .val (.ref vsy), .unset, .val (.int (((p1.toUInt32 >>> ((17 : Int32) &&& 31).toUInt32).toInt32) &&& (3 : Int32)))] [])) _
                            refine XS.bipush X357.here hx rfl (hb hby at_66) ?_
                            show Steps p.tables e below (T357.setTop (mkF m 68 #[.val (.int p0), .val (.int p1), .val (.int v228), .val (.ref vsy), .unset, .val (.int (((p1.toUInt32 >>> ((17 : Int32) &&& 31).toUInt32).toInt32) &&& (3 : Int32)))] [(.int (58 : Int32))])) _
                            refine XS.istore X357.here hx rfl (hb hby at_68) rfl (l' := #[.val (.int p0), .val (.int p1), .val (.int v228), .val (.ref vsy), .val (.int (58 : Int32)), .val (.int (((p1.toUInt32 >>> ((17 : Int32) &&& 31).toUInt32).toInt32) &&& (3 : Int32)))]) rfl ?_
                            show Steps p.tables e below (T357.setTop (mkF m 70 #[.val (.int p0), .val (.int p1), .val (.int v228), .val (.ref vsy), .val (.int (58 : Int32)), .val (.int (((p1.toUInt32 >>> ((17 : Int32) &&& 31).toUInt32).toInt32) &&& (3 : Int32)))] [])) _
                            refine XS.goto X357.here hx rfl (pc0 := 70) (pc' := 80) rfl (hb hby at_70) (by decide) (by decide) ?_
                            show Steps p.tables e below (T357.setTop (mkF m 80 #[.val (.int p0), .val (.int p1), .val (.int v228), .val (.ref vsy), .val (.int (58 : Int32)), .val (.int (((p1.toUInt32 >>> ((17 : Int32) &&& 31).toUInt32).toInt32) &&& (3 : Int32)))] [])) _
                            simpa only [if_neg hj17_359, if_neg hj30_360, if_neg hj43_361, if_neg hj56_362] using kt
                  obtain ⟨v364, hv364⟩ : ∃ z : Int32, z = (if (p1 &&& (65536 : Int32)) = (0 : Int32) then ((p1 &&& (65535 : Int32)).toUInt32.toUInt16.toUInt32.toInt32) else (if (((p1.toUInt32 >>> ((17 : Int32) &&& 31).toUInt32).toInt32) &&& (3 : Int32)) = (0 : Int32) then (115 : Int32) else (if (((p1.toUInt32 >>> ((17 : Int32) &&& 31).toUInt32).toInt32) &&& (3 : Int32)) = (1 : Int32) then (101 : Int32) else (if (((p1.toUInt32 >>> ((17 : Int32) &&& 31).toUInt32).toInt32) &&& (3 : Int32)) = (2 : Int32) then (118 : Int32) else (58 : Int32))))) := ⟨_, rfl⟩
                  rw [← hv364] at k363
                  obtain ⟨sl365, hsl365⟩ : ∃ z : Slot, z = (if (p1 &&& (65536 : Int32)) = (0 : Int32) then (.unset : Slot) else .val (.int (((p1.toUInt32 >>> ((17 : Int32) &&& 31).toUInt32).toInt32) &&& (3 : Int32)))) := ⟨_, rfl⟩
                  have osl365 : One sl365 := by rw [hsl365]; repeat' split; all_goals first | exact One.u | exact One.val rfl
                  rw [← hsl365] at k363
                  obtain ⟨_, _, ⟨T366, L366, kc366, nc366⟩, -, X366, ⟨Lc366, hQ366, l366, y366, z366⟩, st366⟩ := Jvm.LawKit.callS X357 hx (y := (⟨"com/example/grendel/grendel/cli/VerbTakesPinLaw", "expect", "(IC)Z"⟩ : MethodName)) hown (mvT hZ (hw _ (List.mem_of_getElem? (i := 10) rfl))) (mvT hZ (hw _ (List.mem_of_getElem? (i := 11) rfl))) (mvT hZ (hw _ (List.mem_of_getElem? (i := 3) rfl))) (mvT hZ (hw _ (List.mem_of_getElem? (i := 12) rfl))) (by decide) (backOf (W := 0) (rm2 l Z a0 hw [] v228 v364 h0 n0 ) hZ (hw _ (List.mem_of_getElem? (i := 12) rfl)) (hw _ (List.mem_of_getElem? (i := 3) rfl)) (by decide) (by decide)) (g := (mkF m 83 #[.val (.int p0), .val (.int p1), .val (.int v228), .val (.ref vsy), .val (.int v364), sl365] [(.int v364), (.int v228)])) rfl (by rw [hml]; rfl) (argsL := [(.int v228), (.int v364)]) (rest := []) (lenOf pd_1 rfl) rfl (by show 2 * 0 + _ ≤ _; exact Nat.le_of_eq rfl) (hb hby at_83) (fun _ _ => ⟨rfl, eq357, (by decide : 0 + 0 ≤ _), (by decide : 0 + 0 ≤ _)⟩)
                  dsimp only [Pt.U, Pt.locs, Pt.cells, Pt.slots] at X366 l366 y366 z366 st366 hQ366
                  rw [l366, y366, z366] at X366
                  replace X366 : Stand p l e room_1 s m #[(.int p0), (.int p1)] below meth c T366 _ 0 0 := X366
                  obtain ⟨rfl, Nq366, eq366⟩ := hQ366
                  have N366 := Fr.app N357 Nq366
                  have k367 : ∀ tg_, Steps p.tables e below (T366.setTop (mkF m 86 #[.val (.int p0), .val (.int p1), .val (.int v228), .val (.ref vsy), .val (.int v364), sl365] [(.int (own_exp v228 v364))])) tg_ → Steps p.tables e below (s₁.setTop (entryFrame m #[(.int p0), (.int p1)] maxLocals)) tg_ := by
                    intro tg_ kt
                    refine k363 tg_ ?_
                    refine XS.iloadN X357.here hx rfl (hb hby at_80) rfl ?_
                    show Steps p.tables e below (T357.setTop (mkF m 81 #[.val (.int p0), .val (.int p1), .val (.int v228), .val (.ref vsy), .val (.int v364), sl365] [(.int v228)])) _
                    refine XS.iload X357.here hx rfl (hb hby at_81) rfl ?_
                    show Steps p.tables e below (T357.setTop (mkF m 83 #[.val (.int p0), .val (.int p1), .val (.int v228), .val (.ref vsy), .val (.int v364), sl365] [(.int v364), (.int v228)])) _
                    refine st366 _ ?_
                    show Steps p.tables e below (T366.setTop (mkF m 86 #[.val (.int p0), .val (.int p1), .val (.int v228), .val (.ref vsy), .val (.int v364), sl365] [(.int (own_exp v228 v364))])) _
                    exact kt
                  obtain ⟨r368, hr368⟩ : ∃ z : Int32, z = (own_exp v228 v364) := ⟨_, rfl⟩
                  rw [← hr368] at k367
                  obtain ⟨cq369, kq369, q369a, q369b, q369c⟩ := isOf hZ eq366 E_vsy
                  obtain ⟨_, _, ⟨T369, L369, kc369, nc369⟩, -, X369, ⟨Lc369, hQ369, l369, y369, z369⟩, st369⟩ := X366.virtualBack hx (y := (⟨"com/example/grendel/grendel/cli/Verb", "takes", "(C)Z"⟩ : MethodName)) (z := (⟨"com/example/grendel/grendel/cli/Verb", "takes", "(C)Z"⟩ : MethodName)) hown (mvT hZ (hw _ (List.mem_of_getElem? (i := 13) rfl))) (mvT hZ (hw _ (List.mem_of_getElem? (i := 14) rfl))) (notFace_of_selects (args := #[]) (mvT hZ (hw _ (List.mem_of_getElem? (i := 16) rfl)))) (mvT hZ (hw _ (List.mem_of_getElem? (i := 16) rfl))) (mvT hZ (hw _ (List.mem_of_getElem? (i := 15) rfl))) (by decide) (backOf (W := 0) (rmtk_0 l Z a0 hw [] vsy v364 zc oe oev foe h0 n0 E_oe F_vsy Fv_oe Fc_oe V_oe S_cs hz) hZ (hw _ (List.mem_of_getElem? (i := 17) rfl)) (hw _ (List.mem_of_getElem? (i := 6) rfl)) (by decide) (by decide)) q369a q369c (g := (mkF m 91 #[.val (.int p0), .val (.int p1), .val (.int v228), .val (.ref vsy), .val (.int v364), .val (.int r368)] [(.int v364), (.ref vsy)])) rfl (by rw [hml]; rfl) (Steps.refl _) (argsL := [(.int v364)]) (rest := []) (lenOf pd_2 rfl) rfl (by show 2 * 0 + _ ≤ _; exact Nat.le_of_eq rfl) (hb hby at_91) (fun _ _ => ⟨rfl, eq366, (by decide : 0 + 0 ≤ _), (by decide : 0 + 0 ≤ _)⟩)
                  dsimp only [Pt.U, Pt.locs, Pt.cells, Pt.slots] at X369 l369 y369 z369 st369 hQ369
                  rw [l369, y369, z369] at X369
                  replace X369 : Stand p l e room_1 s m #[(.int p0), (.int p1)] below meth c T369 _ 0 0 := X369
                  obtain ⟨rfl, Nq369, eq369⟩ := hQ369
                  have N369 := Fr.app N366 Nq369
                  have k370 : ∀ tg_, Steps p.tables e below (T369.setTop (mkF m 94 #[.val (.int p0), .val (.int p1), .val (.int v228), .val (.ref vsy), .val (.int v364), .val (.int r368)] [(.int (own_tk_0 v364))])) tg_ → Steps p.tables e below (s₁.setTop (entryFrame m #[(.int p0), (.int p1)] maxLocals)) tg_ := by
                    intro tg_ kt
                    refine k367 tg_ ?_
                    show Steps p.tables e below (T366.setTop (mkF m 86 #[.val (.int p0), .val (.int p1), .val (.int v228), .val (.ref vsy), .val (.int v364), sl365] [(.int r368)])) _
                    refine XS.istoreS X366.here hx rfl (hb hby at_86) rfl rfl osl365 ?_
                    show Steps p.tables e below (T366.setTop (mkF m 88 #[.val (.int p0), .val (.int p1), .val (.int v228), .val (.ref vsy), .val (.int v364), .val (.int r368)] [])) _
                    refine XS.aloadN X366.here hx rfl (hb hby at_88) rfl rfl ?_
                    show Steps p.tables e below (T366.setTop (mkF m 89 #[.val (.int p0), .val (.int p1), .val (.int v228), .val (.ref vsy), .val (.int v364), .val (.int r368)] [(.ref vsy)])) _
                    refine XS.iload X366.here hx rfl (hb hby at_89) rfl ?_
                    show Steps p.tables e below (T366.setTop (mkF m 91 #[.val (.int p0), .val (.int p1), .val (.int v228), .val (.ref vsy), .val (.int v364), .val (.int r368)] [(.int v364), (.ref vsy)])) _
                    refine st369.trans ?_
                    show Steps p.tables e below (T369.setTop (mkF m 94 #[.val (.int p0), .val (.int p1), .val (.int v228), .val (.ref vsy), .val (.int v364), .val (.int r368)] [(.int (own_tk_0 v364))])) _
                    exact kt
                  obtain ⟨r371, hr371⟩ : ∃ z : Int32, z = (own_tk_0 v364) := ⟨_, rfl⟩
                  rw [← hr371] at k370
                  have hc96_372 : r371 = r368 := (by rw [hr371]; rw [hr368]; exact own_lw7 _ _ hc9_356)
                  have k373 : ∀ tg_, Steps p.tables e below (T369.setTop (mkF m 104 #[.val (.int p0), .val (.int p1), .val (.int v228), .val (.ref vsy), .val (.int v364), .val (.int r368)] [(.int (1 : Int32))])) tg_ → Steps p.tables e below (s₁.setTop (entryFrame m #[(.int p0), (.int p1)] maxLocals)) tg_ := by
                    intro tg_ kt
                    refine k370 tg_ ?_
                    show Steps p.tables e below (T369.setTop (mkF m 94 #[.val (.int p0), .val (.int p1), .val (.int v228), .val (.ref vsy), .val (.int v364), .val (.int r368)] [(.int r371)])) _
                    refine XS.iload X369.here hx rfl (hb hby at_94) rfl ?_
                    show Steps p.tables e below (T369.setTop (mkF m 96 #[.val (.int p0), .val (.int p1), .val (.int v228), .val (.ref vsy), .val (.int v364), .val (.int r368)] [(.int r368), (.int r371)])) _
                    refine XS.icmpNo X369.here hx rfl (hb hby at_96) rfl (teq hc96_372).2 ?_
                    show Steps p.tables e below (T369.setTop (mkF m 99 #[.val (.int p0), .val (.int p1), .val (.int v228), .val (.ref vsy), .val (.int v364), .val (.int r368)] [])) _
                    refine XS.iconst X369.here hx rfl (hb hby at_99) ?_
                    show Steps p.tables e below (T369.setTop (mkF m 100 #[.val (.int p0), .val (.int p1), .val (.int v228), .val (.ref vsy), .val (.int v364), .val (.int r368)] [(.int (1 : Int32))])) _
                    refine XS.goto X369.here hx rfl (pc0 := 100) (pc' := 104) rfl (hb hby at_100) (by decide) (by decide) ?_
                    show Steps p.tables e below (T369.setTop (mkF m 104 #[.val (.int p0), .val (.int p1), .val (.int v228), .val (.ref vsy), .val (.int v364), .val (.int r368)] [(.int (1 : Int32))])) _
                    exact kt
                  obtain ⟨fs, hr, hrun, hended, hW, hsame⟩ := X369.leave (v := some (.int (1 : Int32))) (fun h => by rw [Bd.returns] at h; cases h)
                  refine ⟨_, _, k373 _ (retN X369 hx (t := .boolean) Bd.returns (by simp) (hb hby at_104) hr), hrun, hended, _, _, rfl, ?_, ⟨_, rfl⟩, hW, hsame.mono (by decide) (by decide)⟩
                  show Q0 Z p0 p1 zc ol olv fol oc ocv foc od odv fod oe oev foe vls vcr vge vse vst vde vda vsy vhe vqu h0 n0 _ T369.heap _
                  rw [eq369]
                  exact ⟨rfl, N369⟩
                · by_cases hc9_374 : v228 = (8 : Int32)
                  · obtain ⟨_, _, ⟨T375, L375, kc375, nc375⟩, -, X375, ⟨Lc375, hQ375, l375, y375, z375⟩, st375⟩ := Jvm.LawKit.callS X0 hx (y := (⟨"com/example/grendel/grendel/cli/VerbTakesPinLaw", "pick", "(I)Lcom/example/grendel/grendel/cli/Verb;"⟩ : MethodName)) hown (mvT hZ (hw _ (List.mem_of_getElem? (i := 1) rfl))) (mvT hZ (hw _ (List.mem_of_getElem? (i := 2) rfl))) (mvT hZ (hw _ (List.mem_of_getElem? (i := 3) rfl))) (mvT hZ (hw _ (List.mem_of_getElem? (i := 4) rfl))) (by decide) (backOf (W := 0) (rmpick8 l Z a0 hw [] v228 vhe h0 n0 S_vhe hc9_374) hZ (hw _ (List.mem_of_getElem? (i := 4) rfl)) (hw _ (List.mem_of_getElem? (i := 3) rfl)) (by decide) (by decide)) (g := (mkF m 9 #[.val (.int p0), .val (.int p1), .val (.int v228), .unset, .unset, .unset] [(.int v228)])) rfl (by rw [hml]; rfl) (argsL := [(.int v228)]) (rest := []) (lenOf pd_0 rfl) rfl (by show 2 * 0 + _ ≤ _; exact Nat.le_of_eq rfl) (hb hby at_9) (fun _ _ => ⟨rfl, e0, (by decide : 0 + 0 ≤ _), (by decide : 0 + 0 ≤ _)⟩)
                    dsimp only [Pt.U, Pt.locs, Pt.cells, Pt.slots] at X375 l375 y375 z375 st375 hQ375
                    rw [l375, y375, z375] at X375
                    replace X375 : Stand p l e room_1 s m #[(.int p0), (.int p1)] below meth c T375 _ 0 0 := X375
                    obtain ⟨rfl, Nq375, eq375⟩ := hQ375
                    have N375 := Fr.app N0 Nq375
                    have k376 : ∀ tg_, Steps p.tables e below (T375.setTop (mkF m 17 #[.val (.int p0), .val (.int p1), .val (.int v228), .val (.ref vhe), .unset, .unset] [(.int (p1 &&& (65536 : Int32)))])) tg_ → Steps p.tables e below (s₁.setTop (entryFrame m #[(.int p0), (.int p1)] maxLocals)) tg_ := by
                      intro tg_ kt
                      refine k229 tg_ ?_
                      refine st375 _ ?_
                      show Steps p.tables e below (T375.setTop (mkF m 12 #[.val (.int p0), .val (.int p1), .val (.int v228), .unset, .unset, .unset] [(.ref vhe)])) _
                      refine XS.astoreN X375.here hx rfl (hb hby at_12) rfl rfl (l' := #[.val (.int p0), .val (.int p1), .val (.int v228), .val (.ref vhe), .unset, .unset]) rfl ?_
                      show Steps p.tables e below (T375.setTop (mkF m 13 #[.val (.int p0), .val (.int p1), .val (.int v228), .val (.ref vhe), .unset, .unset] [])) _
                      refine XS.iloadN X375.here hx rfl (hb hby at_13) rfl ?_
                      show Steps p.tables e below (T375.setTop (mkF m 14 #[.val (.int p0), .val (.int p1), .val (.int v228), .val (.ref vhe), .unset, .unset] [(.int p1)])) _
                      refine X375.ldcInt hx hown (mvT hZ (hw _ (List.mem_of_getElem? (i := 8) rfl))) (g := (mkF m 14 #[.val (.int p0), .val (.int p1), .val (.int v228), .val (.ref vhe), .unset, .unset] [(.int p1)])) rfl (hb hby at_14) _ ?_
                      show Steps p.tables e below (T375.setTop (mkF m 16 #[.val (.int p0), .val (.int p1), .val (.int v228), .val (.ref vhe), .unset, .unset] [(.int (65536 : Int32)), (.int p1)])) _
                      refine XS.iand X375.here hx rfl (hb hby at_16) rfl ?_
                      show Steps p.tables e below (T375.setTop (mkF m 17 #[.val (.int p0), .val (.int p1), .val (.int v228), .val (.ref vhe), .unset, .unset] [(.int (p1 &&& (65536 : Int32)))])) _
                      exact kt
                    have k381 : ∀ tg_, Steps p.tables e below (T375.setTop (mkF m 80 #[.val (.int p0), .val (.int p1), .val (.int v228), .val (.ref vhe), .val (.int (if (p1 &&& (65536 : Int32)) = (0 : Int32) then ((p1 &&& (65535 : Int32)).toUInt32.toUInt16.toUInt32.toInt32) else (if (((p1.toUInt32 >>> ((17 : Int32) &&& 31).toUInt32).toInt32) &&& (3 : Int32)) = (0 : Int32) then (115 : Int32) else (if (((p1.toUInt32 >>> ((17 : Int32) &&& 31).toUInt32).toInt32) &&& (3 : Int32)) = (1 : Int32) then (101 : Int32) else (if (((p1.toUInt32 >>> ((17 : Int32) &&& 31).toUInt32).toInt32) &&& (3 : Int32)) = (2 : Int32) then (118 : Int32) else (58 : Int32)))))), (if (p1 &&& (65536 : Int32)) = (0 : Int32) then (.unset : Slot) else .val (.int (((p1.toUInt32 >>> ((17 : Int32) &&& 31).toUInt32).toInt32) &&& (3 : Int32))))] [])) tg_ → Steps p.tables e below (s₁.setTop (entryFrame m #[(.int p0), (.int p1)] maxLocals)) tg_ := by
                      intro tg_ kt
                      refine k376 tg_ ?_
                      by_cases hj17_377 : (p1 &&& (65536 : Int32)) = (0 : Int32)
                      · refine XS.ifYes X375.here hx rfl (pc0 := 17) (pc' := 73) rfl (hb hby at_17) rfl ((if0 _ _).trans (teq hj17_377).1) (by decide) (by decide) ?_
                        show Steps p.tables e below (T375.setTop (mkF m 73 #[.val (.int p0), .val (.int p1), .val (.int v228), .val (.ref vhe), .unset, .unset] [])) _
                        refine XS.iloadN X375.here hx rfl (hb hby at_73) rfl ?_
                        show Steps p.tables e below (T375.setTop (mkF m 74 #[.val (.int p0), .val (.int p1), .val (.int v228), .val (.ref vhe), .unset, .unset] [(.int p1)])) _
                        refine X375.ldcInt hx hown (mvT hZ (hw _ (List.mem_of_getElem? (i := 9) rfl))) (g := (mkF m 74 #[.val (.int p0), .val (.int p1), .val (.int v228), .val (.ref vhe), .unset, .unset] [(.int p1)])) rfl (hb hby at_74) _ ?_
                        show Steps p.tables e below (T375.setTop (mkF m 76 #[.val (.int p0), .val (.int p1), .val (.int v228), .val (.ref vhe), .unset, .unset] [(.int (65535 : Int32)), (.int p1)])) _
                        refine XS.iand X375.here hx rfl (hb hby at_76) rfl ?_
                        show Steps p.tables e below (T375.setTop (mkF m 77 #[.val (.int p0), .val (.int p1), .val (.int v228), .val (.ref vhe), .unset, .unset] [(.int (p1 &&& (65535 : Int32)))])) _
                        refine XS.i2c X375.here hx rfl (hb hby at_77) rfl ?_
                        show Steps p.tables e below (T375.setTop (mkF m 78 #[.val (.int p0), .val (.int p1), .val (.int v228), .val (.ref vhe), .unset, .unset] [(.int ((p1 &&& (65535 : Int32)).toUInt32.toUInt16.toUInt32.toInt32))])) _
                        refine XS.istore X375.here hx rfl (hb hby at_78) rfl (l' := #[.val (.int p0), .val (.int p1), .val (.int v228), .val (.ref vhe), .val (.int ((p1 &&& (65535 : Int32)).toUInt32.toUInt16.toUInt32.toInt32)), .unset]) rfl ?_
                        show Steps p.tables e below (T375.setTop (mkF m 80 #[.val (.int p0), .val (.int p1), .val (.int v228), .val (.ref vhe), .val (.int ((p1 &&& (65535 : Int32)).toUInt32.toUInt16.toUInt32.toInt32)), .unset] [])) _
                        simpa only [if_pos hj17_377] using kt
                      · refine XS.ifNo X375.here hx rfl (hb hby at_17) rfl ((if0 _ _).trans (feq hj17_377).1) ?_
                        show Steps p.tables e below (T375.setTop (mkF m 20 #[.val (.int p0), .val (.int p1), .val (.int v228), .val (.ref vhe), .unset, .unset] [])) _
                        refine XS.iloadN X375.here hx rfl (hb hby at_20) rfl ?_
                        show Steps p.tables e below (T375.setTop (mkF m 21 #[.val (.int p0), .val (.int p1), .val (.int v228), .val (.ref vhe), .unset, .unset] [(.int p1)])) _
                        refine XS.bipush X375.here hx rfl (hb hby at_21) ?_
                        show Steps p.tables e below (T375.setTop (mkF m 23 #[.val (.int p0), .val (.int p1), .val (.int v228), .val (.ref vhe), .unset, .unset] [(.int (17 : Int32)), (.int p1)])) _
                        refine XS.iushr X375.here hx rfl (hb hby at_23) rfl ?_
                        show Steps p.tables e below (T375.setTop (mkF m 24 #[.val (.int p0), .val (.int p1), .val (.int v228), .val (.ref vhe), .unset, .unset] [(.int ((p1.toUInt32 >>> ((17 : Int32) &&& 31).toUInt32).toInt32))])) _
                        refine XS.iconst X375.here hx rfl (hb hby at_24) ?_
                        show Steps p.tables e below (T375.setTop (mkF m 25 #[.val (.int p0), .val (.int p1), .val (.int v228), .val (.ref vhe), .unset, .unset] [(.int (3 : Int32)), (.int ((p1.toUInt32 >>> ((17 : Int32) &&& 31).toUInt32).toInt32))])) _
                        refine XS.iand X375.here hx rfl (hb hby at_25) rfl ?_
                        show Steps p.tables e below (T375.setTop (mkF m 26 #[.val (.int p0), .val (.int p1), .val (.int v228), .val (.ref vhe), .unset, .unset] [(.int (((p1.toUInt32 >>> ((17 : Int32) &&& 31).toUInt32).toInt32) &&& (3 : Int32)))])) _
                        refine XS.istore X375.here hx rfl (hb hby at_26) rfl (l' := #[.val (.int p0), .val (.int p1), .val (.int v228), .val (.ref vhe), .unset, .val (.int (((p1.toUInt32 >>> ((17 : Int32) &&& 31).toUInt32).toInt32) &&& (3 : Int32)))]) rfl ?_
                        show Steps p.tables e below (T375.setTop (mkF m 28 #[.val (.int p0), .val (.int p1), .val (.int v228), .val (.ref vhe), .unset, .val (.int (((p1.toUInt32 >>> ((17 : Int32) &&& 31).toUInt32).toInt32) &&& (3 : Int32)))] [])) _
                        refine XS.iload X375.here hx rfl (hb hby at_28) rfl ?_
                        show Steps p.tables e below (T375.setTop (mkF m 30 #[.val (.int p0), .val (.int p1), .val (.int v228), .val (.ref vhe), .unset, .val (.int (((p1.toUInt32 >>> ((17 : Int32) &&& 31).toUInt32).toInt32) &&& (3 : Int32)))] [(.int (((p1.toUInt32 >>> ((17 : Int32) &&& 31).toUInt32).toInt32) &&& (3 : Int32)))])) _
                        by_cases hj30_378 : (((p1.toUInt32 >>> ((17 : Int32) &&& 31).toUInt32).toInt32) &&& (3 : Int32)) = (0 : Int32)
                        · refine XS.ifNo X375.here hx rfl (hb hby at_30) rfl ((if0 _ _).trans (teq hj30_378).2) ?_
                          show Steps p.tables e below (T375.setTop (mkF m 33 #[.val (.int p0), .val (.int p1), .val (.int v228), .val (.ref vhe), .unset, .val (.int (((p1.toUInt32 >>> ((17 : Int32) &&& 31).toUInt32).toInt32) &&& (3 : Int32)))] [])) _
                          refine XS.bipush X375.here hx rfl (hb hby at_33) ?_
                          show Steps p.tables e below (T375.setTop (mkF m 35 #[.val (.int p0), .val (.int p1), .val (.int v228), .val (.ref vhe), .unset, .val (.int (((p1.toUInt32 >>> ((17 : Int32) &&& 31).toUInt32).toInt32) &&& (3 : Int32)))] [(.int (115 : Int32))])) _
                          refine XS.istore X375.here hx rfl (hb hby at_35) rfl (l' := #[.val (.int p0), .val (.int p1), .val (.int v228), .val (.ref vhe), .val (.int (115 : Int32)), .val (.int (((p1.toUInt32 >>> ((17 : Int32) &&& 31).toUInt32).toInt32) &&& (3 : Int32)))]) rfl ?_
                          show Steps p.tables e below (T375.setTop (mkF m 37 #[.val (.int p0), .val (.int p1), .val (.int v228), .val (.ref vhe), .val (.int (115 : Int32)), .val (.int (((p1.toUInt32 >>> ((17 : Int32) &&& 31).toUInt32).toInt32) &&& (3 : Int32)))] [])) _
                          refine XS.goto X375.here hx rfl (pc0 := 37) (pc' := 70) rfl (hb hby at_37) (by decide) (by decide) ?_
                          show Steps p.tables e below (T375.setTop (mkF m 70 #[.val (.int p0), .val (.int p1), .val (.int v228), .val (.ref vhe), .val (.int (115 : Int32)), .val (.int (((p1.toUInt32 >>> ((17 : Int32) &&& 31).toUInt32).toInt32) &&& (3 : Int32)))] [])) _
                          refine XS.goto X375.here hx rfl (pc0 := 70) (pc' := 80) rfl (hb hby at_70) (by decide) (by decide) ?_
                          show Steps p.tables e below (T375.setTop (mkF m 80 #[.val (.int p0), .val (.int p1), .val (.int v228), .val (.ref vhe), .val (.int (115 : Int32)), .val (.int (((p1.toUInt32 >>> ((17 : Int32) &&& 31).toUInt32).toInt32) &&& (3 : Int32)))] [])) _
                          simpa only [if_neg hj17_377, if_pos hj30_378] using kt
                        · refine XS.ifYes X375.here hx rfl (pc0 := 30) (pc' := 40) rfl (hb hby at_30) rfl ((if0 _ _).trans (feq hj30_378).2) (by decide) (by decide) ?_
                          show Steps p.tables e below (T375.setTop (mkF m 40 #[.val (.int p0), .val (.int p1), .val (.int v228), .val (.ref vhe), .unset, .val (.int (((p1.toUInt32 >>> ((17 : Int32) &&& 31).toUInt32).toInt32) &&& (3 : Int32)))] [])) _
                          refine XS.iload X375.here hx rfl (hb hby at_40) rfl ?_
                          show Steps p.tables e below (T375.setTop (mkF m 42 #[.val (.int p0), .val (.int p1), .val (.int v228), .val (.ref vhe), .unset, .val (.int (((p1.toUInt32 >>> ((17 : Int32) &&& 31).toUInt32).toInt32) &&& (3 : Int32)))] [(.int (((p1.toUInt32 >>> ((17 : Int32) &&& 31).toUInt32).toInt32) &&& (3 : Int32)))])) _
                          refine XS.iconst X375.here hx rfl (hb hby at_42) ?_
                          show Steps p.tables e below (T375.setTop (mkF m 43 #[.val (.int p0), .val (.int p1), .val (.int v228), .val (.ref vhe), .unset, .val (.int (((p1.toUInt32 >>> ((17 : Int32) &&& 31).toUInt32).toInt32) &&& (3 : Int32)))] [(.int (1 : Int32)), (.int (((p1.toUInt32 >>> ((17 : Int32) &&& 31).toUInt32).toInt32) &&& (3 : Int32)))])) _
                          by_cases hj43_379 : (((p1.toUInt32 >>> ((17 : Int32) &&& 31).toUInt32).toInt32) &&& (3 : Int32)) = (1 : Int32)
                          · refine XS.icmpNo X375.here hx rfl (hb hby at_43) rfl (teq hj43_379).2 ?_
                            show Steps p.tables e below (T375.setTop (mkF m 46 #[.val (.int p0), .val (.int p1), .val (.int v228), .val (.ref vhe), .unset, .val (.int (((p1.toUInt32 >>> ((17 : Int32) &&& 31).toUInt32).toInt32) &&& (3 : Int32)))] [])) _
                            refine XS.bipush X375.here hx rfl (hb hby at_46) ?_
                            show Steps p.tables e below (T375.setTop (mkF m 48 #[.val (.int p0), .val (.int p1), .val (.int v228), .val (.ref vhe), .unset, .val (.int (((p1.toUInt32 >>> ((17 : Int32) &&& 31).toUInt32).toInt32) &&& (3 : Int32)))] [(.int (101 : Int32))])) _
                            refine XS.istore X375.here hx rfl (hb hby at_48) rfl (l' := #[.val (.int p0), .val (.int p1), .val (.int v228), .val (.ref vhe), .val (.int (101 : Int32)), .val (.int (((p1.toUInt32 >>> ((17 : Int32) &&& 31).toUInt32).toInt32) &&& (3 : Int32)))]) rfl ?_
                            show Steps p.tables e below (T375.setTop (mkF m 50 #[.val (.int p0), .val (.int p1), .val (.int v228), .val (.ref vhe), .val (.int (101 : Int32)), .val (.int (((p1.toUInt32 >>> ((17 : Int32) &&& 31).toUInt32).toInt32) &&& (3 : Int32)))] [])) _
                            refine XS.goto X375.here hx rfl (pc0 := 50) (pc' := 70) rfl (hb hby at_50) (by decide) (by decide) ?_
                            show Steps p.tables e below (T375.setTop (mkF m 70 #[.val (.int p0), .val (.int p1), .val (.int v228), .val (.ref vhe), .val (.int (101 : Int32)), .val (.int (((p1.toUInt32 >>> ((17 : Int32) &&& 31).toUInt32).toInt32) &&& (3 : Int32)))] [])) _
                            refine XS.goto X375.here hx rfl (pc0 := 70) (pc' := 80) rfl (hb hby at_70) (by decide) (by decide) ?_
                            show Steps p.tables e below (T375.setTop (mkF m 80 #[.val (.int p0), .val (.int p1), .val (.int v228), .val (.ref vhe), .val (.int (101 : Int32)), .val (.int (((p1.toUInt32 >>> ((17 : Int32) &&& 31).toUInt32).toInt32) &&& (3 : Int32)))] [])) _
                            simpa only [if_neg hj17_377, if_neg hj30_378, if_pos hj43_379] using kt
                          · refine XS.icmpYes X375.here hx rfl (pc0 := 43) (pc' := 53) rfl (hb hby at_43) rfl (feq hj43_379).2 (by decide) (by decide) ?_
                            show Steps p.tables e below (T375.setTop (mkF m 53 #[.val (.int p0), .val (.int p1), .val (.int v228), .val (.ref vhe), .unset, .val (.int (((p1.toUInt32 >>> ((17 : Int32) &&& 31).toUInt32).toInt32) &&& (3 : Int32)))] [])) _
                            refine XS.iload X375.here hx rfl (hb hby at_53) rfl ?_
                            show Steps p.tables e below (T375.setTop (mkF m 55 #[.val (.int p0), .val (.int p1), .val (.int v228), .val (.ref vhe), .unset, .val (.int (((p1.toUInt32 >>> ((17 : Int32) &&& 31).toUInt32).toInt32) &&& (3 : Int32)))] [(.int (((p1.toUInt32 >>> ((17 : Int32) &&& 31).toUInt32).toInt32) &&& (3 : Int32)))])) _
                            refine XS.iconst X375.here hx rfl (hb hby at_55) ?_
                            show Steps p.tables e below (T375.setTop (mkF m 56 #[.val (.int p0), .val (.int p1), .val (.int v228), .val (.ref vhe), .unset, .val (.int (((p1.toUInt32 >>> ((17 : Int32) &&& 31).toUInt32).toInt32) &&& (3 : Int32)))] [(.int (2 : Int32)), (.int (((p1.toUInt32 >>> ((17 : Int32) &&& 31).toUInt32).toInt32) &&& (3 : Int32)))])) _
                            by_cases hj56_380 : (((p1.toUInt32 >>> ((17 : Int32) &&& 31).toUInt32).toInt32) &&& (3 : Int32)) = (2 : Int32)
                            · refine XS.icmpNo X375.here hx rfl (hb hby at_56) rfl (teq hj56_380).2 ?_
                              show Steps p.tables e below (T375.setTop (mkF m 59 #[.val (.int p0), .val (.int p1), .val (.int v228), .val (.ref vhe), .unset, .val (.int (((p1.toUInt32 >>> ((17 : Int32) &&& 31).toUInt32).toInt32) &&& (3 : Int32)))] [])) _
                              refine XS.bipush X375.here hx rfl (hb hby at_59) ?_
                              show Steps p.tables e below (T375.setTop (mkF m 61 #[.val (.int p0), .val (.int p1), .val (.int v228), .val (.ref vhe), .unset, .val (.int (((p1.toUInt32 >>> ((17 : Int32) &&& 31).toUInt32).toInt32) &&& (3 : Int32)))] [(.int (118 : Int32))])) _
                              refine XS.istore X375.here hx rfl (hb hby at_61) rfl (l' := #[.val (.int p0), .val (.int p1), .val (.int v228), .val (.ref vhe), .val (.int (118 : Int32)), .val (.int (((p1.toUInt32 >>> ((17 : Int32) &&& 31).toUInt32).toInt32) &&& (3 : Int32)))]) rfl ?_
                              show Steps p.tables e below (T375.setTop (mkF m 63 #[.val (.int p0), .val (.int p1), .val (.int v228), .val (.ref vhe), .val (.int (118 : Int32)), .val (.int (((p1.toUInt32 >>> ((17 : Int32) &&& 31).toUInt32).toInt32) &&& (3 : Int32)))] [])) _
                              refine XS.goto X375.here hx rfl (pc0 := 63) (pc' := 70) rfl (hb hby at_63) (by decide) (by decide) ?_
                              show Steps p.tables e below (T375.setTop (mkF m 70 #[.val (.int p0), .val (.int p1), .val (.int v228), .val (.ref vhe), .val (.int (118 : Int32)), .val (.int (((p1.toUInt32 >>> ((17 : Int32) &&& 31).toUInt32).toInt32) &&& (3 : Int32)))] [])) _
                              refine XS.goto X375.here hx rfl (pc0 := 70) (pc' := 80) rfl (hb hby at_70) (by decide) (by decide) ?_
                              show Steps p.tables e below (T375.setTop (mkF m 80 #[.val (.int p0), .val (.int p1), .val (.int v228), .val (.ref vhe), .val (.int (118 : Int32)), .val (.int (((p1.toUInt32 >>> ((17 : Int32) &&& 31).toUInt32).toInt32) &&& (3 : Int32)))] [])) _
                              simpa only [if_neg hj17_377, if_neg hj30_378, if_neg hj43_379, if_pos hj56_380] using kt
                            · refine XS.icmpYes X375.here hx rfl (pc0 := 56) (pc' := 66) rfl (hb hby at_56) rfl (feq hj56_380).2 (by decide) (by decide) ?_
                              show Steps p.tables e below (T375.setTop (mkF m 66 #[.val (.int p0), .val (.int p1), .val (.int v228), .val (.ref vhe), .unset, .val (.int (((p1.toUInt32 >>> ((17 : Int32) &&& 31).toUInt32).toInt32) &&& (3 : Int32)))] [])) _
                              refine XS.bipush X375.here hx rfl (hb hby at_66) ?_
                              show Steps p.tables e below (T375.setTop (mkF m 68 #[.val (.int p0), .val (.int p1), .val (.int v228), .val (.ref vhe), .unset, .val (.int (((p1.toUInt32 >>> ((17 : Int32) &&& 31).toUInt32).toInt32) &&& (3 : Int32)))] [(.int (58 : Int32))])) _
                              refine XS.istore X375.here hx rfl (hb hby at_68) rfl (l' := #[.val (.int p0), .val (.int p1), .val (.int v228), .val (.ref vhe), .val (.int (58 : Int32)), .val (.int (((p1.toUInt32 >>> ((17 : Int32) &&& 31).toUInt32).toInt32) &&& (3 : Int32)))]) rfl ?_
                              show Steps p.tables e below (T375.setTop (mkF m 70 #[.val (.int p0), .val (.int p1), .val (.int v228), .val (.ref vhe), .val (.int (58 : Int32)), .val (.int (((p1.toUInt32 >>> ((17 : Int32) &&& 31).toUInt32).toInt32) &&& (3 : Int32)))] [])) _
                              refine XS.goto X375.here hx rfl (pc0 := 70) (pc' := 80) rfl (hb hby at_70) (by decide) (by decide) ?_
                              show Steps p.tables e below (T375.setTop (mkF m 80 #[.val (.int p0), .val (.int p1), .val (.int v228), .val (.ref vhe), .val (.int (58 : Int32)), .val (.int (((p1.toUInt32 >>> ((17 : Int32) &&& 31).toUInt32).toInt32) &&& (3 : Int32)))] [])) _
                              simpa only [if_neg hj17_377, if_neg hj30_378, if_neg hj43_379, if_neg hj56_380] using kt
                    obtain ⟨v382, hv382⟩ : ∃ z : Int32, z = (if (p1 &&& (65536 : Int32)) = (0 : Int32) then ((p1 &&& (65535 : Int32)).toUInt32.toUInt16.toUInt32.toInt32) else (if (((p1.toUInt32 >>> ((17 : Int32) &&& 31).toUInt32).toInt32) &&& (3 : Int32)) = (0 : Int32) then (115 : Int32) else (if (((p1.toUInt32 >>> ((17 : Int32) &&& 31).toUInt32).toInt32) &&& (3 : Int32)) = (1 : Int32) then (101 : Int32) else (if (((p1.toUInt32 >>> ((17 : Int32) &&& 31).toUInt32).toInt32) &&& (3 : Int32)) = (2 : Int32) then (118 : Int32) else (58 : Int32))))) := ⟨_, rfl⟩
                    rw [← hv382] at k381
                    obtain ⟨sl383, hsl383⟩ : ∃ z : Slot, z = (if (p1 &&& (65536 : Int32)) = (0 : Int32) then (.unset : Slot) else .val (.int (((p1.toUInt32 >>> ((17 : Int32) &&& 31).toUInt32).toInt32) &&& (3 : Int32)))) := ⟨_, rfl⟩
                    have osl383 : One sl383 := by rw [hsl383]; repeat' split; all_goals first | exact One.u | exact One.val rfl
                    rw [← hsl383] at k381
                    obtain ⟨_, _, ⟨T384, L384, kc384, nc384⟩, -, X384, ⟨Lc384, hQ384, l384, y384, z384⟩, st384⟩ := Jvm.LawKit.callS X375 hx (y := (⟨"com/example/grendel/grendel/cli/VerbTakesPinLaw", "expect", "(IC)Z"⟩ : MethodName)) hown (mvT hZ (hw _ (List.mem_of_getElem? (i := 10) rfl))) (mvT hZ (hw _ (List.mem_of_getElem? (i := 11) rfl))) (mvT hZ (hw _ (List.mem_of_getElem? (i := 3) rfl))) (mvT hZ (hw _ (List.mem_of_getElem? (i := 12) rfl))) (by decide) (backOf (W := 0) (rm2 l Z a0 hw [] v228 v382 h0 n0 ) hZ (hw _ (List.mem_of_getElem? (i := 12) rfl)) (hw _ (List.mem_of_getElem? (i := 3) rfl)) (by decide) (by decide)) (g := (mkF m 83 #[.val (.int p0), .val (.int p1), .val (.int v228), .val (.ref vhe), .val (.int v382), sl383] [(.int v382), (.int v228)])) rfl (by rw [hml]; rfl) (argsL := [(.int v228), (.int v382)]) (rest := []) (lenOf pd_1 rfl) rfl (by show 2 * 0 + _ ≤ _; exact Nat.le_of_eq rfl) (hb hby at_83) (fun _ _ => ⟨rfl, eq375, (by decide : 0 + 0 ≤ _), (by decide : 0 + 0 ≤ _)⟩)
                    dsimp only [Pt.U, Pt.locs, Pt.cells, Pt.slots] at X384 l384 y384 z384 st384 hQ384
                    rw [l384, y384, z384] at X384
                    replace X384 : Stand p l e room_1 s m #[(.int p0), (.int p1)] below meth c T384 _ 0 0 := X384
                    obtain ⟨rfl, Nq384, eq384⟩ := hQ384
                    have N384 := Fr.app N375 Nq384
                    have k385 : ∀ tg_, Steps p.tables e below (T384.setTop (mkF m 86 #[.val (.int p0), .val (.int p1), .val (.int v228), .val (.ref vhe), .val (.int v382), sl383] [(.int (own_exp v228 v382))])) tg_ → Steps p.tables e below (s₁.setTop (entryFrame m #[(.int p0), (.int p1)] maxLocals)) tg_ := by
                      intro tg_ kt
                      refine k381 tg_ ?_
                      refine XS.iloadN X375.here hx rfl (hb hby at_80) rfl ?_
                      show Steps p.tables e below (T375.setTop (mkF m 81 #[.val (.int p0), .val (.int p1), .val (.int v228), .val (.ref vhe), .val (.int v382), sl383] [(.int v228)])) _
                      refine XS.iload X375.here hx rfl (hb hby at_81) rfl ?_
                      show Steps p.tables e below (T375.setTop (mkF m 83 #[.val (.int p0), .val (.int p1), .val (.int v228), .val (.ref vhe), .val (.int v382), sl383] [(.int v382), (.int v228)])) _
                      refine st384 _ ?_
                      show Steps p.tables e below (T384.setTop (mkF m 86 #[.val (.int p0), .val (.int p1), .val (.int v228), .val (.ref vhe), .val (.int v382), sl383] [(.int (own_exp v228 v382))])) _
                      exact kt
                    obtain ⟨r386, hr386⟩ : ∃ z : Int32, z = (own_exp v228 v382) := ⟨_, rfl⟩
                    rw [← hr386] at k385
                    obtain ⟨cq387, kq387, q387a, q387b, q387c⟩ := isOf hZ eq384 E_vhe
                    obtain ⟨_, _, ⟨T387, L387, kc387, nc387⟩, -, X387, ⟨Lc387, hQ387, l387, y387, z387⟩, st387⟩ := X384.virtualBack hx (y := (⟨"com/example/grendel/grendel/cli/Verb", "takes", "(C)Z"⟩ : MethodName)) (z := (⟨"com/example/grendel/grendel/cli/Verb", "takes", "(C)Z"⟩ : MethodName)) hown (mvT hZ (hw _ (List.mem_of_getElem? (i := 13) rfl))) (mvT hZ (hw _ (List.mem_of_getElem? (i := 14) rfl))) (notFace_of_selects (args := #[]) (mvT hZ (hw _ (List.mem_of_getElem? (i := 16) rfl)))) (mvT hZ (hw _ (List.mem_of_getElem? (i := 16) rfl))) (mvT hZ (hw _ (List.mem_of_getElem? (i := 15) rfl))) (by decide) (backOf (W := 0) (rmtk_0 l Z a0 hw [] vhe v382 zc oe oev foe h0 n0 E_oe F_vhe Fv_oe Fc_oe V_oe S_cs hz) hZ (hw _ (List.mem_of_getElem? (i := 17) rfl)) (hw _ (List.mem_of_getElem? (i := 6) rfl)) (by decide) (by decide)) q387a q387c (g := (mkF m 91 #[.val (.int p0), .val (.int p1), .val (.int v228), .val (.ref vhe), .val (.int v382), .val (.int r386)] [(.int v382), (.ref vhe)])) rfl (by rw [hml]; rfl) (Steps.refl _) (argsL := [(.int v382)]) (rest := []) (lenOf pd_2 rfl) rfl (by show 2 * 0 + _ ≤ _; exact Nat.le_of_eq rfl) (hb hby at_91) (fun _ _ => ⟨rfl, eq384, (by decide : 0 + 0 ≤ _), (by decide : 0 + 0 ≤ _)⟩)
                    dsimp only [Pt.U, Pt.locs, Pt.cells, Pt.slots] at X387 l387 y387 z387 st387 hQ387
                    rw [l387, y387, z387] at X387
                    replace X387 : Stand p l e room_1 s m #[(.int p0), (.int p1)] below meth c T387 _ 0 0 := X387
                    obtain ⟨rfl, Nq387, eq387⟩ := hQ387
                    have N387 := Fr.app N384 Nq387
                    have k388 : ∀ tg_, Steps p.tables e below (T387.setTop (mkF m 94 #[.val (.int p0), .val (.int p1), .val (.int v228), .val (.ref vhe), .val (.int v382), .val (.int r386)] [(.int (own_tk_0 v382))])) tg_ → Steps p.tables e below (s₁.setTop (entryFrame m #[(.int p0), (.int p1)] maxLocals)) tg_ := by
                      intro tg_ kt
                      refine k385 tg_ ?_
                      show Steps p.tables e below (T384.setTop (mkF m 86 #[.val (.int p0), .val (.int p1), .val (.int v228), .val (.ref vhe), .val (.int v382), sl383] [(.int r386)])) _
                      refine XS.istoreS X384.here hx rfl (hb hby at_86) rfl rfl osl383 ?_
                      show Steps p.tables e below (T384.setTop (mkF m 88 #[.val (.int p0), .val (.int p1), .val (.int v228), .val (.ref vhe), .val (.int v382), .val (.int r386)] [])) _
                      refine XS.aloadN X384.here hx rfl (hb hby at_88) rfl rfl ?_
                      show Steps p.tables e below (T384.setTop (mkF m 89 #[.val (.int p0), .val (.int p1), .val (.int v228), .val (.ref vhe), .val (.int v382), .val (.int r386)] [(.ref vhe)])) _
                      refine XS.iload X384.here hx rfl (hb hby at_89) rfl ?_
                      show Steps p.tables e below (T384.setTop (mkF m 91 #[.val (.int p0), .val (.int p1), .val (.int v228), .val (.ref vhe), .val (.int v382), .val (.int r386)] [(.int v382), (.ref vhe)])) _
                      refine st387.trans ?_
                      show Steps p.tables e below (T387.setTop (mkF m 94 #[.val (.int p0), .val (.int p1), .val (.int v228), .val (.ref vhe), .val (.int v382), .val (.int r386)] [(.int (own_tk_0 v382))])) _
                      exact kt
                    obtain ⟨r389, hr389⟩ : ∃ z : Int32, z = (own_tk_0 v382) := ⟨_, rfl⟩
                    rw [← hr389] at k388
                    have hc96_390 : r389 = r386 := (by rw [hr389]; rw [hr386]; exact own_lw8 _ _ hc9_374)
                    have k391 : ∀ tg_, Steps p.tables e below (T387.setTop (mkF m 104 #[.val (.int p0), .val (.int p1), .val (.int v228), .val (.ref vhe), .val (.int v382), .val (.int r386)] [(.int (1 : Int32))])) tg_ → Steps p.tables e below (s₁.setTop (entryFrame m #[(.int p0), (.int p1)] maxLocals)) tg_ := by
                      intro tg_ kt
                      refine k388 tg_ ?_
                      show Steps p.tables e below (T387.setTop (mkF m 94 #[.val (.int p0), .val (.int p1), .val (.int v228), .val (.ref vhe), .val (.int v382), .val (.int r386)] [(.int r389)])) _
                      refine XS.iload X387.here hx rfl (hb hby at_94) rfl ?_
                      show Steps p.tables e below (T387.setTop (mkF m 96 #[.val (.int p0), .val (.int p1), .val (.int v228), .val (.ref vhe), .val (.int v382), .val (.int r386)] [(.int r386), (.int r389)])) _
                      refine XS.icmpNo X387.here hx rfl (hb hby at_96) rfl (teq hc96_390).2 ?_
                      show Steps p.tables e below (T387.setTop (mkF m 99 #[.val (.int p0), .val (.int p1), .val (.int v228), .val (.ref vhe), .val (.int v382), .val (.int r386)] [])) _
                      refine XS.iconst X387.here hx rfl (hb hby at_99) ?_
                      show Steps p.tables e below (T387.setTop (mkF m 100 #[.val (.int p0), .val (.int p1), .val (.int v228), .val (.ref vhe), .val (.int v382), .val (.int r386)] [(.int (1 : Int32))])) _
                      refine XS.goto X387.here hx rfl (pc0 := 100) (pc' := 104) rfl (hb hby at_100) (by decide) (by decide) ?_
                      show Steps p.tables e below (T387.setTop (mkF m 104 #[.val (.int p0), .val (.int p1), .val (.int v228), .val (.ref vhe), .val (.int v382), .val (.int r386)] [(.int (1 : Int32))])) _
                      exact kt
                    obtain ⟨fs, hr, hrun, hended, hW, hsame⟩ := X387.leave (v := some (.int (1 : Int32))) (fun h => by rw [Bd.returns] at h; cases h)
                    refine ⟨_, _, k391 _ (retN X387 hx (t := .boolean) Bd.returns (by simp) (hb hby at_104) hr), hrun, hended, _, _, rfl, ?_, ⟨_, rfl⟩, hW, hsame.mono (by decide) (by decide)⟩
                    show Q0 Z p0 p1 zc ol olv fol oc ocv foc od odv fod oe oev foe vls vcr vge vse vst vde vda vsy vhe vqu h0 n0 _ T387.heap _
                    rw [eq387]
                    exact ⟨rfl, N387⟩
                  · have hk9 : v228 = (9 : Int32) := (by
                        have ar392 := rng32 v228
                        have ar393 := rng32 p0
                        have ar394 : (2147483647 : Int32).toInt = 2147483647 := by decide
                        have ar395 := c_mask p0 (2147483647 : Int32) 31 (by decide) (by decide)
                        simp only [show (2 ^ 31 : Nat) = 2147483648 from by decide, Int.cast_ofNat_Int] at ar395
                        have ar396 := rng32 (p0 &&& (2147483647 : Int32))
                        have ar397 : (10 : Int32).toInt = 10 := by decide
                        first | have ar398 := (c_irem (p0 &&& (2147483647 : Int32)) (10 : Int32) 10 (by decide)).1 (by omega) | have ar398 := c_irem (p0 &&& (2147483647 : Int32)) (10 : Int32) 10 (by decide)
                        have ar399 := rng32 ((p0 &&& (2147483647 : Int32)) % (10 : Int32))
                        have ar400 := congrArg Int32.toInt hv228
                        have ar401 : (0 : Int32).toInt = 0 := by decide
                        have ar402 : ¬ (v228.toInt = (0 : Int32).toInt) := fun qq_ => hc9_230 (Int32.toInt_inj.mp qq_)
                        have ar403 : (1 : Int32).toInt = 1 := by decide
                        have ar404 : ¬ (v228.toInt = (1 : Int32).toInt) := fun qq_ => hc9_248 (Int32.toInt_inj.mp qq_)
                        have ar405 : (2 : Int32).toInt = 2 := by decide
                        have ar406 : ¬ (v228.toInt = (2 : Int32).toInt) := fun qq_ => hc9_266 (Int32.toInt_inj.mp qq_)
                        have ar407 : (3 : Int32).toInt = 3 := by decide
                        have ar408 : ¬ (v228.toInt = (3 : Int32).toInt) := fun qq_ => hc9_284 (Int32.toInt_inj.mp qq_)
                        have ar409 : (4 : Int32).toInt = 4 := by decide
                        have ar410 : ¬ (v228.toInt = (4 : Int32).toInt) := fun qq_ => hc9_302 (Int32.toInt_inj.mp qq_)
                        have ar411 : (5 : Int32).toInt = 5 := by decide
                        have ar412 : ¬ (v228.toInt = (5 : Int32).toInt) := fun qq_ => hc9_320 (Int32.toInt_inj.mp qq_)
                        have ar413 : (6 : Int32).toInt = 6 := by decide
                        have ar414 : ¬ (v228.toInt = (6 : Int32).toInt) := fun qq_ => hc9_338 (Int32.toInt_inj.mp qq_)
                        have ar415 : (7 : Int32).toInt = 7 := by decide
                        have ar416 : ¬ (v228.toInt = (7 : Int32).toInt) := fun qq_ => hc9_356 (Int32.toInt_inj.mp qq_)
                        have ar417 : (8 : Int32).toInt = 8 := by decide
                        have ar418 : ¬ (v228.toInt = (8 : Int32).toInt) := fun qq_ => hc9_374 (Int32.toInt_inj.mp qq_)
                        have ar419 : (9 : Int32).toInt = 9 := by decide
                        exact Int32.toInt_inj.mp (by omega))
                    obtain ⟨_, _, ⟨T420, L420, kc420, nc420⟩, -, X420, ⟨Lc420, hQ420, l420, y420, z420⟩, st420⟩ := Jvm.LawKit.callS X0 hx (y := (⟨"com/example/grendel/grendel/cli/VerbTakesPinLaw", "pick", "(I)Lcom/example/grendel/grendel/cli/Verb;"⟩ : MethodName)) hown (mvT hZ (hw _ (List.mem_of_getElem? (i := 1) rfl))) (mvT hZ (hw _ (List.mem_of_getElem? (i := 2) rfl))) (mvT hZ (hw _ (List.mem_of_getElem? (i := 3) rfl))) (mvT hZ (hw _ (List.mem_of_getElem? (i := 4) rfl))) (by decide) (backOf (W := 0) (rmpick9 l Z a0 hw [] v228 vqu h0 n0 S_vqu hk9) hZ (hw _ (List.mem_of_getElem? (i := 4) rfl)) (hw _ (List.mem_of_getElem? (i := 3) rfl)) (by decide) (by decide)) (g := (mkF m 9 #[.val (.int p0), .val (.int p1), .val (.int v228), .unset, .unset, .unset] [(.int v228)])) rfl (by rw [hml]; rfl) (argsL := [(.int v228)]) (rest := []) (lenOf pd_0 rfl) rfl (by show 2 * 0 + _ ≤ _; exact Nat.le_of_eq rfl) (hb hby at_9) (fun _ _ => ⟨rfl, e0, (by decide : 0 + 0 ≤ _), (by decide : 0 + 0 ≤ _)⟩)
                    dsimp only [Pt.U, Pt.locs, Pt.cells, Pt.slots] at X420 l420 y420 z420 st420 hQ420
                    rw [l420, y420, z420] at X420
                    replace X420 : Stand p l e room_1 s m #[(.int p0), (.int p1)] below meth c T420 _ 0 0 := X420
                    obtain ⟨rfl, Nq420, eq420⟩ := hQ420
                    have N420 := Fr.app N0 Nq420
                    have k421 : ∀ tg_, Steps p.tables e below (T420.setTop (mkF m 17 #[.val (.int p0), .val (.int p1), .val (.int v228), .val (.ref vqu), .unset, .unset] [(.int (p1 &&& (65536 : Int32)))])) tg_ → Steps p.tables e below (s₁.setTop (entryFrame m #[(.int p0), (.int p1)] maxLocals)) tg_ := by
                      intro tg_ kt
                      refine k229 tg_ ?_
                      refine st420 _ ?_
                      show Steps p.tables e below (T420.setTop (mkF m 12 #[.val (.int p0), .val (.int p1), .val (.int v228), .unset, .unset, .unset] [(.ref vqu)])) _
                      refine XS.astoreN X420.here hx rfl (hb hby at_12) rfl rfl (l' := #[.val (.int p0), .val (.int p1), .val (.int v228), .val (.ref vqu), .unset, .unset]) rfl ?_
                      show Steps p.tables e below (T420.setTop (mkF m 13 #[.val (.int p0), .val (.int p1), .val (.int v228), .val (.ref vqu), .unset, .unset] [])) _
                      refine XS.iloadN X420.here hx rfl (hb hby at_13) rfl ?_
                      show Steps p.tables e below (T420.setTop (mkF m 14 #[.val (.int p0), .val (.int p1), .val (.int v228), .val (.ref vqu), .unset, .unset] [(.int p1)])) _
                      refine X420.ldcInt hx hown (mvT hZ (hw _ (List.mem_of_getElem? (i := 8) rfl))) (g := (mkF m 14 #[.val (.int p0), .val (.int p1), .val (.int v228), .val (.ref vqu), .unset, .unset] [(.int p1)])) rfl (hb hby at_14) _ ?_
                      show Steps p.tables e below (T420.setTop (mkF m 16 #[.val (.int p0), .val (.int p1), .val (.int v228), .val (.ref vqu), .unset, .unset] [(.int (65536 : Int32)), (.int p1)])) _
                      refine XS.iand X420.here hx rfl (hb hby at_16) rfl ?_
                      show Steps p.tables e below (T420.setTop (mkF m 17 #[.val (.int p0), .val (.int p1), .val (.int v228), .val (.ref vqu), .unset, .unset] [(.int (p1 &&& (65536 : Int32)))])) _
                      exact kt
                    have k426 : ∀ tg_, Steps p.tables e below (T420.setTop (mkF m 80 #[.val (.int p0), .val (.int p1), .val (.int v228), .val (.ref vqu), .val (.int (if (p1 &&& (65536 : Int32)) = (0 : Int32) then ((p1 &&& (65535 : Int32)).toUInt32.toUInt16.toUInt32.toInt32) else (if (((p1.toUInt32 >>> ((17 : Int32) &&& 31).toUInt32).toInt32) &&& (3 : Int32)) = (0 : Int32) then (115 : Int32) else (if (((p1.toUInt32 >>> ((17 : Int32) &&& 31).toUInt32).toInt32) &&& (3 : Int32)) = (1 : Int32) then (101 : Int32) else (if (((p1.toUInt32 >>> ((17 : Int32) &&& 31).toUInt32).toInt32) &&& (3 : Int32)) = (2 : Int32) then (118 : Int32) else (58 : Int32)))))), (if (p1 &&& (65536 : Int32)) = (0 : Int32) then (.unset : Slot) else .val (.int (((p1.toUInt32 >>> ((17 : Int32) &&& 31).toUInt32).toInt32) &&& (3 : Int32))))] [])) tg_ → Steps p.tables e below (s₁.setTop (entryFrame m #[(.int p0), (.int p1)] maxLocals)) tg_ := by
                      intro tg_ kt
                      refine k421 tg_ ?_
                      by_cases hj17_422 : (p1 &&& (65536 : Int32)) = (0 : Int32)
                      · refine XS.ifYes X420.here hx rfl (pc0 := 17) (pc' := 73) rfl (hb hby at_17) rfl ((if0 _ _).trans (teq hj17_422).1) (by decide) (by decide) ?_
                        show Steps p.tables e below (T420.setTop (mkF m 73 #[.val (.int p0), .val (.int p1), .val (.int v228), .val (.ref vqu), .unset, .unset] [])) _
                        refine XS.iloadN X420.here hx rfl (hb hby at_73) rfl ?_
                        show Steps p.tables e below (T420.setTop (mkF m 74 #[.val (.int p0), .val (.int p1), .val (.int v228), .val (.ref vqu), .unset, .unset] [(.int p1)])) _
                        refine X420.ldcInt hx hown (mvT hZ (hw _ (List.mem_of_getElem? (i := 9) rfl))) (g := (mkF m 74 #[.val (.int p0), .val (.int p1), .val (.int v228), .val (.ref vqu), .unset, .unset] [(.int p1)])) rfl (hb hby at_74) _ ?_
                        show Steps p.tables e below (T420.setTop (mkF m 76 #[.val (.int p0), .val (.int p1), .val (.int v228), .val (.ref vqu), .unset, .unset] [(.int (65535 : Int32)), (.int p1)])) _
                        refine XS.iand X420.here hx rfl (hb hby at_76) rfl ?_
                        show Steps p.tables e below (T420.setTop (mkF m 77 #[.val (.int p0), .val (.int p1), .val (.int v228), .val (.ref vqu), .unset, .unset] [(.int (p1 &&& (65535 : Int32)))])) _
                        refine XS.i2c X420.here hx rfl (hb hby at_77) rfl ?_
                        show Steps p.tables e below (T420.setTop (mkF m 78 #[.val (.int p0), .val (.int p1), .val (.int v228), .val (.ref vqu), .unset, .unset] [(.int ((p1 &&& (65535 : Int32)).toUInt32.toUInt16.toUInt32.toInt32))])) _
                        refine XS.istore X420.here hx rfl (hb hby at_78) rfl (l' := #[.val (.int p0), .val (.int p1), .val (.int v228), .val (.ref vqu), .val (.int ((p1 &&& (65535 : Int32)).toUInt32.toUInt16.toUInt32.toInt32)), .unset]) rfl ?_
                        show Steps p.tables e below (T420.setTop (mkF m 80 #[.val (.int p0), .val (.int p1), .val (.int v228), .val (.ref vqu), .val (.int ((p1 &&& (65535 : Int32)).toUInt32.toUInt16.toUInt32.toInt32)), .unset] [])) _
                        simpa only [if_pos hj17_422] using kt
                      · refine XS.ifNo X420.here hx rfl (hb hby at_17) rfl ((if0 _ _).trans (feq hj17_422).1) ?_
                        show Steps p.tables e below (T420.setTop (mkF m 20 #[.val (.int p0), .val (.int p1), .val (.int v228), .val (.ref vqu), .unset, .unset] [])) _
                        refine XS.iloadN X420.here hx rfl (hb hby at_20) rfl ?_
                        show Steps p.tables e below (T420.setTop (mkF m 21 #[.val (.int p0), .val (.int p1), .val (.int v228), .val (.ref vqu), .unset, .unset] [(.int p1)])) _
                        refine XS.bipush X420.here hx rfl (hb hby at_21) ?_
                        show Steps p.tables e below (T420.setTop (mkF m 23 #[.val (.int p0), .val (.int p1), .val (.int v228), .val (.ref vqu), .unset, .unset] [(.int (17 : Int32)), (.int p1)])) _
                        refine XS.iushr X420.here hx rfl (hb hby at_23) rfl ?_
                        show Steps p.tables e below (T420.setTop (mkF m 24 #[.val (.int p0), .val (.int p1), .val (.int v228), .val (.ref vqu), .unset, .unset] [(.int ((p1.toUInt32 >>> ((17 : Int32) &&& 31).toUInt32).toInt32))])) _
                        refine XS.iconst X420.here hx rfl (hb hby at_24) ?_
                        show Steps p.tables e below (T420.setTop (mkF m 25 #[.val (.int p0), .val (.int p1), .val (.int v228), .val (.ref vqu), .unset, .unset] [(.int (3 : Int32)), (.int ((p1.toUInt32 >>> ((17 : Int32) &&& 31).toUInt32).toInt32))])) _
                        refine XS.iand X420.here hx rfl (hb hby at_25) rfl ?_
                        show Steps p.tables e below (T420.setTop (mkF m 26 #[.val (.int p0), .val (.int p1), .val (.int v228), .val (.ref vqu), .unset, .unset] [(.int (((p1.toUInt32 >>> ((17 : Int32) &&& 31).toUInt32).toInt32) &&& (3 : Int32)))])) _
                        refine XS.istore X420.here hx rfl (hb hby at_26) rfl (l' := #[.val (.int p0), .val (.int p1), .val (.int v228), .val (.ref vqu), .unset, .val (.int (((p1.toUInt32 >>> ((17 : Int32) &&& 31).toUInt32).toInt32) &&& (3 : Int32)))]) rfl ?_
                        show Steps p.tables e below (T420.setTop (mkF m 28 #[.val (.int p0), .val (.int p1), .val (.int v228), .val (.ref vqu), .unset, .val (.int (((p1.toUInt32 >>> ((17 : Int32) &&& 31).toUInt32).toInt32) &&& (3 : Int32)))] [])) _
                        refine XS.iload X420.here hx rfl (hb hby at_28) rfl ?_
                        show Steps p.tables e below (T420.setTop (mkF m 30 #[.val (.int p0), .val (.int p1), .val (.int v228), .val (.ref vqu), .unset, .val (.int (((p1.toUInt32 >>> ((17 : Int32) &&& 31).toUInt32).toInt32) &&& (3 : Int32)))] [(.int (((p1.toUInt32 >>> ((17 : Int32) &&& 31).toUInt32).toInt32) &&& (3 : Int32)))])) _
                        by_cases hj30_423 : (((p1.toUInt32 >>> ((17 : Int32) &&& 31).toUInt32).toInt32) &&& (3 : Int32)) = (0 : Int32)
                        · refine XS.ifNo X420.here hx rfl (hb hby at_30) rfl ((if0 _ _).trans (teq hj30_423).2) ?_
                          show Steps p.tables e below (T420.setTop (mkF m 33 #[.val (.int p0), .val (.int p1), .val (.int v228), .val (.ref vqu), .unset, .val (.int (((p1.toUInt32 >>> ((17 : Int32) &&& 31).toUInt32).toInt32) &&& (3 : Int32)))] [])) _
                          refine XS.bipush X420.here hx rfl (hb hby at_33) ?_
                          show Steps p.tables e below (T420.setTop (mkF m 35 #[.val (.int p0), .val (.int p1), .val (.int v228), .val (.ref vqu), .unset, .val (.int (((p1.toUInt32 >>> ((17 : Int32) &&& 31).toUInt32).toInt32) &&& (3 : Int32)))] [(.int (115 : Int32))])) _
                          refine XS.istore X420.here hx rfl (hb hby at_35) rfl (l' := #[.val (.int p0), .val (.int p1), .val (.int v228), .val (.ref vqu), .val (.int (115 : Int32)), .val (.int (((p1.toUInt32 >>> ((17 : Int32) &&& 31).toUInt32).toInt32) &&& (3 : Int32)))]) rfl ?_
                          show Steps p.tables e below (T420.setTop (mkF m 37 #[.val (.int p0), .val (.int p1), .val (.int v228), .val (.ref vqu), .val (.int (115 : Int32)), .val (.int (((p1.toUInt32 >>> ((17 : Int32) &&& 31).toUInt32).toInt32) &&& (3 : Int32)))] [])) _
                          refine XS.goto X420.here hx rfl (pc0 := 37) (pc' := 70) rfl (hb hby at_37) (by decide) (by decide) ?_
                          show Steps p.tables e below (T420.setTop (mkF m 70 #[.val (.int p0), .val (.int p1), .val (.int v228), .val (.ref vqu), .val (.int (115 : Int32)), .val (.int (((p1.toUInt32 >>> ((17 : Int32) &&& 31).toUInt32).toInt32) &&& (3 : Int32)))] [])) _
                          refine XS.goto X420.here hx rfl (pc0 := 70) (pc' := 80) rfl (hb hby at_70) (by decide) (by decide) ?_
                          show Steps p.tables e below (T420.setTop (mkF m 80 #[.val (.int p0), .val (.int p1), .val (.int v228), .val (.ref vqu), .val (.int (115 : Int32)), .val (.int (((p1.toUInt32 >>> ((17 : Int32) &&& 31).toUInt32).toInt32) &&& (3 : Int32)))] [])) _
                          simpa only [if_neg hj17_422, if_pos hj30_423] using kt
                        · refine XS.ifYes X420.here hx rfl (pc0 := 30) (pc' := 40) rfl (hb hby at_30) rfl ((if0 _ _).trans (feq hj30_423).2) (by decide) (by decide) ?_
                          show Steps p.tables e below (T420.setTop (mkF m 40 #[.val (.int p0), .val (.int p1), .val (.int v228), .val (.ref vqu), .unset, .val (.int (((p1.toUInt32 >>> ((17 : Int32) &&& 31).toUInt32).toInt32) &&& (3 : Int32)))] [])) _
                          refine XS.iload X420.here hx rfl (hb hby at_40) rfl ?_
                          show Steps p.tables e below (T420.setTop (mkF m 42 #[.val (.int p0), .val (.int p1), .val (.int v228), .val (.ref vqu), .unset, .val (.int (((p1.toUInt32 >>> ((17 : Int32) &&& 31).toUInt32).toInt32) &&& (3 : Int32)))] [(.int (((p1.toUInt32 >>> ((17 : Int32) &&& 31).toUInt32).toInt32) &&& (3 : Int32)))])) _
                          refine XS.iconst X420.here hx rfl (hb hby at_42) ?_
                          show Steps p.tables e below (T420.setTop (mkF m 43 #[.val (.int p0), .val (.int p1), .val (.int v228), .val (.ref vqu), .unset, .val (.int (((p1.toUInt32 >>> ((17 : Int32) &&& 31).toUInt32).toInt32) &&& (3 : Int32)))] [(.int (1 : Int32)), (.int (((p1.toUInt32 >>> ((17 : Int32) &&& 31).toUInt32).toInt32) &&& (3 : Int32)))])) _
                          by_cases hj43_424 : (((p1.toUInt32 >>> ((17 : Int32) &&& 31).toUInt32).toInt32) &&& (3 : Int32)) = (1 : Int32)
                          · refine XS.icmpNo X420.here hx rfl (hb hby at_43) rfl (teq hj43_424).2 ?_
                            show Steps p.tables e below (T420.setTop (mkF m 46 #[.val (.int p0), .val (.int p1), .val (.int v228), .val (.ref vqu), .unset, .val (.int (((p1.toUInt32 >>> ((17 : Int32) &&& 31).toUInt32).toInt32) &&& (3 : Int32)))] [])) _
                            refine XS.bipush X420.here hx rfl (hb hby at_46) ?_
                            show Steps p.tables e below (T420.setTop (mkF m 48 #[.val (.int p0), .val (.int p1), .val (.int v228), .val (.ref vqu), .unset, .val (.int (((p1.toUInt32 >>> ((17 : Int32) &&& 31).toUInt32).toInt32) &&& (3 : Int32)))] [(.int (101 : Int32))])) _
                            refine XS.istore X420.here hx rfl (hb hby at_48) rfl (l' := #[.val (.int p0), .val (.int p1), .val (.int v228), .val (.ref vqu), .val (.int (101 : Int32)), .val (.int (((p1.toUInt32 >>> ((17 : Int32) &&& 31).toUInt32).toInt32) &&& (3 : Int32)))]) rfl ?_
                            show Steps p.tables e below (T420.setTop (mkF m 50 #[.val (.int p0), .val (.int p1), .val (.int v228), .val (.ref vqu), .val (.int (101 : Int32)), .val (.int (((p1.toUInt32 >>> ((17 : Int32) &&& 31).toUInt32).toInt32) &&& (3 : Int32)))] [])) _
                            refine XS.goto X420.here hx rfl (pc0 := 50) (pc' := 70) rfl (hb hby at_50) (by decide) (by decide) ?_
                            show Steps p.tables e below (T420.setTop (mkF m 70 #[.val (.int p0), .val (.int p1), .val (.int v228), .val (.ref vqu), .val (.int (101 : Int32)), .val (.int (((p1.toUInt32 >>> ((17 : Int32) &&& 31).toUInt32).toInt32) &&& (3 : Int32)))] [])) _
                            refine XS.goto X420.here hx rfl (pc0 := 70) (pc' := 80) rfl (hb hby at_70) (by decide) (by decide) ?_
                            show Steps p.tables e below (T420.setTop (mkF m 80 #[.val (.int p0), .val (.int p1), .val (.int v228), .val (.ref vqu), .val (.int (101 : Int32)), .val (.int (((p1.toUInt32 >>> ((17 : Int32) &&& 31).toUInt32).toInt32) &&& (3 : Int32)))] [])) _
                            simpa only [if_neg hj17_422, if_neg hj30_423, if_pos hj43_424] using kt
                          · refine XS.icmpYes X420.here hx rfl (pc0 := 43) (pc' := 53) rfl (hb hby at_43) rfl (feq hj43_424).2 (by decide) (by decide) ?_
                            show Steps p.tables e below (T420.setTop (mkF m 53 #[.val (.int p0), .val (.int p1), .val (.int v228), .val (.ref vqu), .unset, .val (.int (((p1.toUInt32 >>> ((17 : Int32) &&& 31).toUInt32).toInt32) &&& (3 : Int32)))] [])) _
                            refine XS.iload X420.here hx rfl (hb hby at_53) rfl ?_
                            show Steps p.tables e below (T420.setTop (mkF m 55 #[.val (.int p0), .val (.int p1), .val (.int v228), .val (.ref vqu), .unset, .val (.int (((p1.toUInt32 >>> ((17 : Int32) &&& 31).toUInt32).toInt32) &&& (3 : Int32)))] [(.int (((p1.toUInt32 >>> ((17 : Int32) &&& 31).toUInt32).toInt32) &&& (3 : Int32)))])) _
                            refine XS.iconst X420.here hx rfl (hb hby at_55) ?_
                            show Steps p.tables e below (T420.setTop (mkF m 56 #[.val (.int p0), .val (.int p1), .val (.int v228), .val (.ref vqu), .unset, .val (.int (((p1.toUInt32 >>> ((17 : Int32) &&& 31).toUInt32).toInt32) &&& (3 : Int32)))] [(.int (2 : Int32)), (.int (((p1.toUInt32 >>> ((17 : Int32) &&& 31).toUInt32).toInt32) &&& (3 : Int32)))])) _
                            by_cases hj56_425 : (((p1.toUInt32 >>> ((17 : Int32) &&& 31).toUInt32).toInt32) &&& (3 : Int32)) = (2 : Int32)
                            · refine XS.icmpNo X420.here hx rfl (hb hby at_56) rfl (teq hj56_425).2 ?_
                              show Steps p.tables e below (T420.setTop (mkF m 59 #[.val (.int p0), .val (.int p1), .val (.int v228), .val (.ref vqu), .unset, .val (.int (((p1.toUInt32 >>> ((17 : Int32) &&& 31).toUInt32).toInt32) &&& (3 : Int32)))] [])) _
                              refine XS.bipush X420.here hx rfl (hb hby at_59) ?_
                              show Steps p.tables e below (T420.setTop (mkF m 61 #[.val (.int p0), .val (.int p1), .val (.int v228), .val (.ref vqu), .unset, .val (.int (((p1.toUInt32 >>> ((17 : Int32) &&& 31).toUInt32).toInt32) &&& (3 : Int32)))] [(.int (118 : Int32))])) _
                              refine XS.istore X420.here hx rfl (hb hby at_61) rfl (l' := #[.val (.int p0), .val (.int p1), .val (.int v228), .val (.ref vqu), .val (.int (118 : Int32)), .val (.int (((p1.toUInt32 >>> ((17 : Int32) &&& 31).toUInt32).toInt32) &&& (3 : Int32)))]) rfl ?_
                              show Steps p.tables e below (T420.setTop (mkF m 63 #[.val (.int p0), .val (.int p1), .val (.int v228), .val (.ref vqu), .val (.int (118 : Int32)), .val (.int (((p1.toUInt32 >>> ((17 : Int32) &&& 31).toUInt32).toInt32) &&& (3 : Int32)))] [])) _
                              refine XS.goto X420.here hx rfl (pc0 := 63) (pc' := 70) rfl (hb hby at_63) (by decide) (by decide) ?_
                              show Steps p.tables e below (T420.setTop (mkF m 70 #[.val (.int p0), .val (.int p1), .val (.int v228), .val (.ref vqu), .val (.int (118 : Int32)), .val (.int (((p1.toUInt32 >>> ((17 : Int32) &&& 31).toUInt32).toInt32) &&& (3 : Int32)))] [])) _
                              refine XS.goto X420.here hx rfl (pc0 := 70) (pc' := 80) rfl (hb hby at_70) (by decide) (by decide) ?_
                              show Steps p.tables e below (T420.setTop (mkF m 80 #[.val (.int p0), .val (.int p1), .val (.int v228), .val (.ref vqu), .val (.int (118 : Int32)), .val (.int (((p1.toUInt32 >>> ((17 : Int32) &&& 31).toUInt32).toInt32) &&& (3 : Int32)))] [])) _
                              simpa only [if_neg hj17_422, if_neg hj30_423, if_neg hj43_424, if_pos hj56_425] using kt
                            · refine XS.icmpYes X420.here hx rfl (pc0 := 56) (pc' := 66) rfl (hb hby at_56) rfl (feq hj56_425).2 (by decide) (by decide) ?_
                              show Steps p.tables e below (T420.setTop (mkF m 66 #[.val (.int p0), .val (.int p1), .val (.int v228), .val (.ref vqu), .unset, .val (.int (((p1.toUInt32 >>> ((17 : Int32) &&& 31).toUInt32).toInt32) &&& (3 : Int32)))] [])) _
                              refine XS.bipush X420.here hx rfl (hb hby at_66) ?_
                              show Steps p.tables e below (T420.setTop (mkF m 68 #[.val (.int p0), .val (.int p1), .val (.int v228), .val (.ref vqu), .unset, .val (.int (((p1.toUInt32 >>> ((17 : Int32) &&& 31).toUInt32).toInt32) &&& (3 : Int32)))] [(.int (58 : Int32))])) _
                              refine XS.istore X420.here hx rfl (hb hby at_68) rfl (l' := #[.val (.int p0), .val (.int p1), .val (.int v228), .val (.ref vqu), .val (.int (58 : Int32)), .val (.int (((p1.toUInt32 >>> ((17 : Int32) &&& 31).toUInt32).toInt32) &&& (3 : Int32)))]) rfl ?_
                              show Steps p.tables e below (T420.setTop (mkF m 70 #[.val (.int p0), .val (.int p1), .val (.int v228), .val (.ref vqu), .val (.int (58 : Int32)), .val (.int (((p1.toUInt32 >>> ((17 : Int32) &&& 31).toUInt32).toInt32) &&& (3 : Int32)))] [])) _
                              refine XS.goto X420.here hx rfl (pc0 := 70) (pc' := 80) rfl (hb hby at_70) (by decide) (by decide) ?_
                              show Steps p.tables e below (T420.setTop (mkF m 80 #[.val (.int p0), .val (.int p1), .val (.int v228), .val (.ref vqu), .val (.int (58 : Int32)), .val (.int (((p1.toUInt32 >>> ((17 : Int32) &&& 31).toUInt32).toInt32) &&& (3 : Int32)))] [])) _
                              simpa only [if_neg hj17_422, if_neg hj30_423, if_neg hj43_424, if_neg hj56_425] using kt
                    obtain ⟨v427, hv427⟩ : ∃ z : Int32, z = (if (p1 &&& (65536 : Int32)) = (0 : Int32) then ((p1 &&& (65535 : Int32)).toUInt32.toUInt16.toUInt32.toInt32) else (if (((p1.toUInt32 >>> ((17 : Int32) &&& 31).toUInt32).toInt32) &&& (3 : Int32)) = (0 : Int32) then (115 : Int32) else (if (((p1.toUInt32 >>> ((17 : Int32) &&& 31).toUInt32).toInt32) &&& (3 : Int32)) = (1 : Int32) then (101 : Int32) else (if (((p1.toUInt32 >>> ((17 : Int32) &&& 31).toUInt32).toInt32) &&& (3 : Int32)) = (2 : Int32) then (118 : Int32) else (58 : Int32))))) := ⟨_, rfl⟩
                    rw [← hv427] at k426
                    obtain ⟨sl428, hsl428⟩ : ∃ z : Slot, z = (if (p1 &&& (65536 : Int32)) = (0 : Int32) then (.unset : Slot) else .val (.int (((p1.toUInt32 >>> ((17 : Int32) &&& 31).toUInt32).toInt32) &&& (3 : Int32)))) := ⟨_, rfl⟩
                    have osl428 : One sl428 := by rw [hsl428]; repeat' split; all_goals first | exact One.u | exact One.val rfl
                    rw [← hsl428] at k426
                    obtain ⟨_, _, ⟨T429, L429, kc429, nc429⟩, -, X429, ⟨Lc429, hQ429, l429, y429, z429⟩, st429⟩ := Jvm.LawKit.callS X420 hx (y := (⟨"com/example/grendel/grendel/cli/VerbTakesPinLaw", "expect", "(IC)Z"⟩ : MethodName)) hown (mvT hZ (hw _ (List.mem_of_getElem? (i := 10) rfl))) (mvT hZ (hw _ (List.mem_of_getElem? (i := 11) rfl))) (mvT hZ (hw _ (List.mem_of_getElem? (i := 3) rfl))) (mvT hZ (hw _ (List.mem_of_getElem? (i := 12) rfl))) (by decide) (backOf (W := 0) (rm2 l Z a0 hw [] v228 v427 h0 n0 ) hZ (hw _ (List.mem_of_getElem? (i := 12) rfl)) (hw _ (List.mem_of_getElem? (i := 3) rfl)) (by decide) (by decide)) (g := (mkF m 83 #[.val (.int p0), .val (.int p1), .val (.int v228), .val (.ref vqu), .val (.int v427), sl428] [(.int v427), (.int v228)])) rfl (by rw [hml]; rfl) (argsL := [(.int v228), (.int v427)]) (rest := []) (lenOf pd_1 rfl) rfl (by show 2 * 0 + _ ≤ _; exact Nat.le_of_eq rfl) (hb hby at_83) (fun _ _ => ⟨rfl, eq420, (by decide : 0 + 0 ≤ _), (by decide : 0 + 0 ≤ _)⟩)
                    dsimp only [Pt.U, Pt.locs, Pt.cells, Pt.slots] at X429 l429 y429 z429 st429 hQ429
                    rw [l429, y429, z429] at X429
                    replace X429 : Stand p l e room_1 s m #[(.int p0), (.int p1)] below meth c T429 _ 0 0 := X429
                    obtain ⟨rfl, Nq429, eq429⟩ := hQ429
                    have N429 := Fr.app N420 Nq429
                    have k430 : ∀ tg_, Steps p.tables e below (T429.setTop (mkF m 86 #[.val (.int p0), .val (.int p1), .val (.int v228), .val (.ref vqu), .val (.int v427), sl428] [(.int (own_exp v228 v427))])) tg_ → Steps p.tables e below (s₁.setTop (entryFrame m #[(.int p0), (.int p1)] maxLocals)) tg_ := by
                      intro tg_ kt
                      refine k426 tg_ ?_
                      refine XS.iloadN X420.here hx rfl (hb hby at_80) rfl ?_
                      show Steps p.tables e below (T420.setTop (mkF m 81 #[.val (.int p0), .val (.int p1), .val (.int v228), .val (.ref vqu), .val (.int v427), sl428] [(.int v228)])) _
                      refine XS.iload X420.here hx rfl (hb hby at_81) rfl ?_
                      show Steps p.tables e below (T420.setTop (mkF m 83 #[.val (.int p0), .val (.int p1), .val (.int v228), .val (.ref vqu), .val (.int v427), sl428] [(.int v427), (.int v228)])) _
                      refine st429 _ ?_
                      show Steps p.tables e below (T429.setTop (mkF m 86 #[.val (.int p0), .val (.int p1), .val (.int v228), .val (.ref vqu), .val (.int v427), sl428] [(.int (own_exp v228 v427))])) _
                      exact kt
                    obtain ⟨r431, hr431⟩ : ∃ z : Int32, z = (own_exp v228 v427) := ⟨_, rfl⟩
                    rw [← hr431] at k430
                    obtain ⟨cq432, kq432, q432a, q432b, q432c⟩ := isOf hZ eq429 E_vqu
                    obtain ⟨_, _, ⟨T432, L432, kc432, nc432⟩, -, X432, ⟨Lc432, hQ432, l432, y432, z432⟩, st432⟩ := X429.virtualBack hx (y := (⟨"com/example/grendel/grendel/cli/Verb", "takes", "(C)Z"⟩ : MethodName)) (z := (⟨"com/example/grendel/grendel/cli/Verb", "takes", "(C)Z"⟩ : MethodName)) hown (mvT hZ (hw _ (List.mem_of_getElem? (i := 13) rfl))) (mvT hZ (hw _ (List.mem_of_getElem? (i := 14) rfl))) (notFace_of_selects (args := #[]) (mvT hZ (hw _ (List.mem_of_getElem? (i := 16) rfl)))) (mvT hZ (hw _ (List.mem_of_getElem? (i := 16) rfl))) (mvT hZ (hw _ (List.mem_of_getElem? (i := 15) rfl))) (by decide) (backOf (W := 0) (rmtk_0 l Z a0 hw [] vqu v427 zc oe oev foe h0 n0 E_oe F_vqu Fv_oe Fc_oe V_oe S_cs hz) hZ (hw _ (List.mem_of_getElem? (i := 17) rfl)) (hw _ (List.mem_of_getElem? (i := 6) rfl)) (by decide) (by decide)) q432a q432c (g := (mkF m 91 #[.val (.int p0), .val (.int p1), .val (.int v228), .val (.ref vqu), .val (.int v427), .val (.int r431)] [(.int v427), (.ref vqu)])) rfl (by rw [hml]; rfl) (Steps.refl _) (argsL := [(.int v427)]) (rest := []) (lenOf pd_2 rfl) rfl (by show 2 * 0 + _ ≤ _; exact Nat.le_of_eq rfl) (hb hby at_91) (fun _ _ => ⟨rfl, eq429, (by decide : 0 + 0 ≤ _), (by decide : 0 + 0 ≤ _)⟩)
                    dsimp only [Pt.U, Pt.locs, Pt.cells, Pt.slots] at X432 l432 y432 z432 st432 hQ432
                    rw [l432, y432, z432] at X432
                    replace X432 : Stand p l e room_1 s m #[(.int p0), (.int p1)] below meth c T432 _ 0 0 := X432
                    obtain ⟨rfl, Nq432, eq432⟩ := hQ432
                    have N432 := Fr.app N429 Nq432
                    have k433 : ∀ tg_, Steps p.tables e below (T432.setTop (mkF m 94 #[.val (.int p0), .val (.int p1), .val (.int v228), .val (.ref vqu), .val (.int v427), .val (.int r431)] [(.int (own_tk_0 v427))])) tg_ → Steps p.tables e below (s₁.setTop (entryFrame m #[(.int p0), (.int p1)] maxLocals)) tg_ := by
                      intro tg_ kt
                      refine k430 tg_ ?_
                      show Steps p.tables e below (T429.setTop (mkF m 86 #[.val (.int p0), .val (.int p1), .val (.int v228), .val (.ref vqu), .val (.int v427), sl428] [(.int r431)])) _
                      refine XS.istoreS X429.here hx rfl (hb hby at_86) rfl rfl osl428 ?_
                      show Steps p.tables e below (T429.setTop (mkF m 88 #[.val (.int p0), .val (.int p1), .val (.int v228), .val (.ref vqu), .val (.int v427), .val (.int r431)] [])) _
                      refine XS.aloadN X429.here hx rfl (hb hby at_88) rfl rfl ?_
                      show Steps p.tables e below (T429.setTop (mkF m 89 #[.val (.int p0), .val (.int p1), .val (.int v228), .val (.ref vqu), .val (.int v427), .val (.int r431)] [(.ref vqu)])) _
                      refine XS.iload X429.here hx rfl (hb hby at_89) rfl ?_
                      show Steps p.tables e below (T429.setTop (mkF m 91 #[.val (.int p0), .val (.int p1), .val (.int v228), .val (.ref vqu), .val (.int v427), .val (.int r431)] [(.int v427), (.ref vqu)])) _
                      refine st432.trans ?_
                      show Steps p.tables e below (T432.setTop (mkF m 94 #[.val (.int p0), .val (.int p1), .val (.int v228), .val (.ref vqu), .val (.int v427), .val (.int r431)] [(.int (own_tk_0 v427))])) _
                      exact kt
                    obtain ⟨r434, hr434⟩ : ∃ z : Int32, z = (own_tk_0 v427) := ⟨_, rfl⟩
                    rw [← hr434] at k433
                    have hc96_435 : r434 = r431 := (by rw [hr434]; rw [hr431]; exact own_lw9 _ _ hk9)
                    have k436 : ∀ tg_, Steps p.tables e below (T432.setTop (mkF m 104 #[.val (.int p0), .val (.int p1), .val (.int v228), .val (.ref vqu), .val (.int v427), .val (.int r431)] [(.int (1 : Int32))])) tg_ → Steps p.tables e below (s₁.setTop (entryFrame m #[(.int p0), (.int p1)] maxLocals)) tg_ := by
                      intro tg_ kt
                      refine k433 tg_ ?_
                      show Steps p.tables e below (T432.setTop (mkF m 94 #[.val (.int p0), .val (.int p1), .val (.int v228), .val (.ref vqu), .val (.int v427), .val (.int r431)] [(.int r434)])) _
                      refine XS.iload X432.here hx rfl (hb hby at_94) rfl ?_
                      show Steps p.tables e below (T432.setTop (mkF m 96 #[.val (.int p0), .val (.int p1), .val (.int v228), .val (.ref vqu), .val (.int v427), .val (.int r431)] [(.int r431), (.int r434)])) _
                      refine XS.icmpNo X432.here hx rfl (hb hby at_96) rfl (teq hc96_435).2 ?_
                      show Steps p.tables e below (T432.setTop (mkF m 99 #[.val (.int p0), .val (.int p1), .val (.int v228), .val (.ref vqu), .val (.int v427), .val (.int r431)] [])) _
                      refine XS.iconst X432.here hx rfl (hb hby at_99) ?_
                      show Steps p.tables e below (T432.setTop (mkF m 100 #[.val (.int p0), .val (.int p1), .val (.int v228), .val (.ref vqu), .val (.int v427), .val (.int r431)] [(.int (1 : Int32))])) _
                      refine XS.goto X432.here hx rfl (pc0 := 100) (pc' := 104) rfl (hb hby at_100) (by decide) (by decide) ?_
                      show Steps p.tables e below (T432.setTop (mkF m 104 #[.val (.int p0), .val (.int p1), .val (.int v228), .val (.ref vqu), .val (.int v427), .val (.int r431)] [(.int (1 : Int32))])) _
                      exact kt
                    obtain ⟨fs, hr, hrun, hended, hW, hsame⟩ := X432.leave (v := some (.int (1 : Int32))) (fun h => by rw [Bd.returns] at h; cases h)
                    refine ⟨_, _, k436 _ (retN X432 hx (t := .boolean) Bd.returns (by simp) (hb hby at_104) hr), hrun, hended, _, _, rfl, ?_, ⟨_, rfl⟩, hW, hsame.mono (by decide) (by decide)⟩
                    show Q0 Z p0 p1 zc ol olv fol oc ocv foc od odv fod oe oev foe vls vcr vge vse vst vde vda vsy vhe vqu h0 n0 _ T432.heap _
                    rw [eq432]
                    exact ⟨rfl, N432⟩
theorem own_bytes {args : Array Value} {s : State} {tv : Term} {k : Int32} {n : Nat} {f : Nat → Int32} (hk : k.toInt = n) (ha : (Jvm.Cond.arrayOf tv .byte).value args s none s [] = some true) (hl : (Jvm.Cond.eq (.length tv) (.int k)).value args s none s [] = some true) (he : ∀ i, i < n → (Jvm.Cond.eq (.elem tv (.int (Int32.ofNat i))) (.int (f i))).value args s none s [] = some true) : ∃ va, tv.eval args s none [] s = some (.ref va) ∧ own_AI s s.heap va .byte n f := by
  obtain ⟨w, h1, h2⟩ := Cond.eq_one (beq_iff_eq.mpr hl : (Jvm.Cond.eq (.length tv) (.int k)).holds args s none s [] = true)
  have e : w = .int k := (Option.some.inj (show some (Value.int k) = some w from h2)).symm
  subst e
  obtain ⟨va, cl, ev, hat, hw⟩ := Term.length_spec h1
  obtain ⟨cl', A⟩ := Arr.start ev ha
  have hc := (State.arrayAt?_spec hat).1
  cases hc.symm.trans A.1
  have hs : cl.slots.size < 2 ^ 31 := SBG.length_lt ev hat h1
  have hk2 : k = cl.slots.size.toInt32 := Value.int.inj hw
  have hsz : cl.slots.size = n := by have q := len_toInt hs; rw [← hk2, hk] at q; omega
  refine ⟨va, ev, by omega, cl, A, hsz, fun j hj => ?_⟩
  obtain ⟨y, g1, g2⟩ := Cond.eq_one (beq_iff_eq.mpr (he j hj) : (Jvm.Cond.eq (.elem tv (.int (Int32.ofNat j))) (.int (f j))).holds args s none s [] = true)
  have ey : y = .int (f j) := (Option.some.inj (show some (Value.int (f j)) = some y from g2)).symm
  subst ey
  have q := (elem_in g1 ev (Term.int_eval _) A.1).2
  have hj2 : (Int32.ofNat j).toInt = j := Int32.toInt_ofNat_of_lt (by omega)
  rw [(own_idx hj2).2] at q
  exact q
theorem own_same {args : Array Value} {s : State} {a b : Term} {v : Value} (h : (Jvm.Cond.eq a b).value args s none s [] = some true) (hb : b.eval args s none [] s = some v) : a.eval args s none [] s = some v := by
  obtain ⟨y, h1, h2⟩ := Cond.eq_one (beq_iff_eq.mpr h : (Jvm.Cond.eq a b).holds args s none s [] = true)
  rw [h1, ← h2, hb]
theorem own_fld {args : Array Value} {s : State} {t : Term} {x : Addr} {C n d : String} {v : Value} (ht : t.eval args s none [] s = some (.ref x)) (h : (Term.field t C n d).eval args s none [] s = some v) : Fld s s.heap x C n d v := Fld.start ((fld_at ht).symm.trans h)
set_option maxRecDepth 65536 in
set_option maxHeartbeats 40000000 in
theorem comes_1 {Post : Tables → Env → Array Value → State → Outcome → State → Prop} (hpost : ∀ tb e args s v u, (limb_1_1.after args s (.returned v) u = true ∧ limb_1_2.after args s (.returned v) u = true ∧ True) → FrameEnd s (.returned v) u (Jvm.fieldLocs frame_1_writes args s ++ Jvm.arrayLocs frame_1_arrays args s ++ Jvm.staticLocs frame_1_statics s) 0 0 → Post tb e args s (.returned v) u) :
    ArmFor flags0 classFile x code maxLocals ret World_1 tables_1 room_1 Calls_1 rest_1 Pre_1 Post := by
  intro l hfl _ _ p e ha hc hk s m args below hf hA hF happ hP
  obtain ⟨hcalls, hrest, hpre⟩ := hP
  obtain ⟨-, -, -, hnamed, -, -, -, hat⟩ := (Spec.applies_iff hf).mp happ
  obtain ⟨hg, hn⟩ := and_e (Cond.before_iff.mp (show (Jvm.Cond.and given_1 narrow_1).before args s = true from hpre))
  have hcount := (and_e hg).1
  have hgs0 := (and_e hg).2
  have hi0 := (and_e hgs0).1
  have hgs1 := (and_e hgs0).2
  have hi1 := hgs1
  obtain ⟨w0, w1, rfl⟩ : ∃ w0 w1 : Value, args = #[w0, w1] := by
    have hs : args.size = 2 := by simpa [Cond.value, given_1] using hcount
    obtain ⟨L⟩ := args
    match L, hs with
    | [w0, w1], _ => exact ⟨w0, w1, rfl⟩
  have hw := fun d (hd : d ∈ tables_1) => atoms_spec (ws := Jvm.Cond.code x code maxLocals ret :: tables_1) hat d (List.mem_cons_of_mem _ hd)
  have hfit : Fit s := fun {y c} hc i hi => by
    obtain ⟨ha, rfl⟩ := Array.getElem?_eq_some_iff.mp hc
    have q := List.all_eq_true.mp ((Array.all_eq_true_iff_forall_mem.mp hF) _ (Array.getElem_mem ha)) i (List.mem_range.mpr hi)
    simpa [Array.getElem?_eq_getElem hi] using q
  obtain ⟨hsets, hown0⟩ := atoms_of _ (rest_1_c_eq ▸ (show rest_1_c.before _ s = true from hrest))
  have hr0 := Cond.before_iff.mp hown0
  obtain ⟨i0, ei0⟩ := is_v hi0
  obtain rfl : w0 = (.int i0) := Option.some.inj ei0
  obtain ⟨i1, ei1⟩ := is_v hi1
  obtain rfl : w1 = (.int i1) := Option.some.inj ei1
  have n5 := not_v (Cond.before_iff.mp (hsets _ (List.mem_of_getElem? (i := 2) rfl)))
  obtain ⟨zc, ezc⟩ := is_v (Cond.before_iff.mp (hsets _ (List.mem_of_getElem? (i := 1) rfl)))
  have S_cs := Sta.start ezc (Or.inl (hsets _ (List.mem_of_getElem? (i := 0) rfl)))
  have hz : ¬ (zc = (0 : Int32)) := gotF (Cond.eq_ints ezc (Term.int_eval (0))) n5
  obtain ⟨a0, q0⟩ := and_e hn
  obtain ⟨a1, q1⟩ := and_e q0
  obtain ⟨a2, q2⟩ := and_e q1
  obtain ⟨a3, q3⟩ := and_e q2
  obtain ⟨a4, q4⟩ := and_e q3
  obtain ⟨a5, q5⟩ := and_e q4
  obtain ⟨a6, q6⟩ := and_e q5
  obtain ⟨a7, q7⟩ := and_e q6
  obtain ⟨a8, q8⟩ := and_e q7
  obtain ⟨a9, q9⟩ := and_e q8
  obtain ⟨a10, q10⟩ := and_e q9
  obtain ⟨a11, q11⟩ := and_e q10
  obtain ⟨a12, q12⟩ := and_e q11
  obtain ⟨a13, q13⟩ := and_e q12
  obtain ⟨a14, q14⟩ := and_e q13
  obtain ⟨a15, q15⟩ := and_e q14
  obtain ⟨a16, q16⟩ := and_e q15
  obtain ⟨a17, q17⟩ := and_e q16
  obtain ⟨a18, q18⟩ := and_e q17
  obtain ⟨a19, q19⟩ := and_e q18
  obtain ⟨a20, q20⟩ := and_e q19
  obtain ⟨a21, q21⟩ := and_e q20
  obtain ⟨a22, q22⟩ := and_e q21
  obtain ⟨a23, q23⟩ := and_e q22
  obtain ⟨a24, q24⟩ := and_e q23
  obtain ⟨a25, q25⟩ := and_e q24
  obtain ⟨a26, q26⟩ := and_e q25
  obtain ⟨a27, q27⟩ := and_e q26
  obtain ⟨a28, q28⟩ := and_e q27
  obtain ⟨a29, q29⟩ := and_e q28
  obtain ⟨a30, q30⟩ := and_e q29
  obtain ⟨a31, q31⟩ := and_e q30
  obtain ⟨a32, q32⟩ := and_e q31
  obtain ⟨a33, q33⟩ := and_e q32
  obtain ⟨a34, q34⟩ := and_e q33
  obtain ⟨a35, a36⟩ := and_e q34
  obtain ⟨vls, ev_vls⟩ := exa_v a0
  have E_vls := Exa.start ev_vls a0
  have S_vls := Sta.start ev_vls (Or.inr ⟨(hw _ (List.mem_of_getElem? (i := 6) rfl)), (hw _ (List.mem_of_getElem? (i := 7) rfl))⟩)
  obtain ⟨vst, ev_vst⟩ := exa_v a6
  have E_vst := Exa.start ev_vst a6
  have S_vst := Sta.start ev_vst (Or.inr ⟨(hw _ (List.mem_of_getElem? (i := 6) rfl)), (hw _ (List.mem_of_getElem? (i := 69) rfl))⟩)
  obtain ⟨vhe, ev_vhe⟩ := exa_v a11
  have E_vhe := Exa.start ev_vhe a11
  have S_vhe := Sta.start ev_vhe (Or.inr ⟨(hw _ (List.mem_of_getElem? (i := 6) rfl)), (hw _ (List.mem_of_getElem? (i := 71) rfl))⟩)
  obtain ⟨vda, ev_vda⟩ := exa_v a13
  have E_vda := Exa.start ev_vda a13
  have S_vda := Sta.start ev_vda (Or.inr ⟨(hw _ (List.mem_of_getElem? (i := 6) rfl)), (hw _ (List.mem_of_getElem? (i := 73) rfl))⟩)
  obtain ⟨vqu, ev_vqu⟩ := exa_v a15
  have E_vqu := Exa.start ev_vqu a15
  have S_vqu := Sta.start ev_vqu (Or.inr ⟨(hw _ (List.mem_of_getElem? (i := 6) rfl)), (hw _ (List.mem_of_getElem? (i := 75) rfl))⟩)
  obtain ⟨vge, ev_vge⟩ := exa_v a17
  have E_vge := Exa.start ev_vge a17
  have S_vge := Sta.start ev_vge (Or.inr ⟨(hw _ (List.mem_of_getElem? (i := 6) rfl)), (hw _ (List.mem_of_getElem? (i := 77) rfl))⟩)
  obtain ⟨vse, ev_vse⟩ := exa_v a19
  have E_vse := Exa.start ev_vse a19
  have S_vse := Sta.start ev_vse (Or.inr ⟨(hw _ (List.mem_of_getElem? (i := 6) rfl)), (hw _ (List.mem_of_getElem? (i := 79) rfl))⟩)
  obtain ⟨vcr, ev_vcr⟩ := exa_v a21
  have E_vcr := Exa.start ev_vcr a21
  have S_vcr := Sta.start ev_vcr (Or.inr ⟨(hw _ (List.mem_of_getElem? (i := 6) rfl)), (hw _ (List.mem_of_getElem? (i := 81) rfl))⟩)
  obtain ⟨vde, ev_vde⟩ := exa_v a26
  have E_vde := Exa.start ev_vde a26
  have S_vde := Sta.start ev_vde (Or.inr ⟨(hw _ (List.mem_of_getElem? (i := 6) rfl)), (hw _ (List.mem_of_getElem? (i := 83) rfl))⟩)
  obtain ⟨vsy, ev_vsy⟩ := exa_v a33
  have E_vsy := Exa.start ev_vsy a33
  have S_vsy := Sta.start ev_vsy (Or.inr ⟨(hw _ (List.mem_of_getElem? (i := 6) rfl)), (hw _ (List.mem_of_getElem? (i := 85) rfl))⟩)
  obtain ⟨ol, ev_ol⟩ := exa_v a1
  have E_ol := Exa.start ev_ol a1
  have F_vls := own_fld ev_vls ev_ol
  have Fc_ol := own_fldeq a2 ev_ol
  obtain ⟨olv, evv_ol, V_ol⟩ := own_bytes (n := 1) (f := (fun j => (115 : Int32))) (by decide) a3 a4 (fun i hi => match i, hi with | 0, _ => a5)
  have Fv_ol := own_fld ev_ol evv_ol
  obtain ⟨oe, ev_oe⟩ := exa_v a7
  have E_oe := Exa.start ev_oe a7
  have F_vst := own_fld ev_vst ev_oe
  have Fc_oe := own_fldeq a8 ev_oe
  obtain ⟨oev, evv_oe, V_oe⟩ := own_bytes (n := 0) (f := (fun j => (0 : Int32))) (by decide) a9 a10 (fun i hi => absurd hi (Nat.not_lt_zero _))
  have Fv_oe := own_fld ev_oe evv_oe
  obtain ⟨oc, ev_oc⟩ := exa_v a22
  have E_oc := Exa.start ev_oc a22
  have F_vcr := own_fld ev_vcr ev_oc
  have Fc_oc := own_fldeq a23 ev_oc
  obtain ⟨ocv, evv_oc, V_oc⟩ := own_bytes (n := 2) (f := (fun j => if j = 0 then (115 : Int32) else (101 : Int32))) (by decide) a24 a25 (fun i hi => match i, hi with | 0, _ => a34 | 1, _ => a35)
  have Fv_oc := own_fld ev_oc evv_oc
  obtain ⟨od, ev_od⟩ := exa_v a27
  have E_od := Exa.start ev_od a27
  have F_vde := own_fld ev_vde ev_od
  have Fc_od := own_fldeq a28 ev_od
  obtain ⟨odv, evv_od, V_od⟩ := own_bytes (n := 2) (f := (fun j => if j = 0 then (118 : Int32) else (58 : Int32))) (by decide) a29 a30 (fun i hi => match i, hi with | 0, _ => a31 | 1, _ => a32)
  have Fv_od := own_fld ev_od evv_od
  have F_vhe := own_fld ev_vhe (own_same a12 ev_oe)
  have F_vda := own_fld ev_vda (own_same a14 ev_oe)
  have F_vqu := own_fld ev_vqu (own_same a16 ev_oe)
  have F_vge := own_fld ev_vge (own_same a18 ev_ol)
  have F_vse := own_fld ev_vse (own_same a20 ev_oe)
  have F_vsy := own_fld ev_vsy (own_same a36 ev_oe)
  obtain ⟨n, o, h1, h2, h3, _, L, rfl, ⟨rfl, N⟩, hq⟩ := rm0 l s _ hw tables_1 i0 i1 zc ol olv (fun j => (115 : Int32)) oc ocv (fun j => if j = 0 then (115 : Int32) else (101 : Int32)) od odv (fun j => if j = 0 then (118 : Int32) else (58 : Int32)) oe oev (fun j => (0 : Int32)) vls vcr vge vse vst vde vda vsy vhe vqu s.heap s.heap.size (Nat.le_refl _) S_cs hz S_vls E_vls F_vls S_vcr E_vcr F_vcr S_vge E_vge F_vge S_vse E_vse F_vse S_vst E_vst F_vst S_vde E_vde F_vde S_vda E_vda F_vda S_vsy E_vsy F_vsy S_vhe E_vhe F_vhe S_vqu E_vqu F_vqu E_ol Fv_ol Fc_ol V_ol rfl E_oc Fv_oc Fc_oc V_oc rfl rfl E_od Fv_od Fc_od V_od rfl rfl E_oe Fv_oe Fc_oe V_oe p e ha hc hk s m _ below hf ((Spec.applies_iff_loose hf).mp happ).1 ⟨rfl, State.Warmed39.refl s, rfl⟩ trivial
  refine ⟨n, _, h1, h2, h3, hpost _ _ _ _ _ _ ⟨Cond.after_iff.mpr rfl, Cond.after_iff.mpr (eq_i res_at (Term.int_eval (1)) rfl), trivial⟩ ⟨hq.1, hq.2.1, (hq.2.2.sift fun y hy => Or.inr (N y hy)).mono (by decide) (by decide)⟩⟩
theorem main_1_1 : Claimed_1_1 := comes_1 fun _ _ _ _ _ _ h hF => ⟨h.1, hF⟩
theorem main_1_2 : Claimed_1_2 := comes_1 fun _ _ _ _ _ _ h hF => ⟨h.2.1, hF⟩
end Jvm.Pilot.@@N@@
namespace Jvm.Pilot.@@N@@
open Jvm Jvm.ClassFile Sem Op Lib Jvm.Free Jvm.Stand Jvm.Pilot.@@N@@.Jvm.D
/-! MADE BY PROGRAM (witnessworld.py) out of the Statement's table words and the real class files: 19 classes; the members and pool entries that the words name. The judged class is class 1, her method 1. -/
namespace start1
open Jvm.ClassFile
def u (s : String) : CpInfo := .utf8 (stringToUtf16 s)
/-- a pool by its gaps: so many unusable entries, then the entry; so many at the end -/
def gap : Nat → List CpInfo → List CpInfo
  | 0, r => r
  | n + 1, r => .unusable :: gap n r
def poolList (es : List (Nat × CpInfo)) (last : Nat) : List CpInfo := es.foldr (fun e r => gap e.1 (e.2 :: r)) (gap last [])
def pool (es : List (Nat × CpInfo)) (last : Nat) : Array CpInfo := ⟨poolList es last⟩
def fileOf (pool : Array CpInfo) (this : Nat) (attrs : Array Attribute := #[]) (ms : Array MethodInfo := #[]) (fl : Nat := 33) (sup : Nat := 0) (ifs : Array Nat := #[]) (fds : Array FieldInfo := #[]) : ClassFile where
  minorVersion := 0
  majorVersion := 65
  constantPool := pool
  accessFlags := fl
  thisClass := this
  superClass := sup
  interfaces := ifs
  fields := fds
  methods := ms
  attributes := attrs
def plain (name : String) (sup : Option ClassId) : Class where
  name := name
  kind := .ordinary
  loader := none
  accessFlags := 33
  super := sup
  interfaces := #[]
  cf := none
  fields := #[]
  methods := #[]
  instanceTypes := #[]
  staticTypes := #[]
  resolved := #[]
  callSites := []
  init := .initialized
  statics := none
  mirror := none

def pool0 : Array CpInfo := pool [(5, u "<init>"), (0, u "()V"), (1, .class_ 10), (1, u "java/lang/Object")] 113

def k0m0 : Method := { name := "<init>", desc := "()V", sig := { parameters := [], returnType := none }, accessFlags := 1, code := none }
/-- java/lang/Object -/
def k0 : Class := { plain "java/lang/Object" none with
  accessFlags := 33
  interfaces := #[]
  cf := some (fileOf pool0 8 #[] #[{ accessFlags := 1, nameIndex := 5, descriptorIndex := 6, attributes := #[] }] 33 0 #[] #[])
  fields := #[]
  methods := #[k0m0]
  instanceTypes := #[]
  staticTypes := #[]
  resolved := Array.replicate 124 none
  statics := none }

def pool1 : Array CpInfo := pool [(2, .class_ 4), (1, u "java/lang/Object"), (0, u "<init>"), (0, u "()V"), (0, .integer 2147483647), (0, .methodref 9 10), (0, .class_ 11), (0, .nameAndType 12 13), (0, u "com/example/grendel/grendel/cli/VerbTakesPinLaw"), (0, u "pick"), (0, u "(I)Lcom/example/grendel/grendel/cli/Verb;"), (0, .integer 65536), (0, .integer 65535), (0, .methodref 9 17), (0, .nameAndType 18 19), (0, u "expect"), (0, u "(IC)Z"), (0, .methodref 21 22), (0, .class_ 23), (0, .nameAndType 24 25), (0, u "com/example/grendel/grendel/cli/Verb"), (0, u "takes"), (0, u "(C)Z"), (0, .fieldref 21 27), (0, .nameAndType 28 29), (0, u "LS"), (0, u "Lcom/example/grendel/grendel/cli/Verb;"), (0, .fieldref 21 31), (0, .nameAndType 32 29), (0, u "CREATE"), (0, .fieldref 21 34), (0, .nameAndType 35 29), (0, u "GET"), (0, .fieldref 21 37), (0, .nameAndType 38 29), (0, u "SET"), (0, .fieldref 21 40), (0, .nameAndType 41 29), (0, u "STAT"), (0, .fieldref 21 43), (0, .nameAndType 44 29), (0, u "DELETE"), (0, .fieldref 21 46), (0, .nameAndType 47 29), (0, u "DELETEALL"), (0, .fieldref 21 49), (0, .nameAndType 50 29), (0, u "SYNC"), (0, .fieldref 21 52), (0, .nameAndType 53 29), (0, u "HELP"), (0, .fieldref 21 55), (0, .nameAndType 56 29), (0, u "QUIT"), (2, u "law"), (0, u "(II)Z")] 3

def k1m0 : Method := { name := "<init>", desc := "()V", sig := { parameters := [], returnType := none }, accessFlags := 1, code := none }
def k1c1 : Code := { maxStack := 2, maxLocals := 6, code := code, exceptionTable := #[], attributes := #[] }
def k1m1 : Method := { name := "law", desc := "(II)Z", sig := { parameters := [.int, .int], returnType := some .boolean }, accessFlags := 9, code := some k1c1 }
def k1c2 : Code := { maxStack := 2, maxLocals := 1, code := method_3_code, exceptionTable := #[], attributes := #[] }
def k1m2 : Method := { name := "pick", desc := "(I)Lcom/example/grendel/grendel/cli/Verb;", sig := { parameters := [.int], returnType := some (.object "com/example/grendel/grendel/cli/Verb") }, accessFlags := 10, code := some k1c2 }
def k1c3 : Code := { maxStack := 2, maxLocals := 2, code := method_4_code, exceptionTable := #[], attributes := #[] }
def k1m3 : Method := { name := "expect", desc := "(IC)Z", sig := { parameters := [.int, .char], returnType := some .boolean }, accessFlags := 10, code := some k1c3 }
/-- com/example/grendel/grendel/cli/VerbTakesPinLaw -/
def k1 : Class := { plain "com/example/grendel/grendel/cli/VerbTakesPinLaw" (some 0) with
  accessFlags := 49
  interfaces := #[]
  cf := some (fileOf pool1 9 #[] #[{ accessFlags := 1, nameIndex := 5, descriptorIndex := 6, attributes := #[] }, { accessFlags := 9, nameIndex := 59, descriptorIndex := 60, attributes := #[] }, { accessFlags := 10, nameIndex := 12, descriptorIndex := 13, attributes := #[] }, { accessFlags := 10, nameIndex := 18, descriptorIndex := 19, attributes := #[] }] 49 2 #[] #[])
  fields := #[]
  methods := #[k1m0, k1m1, k1m2, k1m3]
  instanceTypes := #[]
  staticTypes := #[]
  resolved := Array.replicate 64 none
  statics := none }

def pool2 : Array CpInfo := pool [(1, .class_ 2), (0, u "java/lang/constant/Constable"), (0, .class_ 4), (0, u "java/lang/Object")] 6

/-- java/lang/constant/Constable -/
def k2 : Class := { plain "java/lang/constant/Constable" (some 0) with
  accessFlags := 1537
  interfaces := #[]
  cf := some (fileOf pool2 1 #[] #[] 1537 3 #[] #[])
  fields := #[]
  methods := #[]
  instanceTypes := #[]
  staticTypes := #[]
  resolved := Array.replicate 11 none
  statics := none }

def pool3 : Array CpInfo := pool [(1, .class_ 2), (0, u "java/lang/Comparable"), (0, .class_ 4), (0, u "java/lang/Object")] 7

/-- java/lang/Comparable -/
def k3 : Class := { plain "java/lang/Comparable" (some 0) with
  accessFlags := 1537
  interfaces := #[]
  cf := some (fileOf pool3 1 #[] #[] 1537 3 #[] #[])
  fields := #[]
  methods := #[]
  instanceTypes := #[]
  staticTypes := #[]
  resolved := Array.replicate 12 none
  statics := none }

def pool4 : Array CpInfo := pool [(1, .class_ 2), (0, u "java/io/Serializable"), (0, .class_ 4), (0, u "java/lang/Object")] 2

/-- java/io/Serializable -/
def k4 : Class := { plain "java/io/Serializable" (some 0) with
  accessFlags := 1537
  interfaces := #[]
  cf := some (fileOf pool4 1 #[] #[] 1537 3 #[] #[])
  fields := #[]
  methods := #[]
  instanceTypes := #[]
  staticTypes := #[]
  resolved := Array.replicate 7 none
  statics := none }

def pool5 : Array CpInfo := pool [(2, .class_ 4), (1, u "java/lang/Enum"), (0, u "name"), (0, u "Ljava/lang/String;"), (2, u "ordinal"), (0, u "I"), (1, .class_ 14), (1, u "java/lang/Object"), (4, u "hash"), (86, .class_ 108), (1, u "java/lang/Enum$EnumDesc"), (2, .class_ 112), (0, u "java/lang/constant/Constable"), (0, .class_ 114), (0, u "java/lang/Comparable"), (0, .class_ 116), (0, u "java/io/Serializable")] 87

/-- java/lang/Enum -/
def k5 : Class := { plain "java/lang/Enum" (some 0) with
  accessFlags := 1057
  interfaces := #[2, 3, 4]
  cf := some (fileOf pool5 2 #[.nestMembers #[106]] #[] 1057 12 #[111, 113, 115] #[{ accessFlags := 18, nameIndex := 5, descriptorIndex := 6, attributes := #[] }, { accessFlags := 18, nameIndex := 9, descriptorIndex := 10, attributes := #[] }, { accessFlags := 2, nameIndex := 19, descriptorIndex := 10, attributes := #[] }])
  fields := #[{ name := "name", type := (.object "java/lang/String"), accessFlags := 18, slot := 0, constantValue := 0 }, { name := "ordinal", type := .int, accessFlags := 18, slot := 1, constantValue := 0 }, { name := "hash", type := .int, accessFlags := 2, slot := 2, constantValue := 0 }]
  methods := #[]
  instanceTypes := #[(.object "java/lang/String"), .int, .int]
  staticTypes := #[]
  resolved := Array.replicate 204 none
  statics := none }

def pool6 : Array CpInfo := pool [(1, .class_ 2), (0, u "com/example/grendel/grendel/cli/Verb"), (2, u "LS"), (0, u "Lcom/example/grendel/grendel/cli/Verb;"), (2, u "CREATE"), (2, u "GET"), (2, u "SET"), (2, u "STAT"), (2, u "DELETE"), (2, u "DELETEALL"), (2, u "SYNC"), (2, u "HELP"), (2, u "QUIT"), (2, u "$VALUES"), (0, u "[Lcom/example/grendel/grendel/cli/Verb;"), (6, .class_ 46), (1, u "java/lang/Enum"), (6, .fieldref 1 54), (0, .nameAndType 55 56), (0, u "options"), (0, u "Ljava/lang/String;"), (2, u "minOperands"), (0, u "I"), (2, u "maxOperands"), (2, u "synopsis"), (44, .class_ 112), (0, u "java/lang/String"), (14, .methodref 111 128), (0, .nameAndType 129 130), (0, u "indexOf"), (0, u "(I)I"), (69, u "takes"), (0, u "(C)Z")] 34

def k6c0 : Code := { maxStack := 2, maxLocals := 2, code := prog_3_method_7_code, exceptionTable := #[], attributes := #[] }
def k6m0 : Method := { name := "takes", desc := "(C)Z", sig := { parameters := [.char], returnType := some .boolean }, accessFlags := 0, code := some k6c0 }
/-- com/example/grendel/grendel/cli/Verb -/
def k6 : Class := { plain "com/example/grendel/grendel/cli/Verb" (some 5) with
  accessFlags := 16432
  interfaces := #[]
  cf := some (fileOf pool6 1 #[] #[{ accessFlags := 0, nameIndex := 200, descriptorIndex := 201, attributes := #[] }] 16432 44 #[] #[{ accessFlags := 16409, nameIndex := 5, descriptorIndex := 6, attributes := #[] }, { accessFlags := 16409, nameIndex := 9, descriptorIndex := 6, attributes := #[] }, { accessFlags := 16409, nameIndex := 12, descriptorIndex := 6, attributes := #[] }, { accessFlags := 16409, nameIndex := 15, descriptorIndex := 6, attributes := #[] }, { accessFlags := 16409, nameIndex := 18, descriptorIndex := 6, attributes := #[] }, { accessFlags := 16409, nameIndex := 21, descriptorIndex := 6, attributes := #[] }, { accessFlags := 16409, nameIndex := 24, descriptorIndex := 6, attributes := #[] }, { accessFlags := 16409, nameIndex := 27, descriptorIndex := 6, attributes := #[] }, { accessFlags := 16409, nameIndex := 30, descriptorIndex := 6, attributes := #[] }, { accessFlags := 16409, nameIndex := 33, descriptorIndex := 6, attributes := #[] }, { accessFlags := 18, nameIndex := 55, descriptorIndex := 56, attributes := #[] }, { accessFlags := 18, nameIndex := 59, descriptorIndex := 60, attributes := #[] }, { accessFlags := 18, nameIndex := 63, descriptorIndex := 60, attributes := #[] }, { accessFlags := 18, nameIndex := 66, descriptorIndex := 56, attributes := #[] }, { accessFlags := 4122, nameIndex := 36, descriptorIndex := 37, attributes := #[] }])
  fields := #[{ name := "LS", type := (.object "com/example/grendel/grendel/cli/Verb"), accessFlags := 16409, slot := 0, constantValue := 0 }, { name := "CREATE", type := (.object "com/example/grendel/grendel/cli/Verb"), accessFlags := 16409, slot := 1, constantValue := 0 }, { name := "GET", type := (.object "com/example/grendel/grendel/cli/Verb"), accessFlags := 16409, slot := 2, constantValue := 0 }, { name := "SET", type := (.object "com/example/grendel/grendel/cli/Verb"), accessFlags := 16409, slot := 3, constantValue := 0 }, { name := "STAT", type := (.object "com/example/grendel/grendel/cli/Verb"), accessFlags := 16409, slot := 4, constantValue := 0 }, { name := "DELETE", type := (.object "com/example/grendel/grendel/cli/Verb"), accessFlags := 16409, slot := 5, constantValue := 0 }, { name := "DELETEALL", type := (.object "com/example/grendel/grendel/cli/Verb"), accessFlags := 16409, slot := 6, constantValue := 0 }, { name := "SYNC", type := (.object "com/example/grendel/grendel/cli/Verb"), accessFlags := 16409, slot := 7, constantValue := 0 }, { name := "HELP", type := (.object "com/example/grendel/grendel/cli/Verb"), accessFlags := 16409, slot := 8, constantValue := 0 }, { name := "QUIT", type := (.object "com/example/grendel/grendel/cli/Verb"), accessFlags := 16409, slot := 9, constantValue := 0 }, { name := "options", type := (.object "java/lang/String"), accessFlags := 18, slot := 3, constantValue := 0 }, { name := "minOperands", type := .int, accessFlags := 18, slot := 4, constantValue := 0 }, { name := "maxOperands", type := .int, accessFlags := 18, slot := 5, constantValue := 0 }, { name := "synopsis", type := (.object "java/lang/String"), accessFlags := 18, slot := 6, constantValue := 0 }, { name := "$VALUES", type := (.array (.object "com/example/grendel/grendel/cli/Verb")), accessFlags := 4122, slot := 10, constantValue := 0 }]
  methods := #[k6m0]
  instanceTypes := #[(.object "java/lang/String"), .int, .int, (.object "java/lang/String"), .int, .int, (.object "java/lang/String")]
  staticTypes := #[(.object "com/example/grendel/grendel/cli/Verb"), (.object "com/example/grendel/grendel/cli/Verb"), (.object "com/example/grendel/grendel/cli/Verb"), (.object "com/example/grendel/grendel/cli/Verb"), (.object "com/example/grendel/grendel/cli/Verb"), (.object "com/example/grendel/grendel/cli/Verb"), (.object "com/example/grendel/grendel/cli/Verb"), (.object "com/example/grendel/grendel/cli/Verb"), (.object "com/example/grendel/grendel/cli/Verb"), (.object "com/example/grendel/grendel/cli/Verb"), (.array (.object "com/example/grendel/grendel/cli/Verb"))]
  resolved := Array.replicate 236 none
  statics := some 0 }

def pool7 : Array CpInfo := pool [(2, .class_ 4), (1, u "java/lang/CharSequence"), (42, .class_ 48), (0, u "java/lang/CharSequence$1CodePointIterator"), (10, .class_ 60), (0, u "java/lang/CharSequence$1CharIterator"), (5, .class_ 67), (0, u "java/lang/Object")] 63

/-- java/lang/CharSequence -/
def k7 : Class := { plain "java/lang/CharSequence" (some 0) with
  accessFlags := 1537
  interfaces := #[]
  cf := some (fileOf pool7 2 #[.nestMembers #[47, 59]] #[] 1537 66 #[] #[])
  fields := #[]
  methods := #[]
  instanceTypes := #[]
  staticTypes := #[]
  resolved := Array.replicate 131 none
  statics := none }

def pool8 : Array CpInfo := pool [(1, .class_ 2), (0, u "java/lang/constant/ConstantDesc"), (0, .class_ 4), (0, u "java/lang/Object")] 32

/-- java/lang/constant/ConstantDesc -/
def k8 : Class := { plain "java/lang/constant/ConstantDesc" (some 0) with
  accessFlags := 1537
  interfaces := #[]
  cf := some (fileOf pool8 1 #[] #[] 1537 3 #[] #[])
  fields := #[]
  methods := #[]
  instanceTypes := #[]
  staticTypes := #[]
  resolved := Array.replicate 37 none
  statics := none }

def pool9 : Array CpInfo := pool [(2, .class_ 4), (1, u "java/lang/Object"), (0, u "<init>"), (0, u "()V"), (2, .fieldref 10 11), (0, .class_ 12), (0, .nameAndType 13 14), (0, u "java/lang/String"), (0, u "value"), (0, u "[B"), (0, .fieldref 10 16), (0, .nameAndType 17 18), (0, u "coder"), (0, u "B"), (2, u "hash"), (0, u "I"), (2, u "hashIsZero"), (0, u "Z"), (11, .fieldref 10 39), (0, .nameAndType 40 26), (0, u "COMPACT_STRINGS"), (66, .class_ 109), (1, u "java/lang/StringLatin1"), (32, u "()Z"), (191, u "()I"), (0, .methodref 10 336), (0, .nameAndType 17 337), (0, u "()B"), (154, .methodref 10 493), (0, .nameAndType 494 142), (0, u "isLatin1"), (10, .methodref 10 506), (0, .nameAndType 507 334), (0, u "length"), (67, .class_ 576), (0, u "java/lang/CharSequence"), (22, u "CASE_INSENSITIVE_ORDER"), (0, u "Ljava/util/Comparator;"), (32, .methodref 10 634), (0, .nameAndType 635 636), (0, u "indexOf"), (0, u "(II)I"), (0, .methodref 107 638), (0, .nameAndType 635 639), (0, u "([BIII)I"), (125, u "(I)I"), (335, u "serialPersistentFields"), (0, u "[Ljava/io/ObjectStreamField;"), (0, .class_ 1104), (0, u "java/lang/String$CaseInsensitiveComparator"), (1, .class_ 1107), (0, u "java/io/Serializable"), (0, .class_ 1109), (0, u "java/lang/Comparable"), (0, .class_ 1111), (0, u "java/lang/constant/Constable"), (0, .class_ 1113), (0, u "java/lang/constant/ConstantDesc"), (2, u "serialVersionUID"), (0, u "J"), (3, u "REPL"), (0, u "C"), (2, u "LATIN1"), (1, u "UTF16")] 323

def k9m0 : Method := { name := "<init>", desc := "()V", sig := { parameters := [], returnType := none }, accessFlags := 1, code := none }
def k9c1 : Code := { maxStack := 2, maxLocals := 1, code := jdk_42_method_54_code, exceptionTable := #[], attributes := #[] }
def k9m1 : Method := { name := "length", desc := "()I", sig := { parameters := [], returnType := some .int }, accessFlags := 1, code := some k9c1 }
def k9c2 : Code := { maxStack := 3, maxLocals := 2, code := jdk_42_method_79_code, exceptionTable := #[], attributes := #[] }
def k9m2 : Method := { name := "indexOf", desc := "(I)I", sig := { parameters := [.int], returnType := some .int }, accessFlags := 1, code := some k9c2 }
def k9c3 : Code := { maxStack := 4, maxLocals := 3, code := jdk_42_method_80_code, exceptionTable := #[], attributes := #[] }
def k9m3 : Method := { name := "indexOf", desc := "(II)I", sig := { parameters := [.int, .int], returnType := some .int }, accessFlags := 1, code := some k9c3 }
def k9c4 : Code := { maxStack := 1, maxLocals := 1, code := jdk_42_method_152_code, exceptionTable := #[], attributes := #[] }
def k9m4 : Method := { name := "coder", desc := "()B", sig := { parameters := [], returnType := some .byte }, accessFlags := 0, code := some k9c4 }
def k9c5 : Code := { maxStack := 1, maxLocals := 1, code := jdk_42_method_154_code, exceptionTable := #[], attributes := #[] }
def k9m5 : Method := { name := "isLatin1", desc := "()Z", sig := { parameters := [], returnType := some .boolean }, accessFlags := 0, code := some k9c5 }
/-- java/lang/String -/
def k9 : Class := { plain "java/lang/String" (some 0) with
  accessFlags := 49
  interfaces := #[4, 3, 7, 2, 8]
  cf := some (fileOf pool9 10 #[.nestMembers #[1103]] #[{ accessFlags := 1, nameIndex := 5, descriptorIndex := 6, attributes := #[] }, { accessFlags := 1, nameIndex := 507, descriptorIndex := 334, attributes := #[] }, { accessFlags := 1, nameIndex := 635, descriptorIndex := 765, attributes := #[] }, { accessFlags := 1, nameIndex := 635, descriptorIndex := 636, attributes := #[] }, { accessFlags := 0, nameIndex := 17, descriptorIndex := 337, attributes := #[] }, { accessFlags := 0, nameIndex := 494, descriptorIndex := 142, attributes := #[] }] 49 2 #[1106, 1108, 575, 1110, 1112] #[{ accessFlags := 18, nameIndex := 13, descriptorIndex := 14, attributes := #[] }, { accessFlags := 18, nameIndex := 17, descriptorIndex := 18, attributes := #[] }, { accessFlags := 2, nameIndex := 21, descriptorIndex := 22, attributes := #[] }, { accessFlags := 2, nameIndex := 25, descriptorIndex := 26, attributes := #[] }, { accessFlags := 26, nameIndex := 1116, descriptorIndex := 1117, attributes := #[] }, { accessFlags := 24, nameIndex := 40, descriptorIndex := 26, attributes := #[] }, { accessFlags := 26, nameIndex := 1101, descriptorIndex := 1102, attributes := #[] }, { accessFlags := 26, nameIndex := 1121, descriptorIndex := 1122, attributes := #[] }, { accessFlags := 25, nameIndex := 599, descriptorIndex := 600, attributes := #[] }, { accessFlags := 24, nameIndex := 1125, descriptorIndex := 18, attributes := #[] }, { accessFlags := 24, nameIndex := 1127, descriptorIndex := 18, attributes := #[] }])
  fields := #[{ name := "value", type := (.array .byte), accessFlags := 18, slot := 0, constantValue := 0 }, { name := "coder", type := .byte, accessFlags := 18, slot := 1, constantValue := 0 }, { name := "hash", type := .int, accessFlags := 2, slot := 2, constantValue := 0 }, { name := "hashIsZero", type := .boolean, accessFlags := 2, slot := 3, constantValue := 0 }, { name := "serialVersionUID", type := .long, accessFlags := 26, slot := 0, constantValue := 0 }, { name := "COMPACT_STRINGS", type := .boolean, accessFlags := 24, slot := 1, constantValue := 0 }, { name := "serialPersistentFields", type := (.array (.object "java/io/ObjectStreamField")), accessFlags := 26, slot := 2, constantValue := 0 }, { name := "REPL", type := .char, accessFlags := 26, slot := 3, constantValue := 0 }, { name := "CASE_INSENSITIVE_ORDER", type := (.object "java/util/Comparator"), accessFlags := 25, slot := 4, constantValue := 0 }, { name := "LATIN1", type := .byte, accessFlags := 24, slot := 5, constantValue := 0 }, { name := "UTF16", type := .byte, accessFlags := 24, slot := 6, constantValue := 0 }]
  methods := #[k9m0, k9m1, k9m2, k9m3, k9m4, k9m5]
  instanceTypes := #[(.array .byte), .byte, .int, .boolean]
  staticTypes := #[.long, .boolean, (.array (.object "java/io/ObjectStreamField")), .char, (.object "java/util/Comparator"), .byte, .byte]
  resolved := Array.replicate 1451 none
  statics := some 1 }

def pool10 : Array CpInfo := pool [(4, .class_ 6), (1, u "java/lang/Object"), (0, u "<init>"), (0, u "()V"), (5, .class_ 16), (1, u "java/lang/StringLatin1"), (21, .methodref 39 40), (0, .class_ 41), (0, .nameAndType 42 43), (0, u "java/lang/Math"), (0, u "min"), (0, u "(II)I"), (44, .methodref 14 89), (0, .nameAndType 90 91), (0, u "canEncode"), (0, u "(I)Z"), (0, .methodref 39 93), (0, .nameAndType 94 43), (0, u "max"), (0, .methodref 14 96), (0, .nameAndType 97 98), (0, u "indexOfChar"), (0, u "([BIII)I"), (2, u "indexOf"), (19, u "$assertionsDisabled"), (0, u "Z"), (98, .class_ 223), (1, u "java/lang/StringLatin1$LinesSpliterator"), (166, .class_ 391), (0, u "java/lang/StringLatin1$CharsSpliterator")] 3

def k10m0 : Method := { name := "<init>", desc := "()V", sig := { parameters := [], returnType := none }, accessFlags := 0, code := none }
def k10c1 : Code := { maxStack := 2, maxLocals := 1, code := jdk_43_method_4_code, exceptionTable := #[], attributes := #[] }
def k10m1 : Method := { name := "canEncode", desc := "(I)Z", sig := { parameters := [.int], returnType := some .boolean }, accessFlags := 9, code := some k10c1 }
def k10c2 : Code := { maxStack := 4, maxLocals := 4, code := jdk_43_method_22_code, exceptionTable := #[], attributes := #[] }
def k10m2 : Method := { name := "indexOf", desc := "([BIII)I", sig := { parameters := [(.array .byte), .int, .int, .int], returnType := some .int }, accessFlags := 9, code := some k10c2 }
def k10c3 : Code := { maxStack := 2, maxLocals := 6, code := jdk_43_method_23_code, exceptionTable := #[], attributes := #[] }
def k10m3 : Method := { name := "indexOfChar", desc := "([BIII)I", sig := { parameters := [(.array .byte), .int, .int, .int], returnType := some .int }, accessFlags := 10, code := some k10c3 }
/-- java/lang/StringLatin1 -/
def k10 : Class := { plain "java/lang/StringLatin1" (some 0) with
  accessFlags := 48
  interfaces := #[]
  cf := some (fileOf pool10 14 #[.nestMembers #[390, 221]] #[{ accessFlags := 0, nameIndex := 7, descriptorIndex := 8, attributes := #[] }, { accessFlags := 9, nameIndex := 90, descriptorIndex := 91, attributes := #[] }, { accessFlags := 9, nameIndex := 101, descriptorIndex := 98, attributes := #[] }, { accessFlags := 10, nameIndex := 97, descriptorIndex := 98, attributes := #[] }] 48 4 #[] #[{ accessFlags := 4120, nameIndex := 121, descriptorIndex := 122, attributes := #[] }])
  fields := #[{ name := "$assertionsDisabled", type := .boolean, accessFlags := 4120, slot := 0, constantValue := 0 }]
  methods := #[k10m0, k10m1, k10m2, k10m3]
  instanceTypes := #[]
  staticTypes := #[.boolean]
  resolved := Array.replicate 395 none
  statics := none }

def pool11 : Array CpInfo := pool [(1, .class_ 2), (0, u "java/lang/Math"), (1, .class_ 6), (1, u "java/lang/Object"), (0, u "<init>"), (0, u "()V"), (89, .class_ 100), (1, u "java/lang/Math$RandomNumberGeneratorHolder"), (71, u "negativeZeroFloatBits"), (0, u "J"), (2, u "negativeZeroDoubleBits"), (21, u "max"), (2, u "min"), (43, u "$assertionsDisabled"), (0, u "Z"), (88, u "(II)I"), (2, u "twoToTheDoubleScaleDown"), (0, u "D"), (4, u "twoToTheDoubleScaleUp"), (9, u "E"), (3, u "PI"), (2, u "TAU"), (2, u "DEGREES_TO_RADIANS"), (0, u "RADIANS_TO_DEGREES")] 94

def k11m0 : Method := { name := "<init>", desc := "()V", sig := { parameters := [], returnType := none }, accessFlags := 2, code := none }
def k11c1 : Code := { maxStack := 2, maxLocals := 2, code := jdk_29_method_65_code, exceptionTable := #[], attributes := #[] }
def k11m1 : Method := { name := "max", desc := "(II)I", sig := { parameters := [.int, .int], returnType := some .int }, accessFlags := 9, code := some k11c1 }
def k11c2 : Code := { maxStack := 2, maxLocals := 2, code := jdk_29_method_69_code, exceptionTable := #[], attributes := #[] }
def k11m2 : Method := { name := "min", desc := "(II)I", sig := { parameters := [.int, .int], returnType := some .int }, accessFlags := 9, code := some k11c2 }
/-- java/lang/Math -/
def k11 : Class := { plain "java/lang/Math" (some 0) with
  accessFlags := 49
  interfaces := #[]
  cf := some (fileOf pool11 1 #[.nestMembers #[98]] #[{ accessFlags := 2, nameIndex := 7, descriptorIndex := 8, attributes := #[] }, { accessFlags := 9, nameIndex := 198, descriptorIndex := 335, attributes := #[] }, { accessFlags := 9, nameIndex := 201, descriptorIndex := 335, attributes := #[] }] 49 4 #[] #[{ accessFlags := 25, nameIndex := 354, descriptorIndex := 339, attributes := #[] }, { accessFlags := 25, nameIndex := 358, descriptorIndex := 339, attributes := #[] }, { accessFlags := 25, nameIndex := 361, descriptorIndex := 339, attributes := #[] }, { accessFlags := 26, nameIndex := 364, descriptorIndex := 339, attributes := #[] }, { accessFlags := 26, nameIndex := 365, descriptorIndex := 339, attributes := #[] }, { accessFlags := 26, nameIndex := 172, descriptorIndex := 173, attributes := #[] }, { accessFlags := 26, nameIndex := 176, descriptorIndex := 173, attributes := #[] }, { accessFlags := 8, nameIndex := 344, descriptorIndex := 339, attributes := #[] }, { accessFlags := 8, nameIndex := 338, descriptorIndex := 339, attributes := #[] }, { accessFlags := 4120, nameIndex := 245, descriptorIndex := 246, attributes := #[] }])
  fields := #[{ name := "E", type := .double, accessFlags := 25, slot := 0, constantValue := 0 }, { name := "PI", type := .double, accessFlags := 25, slot := 1, constantValue := 0 }, { name := "TAU", type := .double, accessFlags := 25, slot := 2, constantValue := 0 }, { name := "DEGREES_TO_RADIANS", type := .double, accessFlags := 26, slot := 3, constantValue := 0 }, { name := "RADIANS_TO_DEGREES", type := .double, accessFlags := 26, slot := 4, constantValue := 0 }, { name := "negativeZeroFloatBits", type := .long, accessFlags := 26, slot := 5, constantValue := 0 }, { name := "negativeZeroDoubleBits", type := .long, accessFlags := 26, slot := 6, constantValue := 0 }, { name := "twoToTheDoubleScaleUp", type := .double, accessFlags := 8, slot := 7, constantValue := 0 }, { name := "twoToTheDoubleScaleDown", type := .double, accessFlags := 8, slot := 8, constantValue := 0 }, { name := "$assertionsDisabled", type := .boolean, accessFlags := 4120, slot := 9, constantValue := 0 }]
  methods := #[k11m0, k11m1, k11m2]
  instanceTypes := #[]
  staticTypes := #[.double, .double, .double, .double, .double, .long, .long, .double, .double, .boolean]
  resolved := Array.replicate 460 none
  statics := none }

def pool12 : Array CpInfo := pool [(2, .class_ 4), (1, u "java/lang/Object"), (0, u "<init>"), (0, u "()V"), (17, .class_ 26), (1, u "jdk/internal/util/Preconditions"), (28, .class_ 56), (0, u "jdk/internal/util/Preconditions$4"), (57, .class_ 115), (0, u "jdk/internal/util/Preconditions$1"), (7, u "SIOOBE_FORMATTER"), (0, u "Ljava/util/function/BiFunction;"), (0, .class_ 126), (0, u "jdk/internal/util/Preconditions$2"), (3, u "AIOOBE_FORMATTER"), (0, .class_ 132), (0, u "jdk/internal/util/Preconditions$3"), (3, u "IOOBE_FORMATTER")] 57

def k12m0 : Method := { name := "<init>", desc := "()V", sig := { parameters := [], returnType := none }, accessFlags := 1, code := none }
/-- jdk/internal/util/Preconditions -/
def k12 : Class := { plain "jdk/internal/util/Preconditions" (some 0) with
  accessFlags := 33
  interfaces := #[]
  cf := some (fileOf pool12 24 #[.nestMembers #[55, 131, 125, 114]] #[{ accessFlags := 1, nameIndex := 5, descriptorIndex := 6, attributes := #[] }] 33 2 #[] #[{ accessFlags := 25, nameIndex := 123, descriptorIndex := 124, attributes := #[] }, { accessFlags := 25, nameIndex := 130, descriptorIndex := 124, attributes := #[] }, { accessFlags := 25, nameIndex := 136, descriptorIndex := 124, attributes := #[] }])
  fields := #[{ name := "SIOOBE_FORMATTER", type := (.object "java/util/function/BiFunction"), accessFlags := 25, slot := 0, constantValue := 0 }, { name := "AIOOBE_FORMATTER", type := (.object "java/util/function/BiFunction"), accessFlags := 25, slot := 1, constantValue := 0 }, { name := "IOOBE_FORMATTER", type := (.object "java/util/function/BiFunction"), accessFlags := 25, slot := 2, constantValue := 0 }]
  methods := #[k12m0]
  instanceTypes := #[]
  staticTypes := #[(.object "java/util/function/BiFunction"), (.object "java/util/function/BiFunction"), (.object "java/util/function/BiFunction")]
  resolved := Array.replicate 194 none
  statics := some 2 }

def pool13 : Array CpInfo := pool [(9, u "<init>"), (6, .class_ 18), (1, u "java/lang/Object"), (0, u "()V"), (1, .class_ 23), (1, u "jdk/internal/util/ArraysSupport"), (0, u "LOG2_ARRAY_LONG_INDEX_SCALE"), (0, u "I"), (2, u "U"), (0, u "Ljdk/internal/misc/Unsafe;"), (8, u "BIG_ENDIAN"), (0, u "Z"), (8, u "LOG2_BYTE_BIT_SIZE"), (4, u "LOG2_ARRAY_INT_INDEX_SCALE"), (54, u "JLA"), (0, u "Ljdk/internal/access/JavaLangAccess;"), (11, u "LOG2_ARRAY_BOOLEAN_INDEX_SCALE"), (9, u "LOG2_ARRAY_BYTE_INDEX_SCALE"), (5, u "LOG2_ARRAY_CHAR_INDEX_SCALE"), (5, u "LOG2_ARRAY_SHORT_INDEX_SCALE"), (18, u "LOG2_ARRAY_FLOAT_INDEX_SCALE"), (24, u "LOG2_ARRAY_DOUBLE_INDEX_SCALE"), (89, u "T_BOOLEAN"), (2, u "T_CHAR"), (1, u "T_FLOAT"), (1, u "T_DOUBLE"), (1, u "T_BYTE"), (1, u "T_SHORT"), (1, u "T_INT"), (1, u "T_LONG"), (1, u "SOFT_MAX_ARRAY_LENGTH")] 83

def k13m0 : Method := { name := "<init>", desc := "()V", sig := { parameters := [], returnType := none }, accessFlags := 2, code := none }
/-- jdk/internal/util/ArraysSupport -/
def k13 : Class := { plain "jdk/internal/util/ArraysSupport" (some 0) with
  accessFlags := 33
  interfaces := #[]
  cf := some (fileOf pool13 21 #[] #[{ accessFlags := 2, nameIndex := 9, descriptorIndex := 19, attributes := #[] }] 33 16 #[] #[{ accessFlags := 24, nameIndex := 28, descriptorIndex := 29, attributes := #[] }, { accessFlags := 26, nameIndex := 38, descriptorIndex := 39, attributes := #[] }, { accessFlags := 25, nameIndex := 121, descriptorIndex := 25, attributes := #[] }, { accessFlags := 25, nameIndex := 131, descriptorIndex := 25, attributes := #[] }, { accessFlags := 25, nameIndex := 137, descriptorIndex := 25, attributes := #[] }, { accessFlags := 25, nameIndex := 143, descriptorIndex := 25, attributes := #[] }, { accessFlags := 25, nameIndex := 53, descriptorIndex := 25, attributes := #[] }, { accessFlags := 25, nameIndex := 24, descriptorIndex := 25, attributes := #[] }, { accessFlags := 25, nameIndex := 162, descriptorIndex := 25, attributes := #[] }, { accessFlags := 25, nameIndex := 187, descriptorIndex := 25, attributes := #[] }, { accessFlags := 26, nameIndex := 48, descriptorIndex := 25, attributes := #[] }, { accessFlags := 25, nameIndex := 277, descriptorIndex := 25, attributes := #[] }, { accessFlags := 25, nameIndex := 280, descriptorIndex := 25, attributes := #[] }, { accessFlags := 25, nameIndex := 282, descriptorIndex := 25, attributes := #[] }, { accessFlags := 25, nameIndex := 284, descriptorIndex := 25, attributes := #[] }, { accessFlags := 25, nameIndex := 286, descriptorIndex := 25, attributes := #[] }, { accessFlags := 25, nameIndex := 288, descriptorIndex := 25, attributes := #[] }, { accessFlags := 25, nameIndex := 290, descriptorIndex := 25, attributes := #[] }, { accessFlags := 25, nameIndex := 292, descriptorIndex := 25, attributes := #[] }, { accessFlags := 26, nameIndex := 108, descriptorIndex := 109, attributes := #[] }, { accessFlags := 25, nameIndex := 294, descriptorIndex := 25, attributes := #[] }])
  fields := #[{ name := "U", type := (.object "jdk/internal/misc/Unsafe"), accessFlags := 24, slot := 0, constantValue := 0 }, { name := "BIG_ENDIAN", type := .boolean, accessFlags := 26, slot := 1, constantValue := 0 }, { name := "LOG2_ARRAY_BOOLEAN_INDEX_SCALE", type := .int, accessFlags := 25, slot := 2, constantValue := 0 }, { name := "LOG2_ARRAY_BYTE_INDEX_SCALE", type := .int, accessFlags := 25, slot := 3, constantValue := 0 }, { name := "LOG2_ARRAY_CHAR_INDEX_SCALE", type := .int, accessFlags := 25, slot := 4, constantValue := 0 }, { name := "LOG2_ARRAY_SHORT_INDEX_SCALE", type := .int, accessFlags := 25, slot := 5, constantValue := 0 }, { name := "LOG2_ARRAY_INT_INDEX_SCALE", type := .int, accessFlags := 25, slot := 6, constantValue := 0 }, { name := "LOG2_ARRAY_LONG_INDEX_SCALE", type := .int, accessFlags := 25, slot := 7, constantValue := 0 }, { name := "LOG2_ARRAY_FLOAT_INDEX_SCALE", type := .int, accessFlags := 25, slot := 8, constantValue := 0 }, { name := "LOG2_ARRAY_DOUBLE_INDEX_SCALE", type := .int, accessFlags := 25, slot := 9, constantValue := 0 }, { name := "LOG2_BYTE_BIT_SIZE", type := .int, accessFlags := 26, slot := 10, constantValue := 0 }, { name := "T_BOOLEAN", type := .int, accessFlags := 25, slot := 11, constantValue := 0 }, { name := "T_CHAR", type := .int, accessFlags := 25, slot := 12, constantValue := 0 }, { name := "T_FLOAT", type := .int, accessFlags := 25, slot := 13, constantValue := 0 }, { name := "T_DOUBLE", type := .int, accessFlags := 25, slot := 14, constantValue := 0 }, { name := "T_BYTE", type := .int, accessFlags := 25, slot := 15, constantValue := 0 }, { name := "T_SHORT", type := .int, accessFlags := 25, slot := 16, constantValue := 0 }, { name := "T_INT", type := .int, accessFlags := 25, slot := 17, constantValue := 0 }, { name := "T_LONG", type := .int, accessFlags := 25, slot := 18, constantValue := 0 }, { name := "JLA", type := (.object "jdk/internal/access/JavaLangAccess"), accessFlags := 26, slot := 19, constantValue := 0 }, { name := "SOFT_MAX_ARRAY_LENGTH", type := .int, accessFlags := 25, slot := 20, constantValue := 0 }]
  methods := #[k13m0]
  instanceTypes := #[]
  staticTypes := #[(.object "jdk/internal/misc/Unsafe"), .boolean, .int, .int, .int, .int, .int, .int, .int, .int, .int, .int, .int, .int, .int, .int, .int, .int, .int, (.object "jdk/internal/access/JavaLangAccess"), .int]
  resolved := Array.replicate 378 none
  statics := none }

def pool14 : Array CpInfo := pool [(1, u "java/lang/Cloneable"), (0, .class_ 1), (0, u "java/lang/Object"), (0, .class_ 3)] 3

/-- java/lang/Cloneable -/
def k14 : Class := { plain "java/lang/Cloneable" (some 0) with
  accessFlags := 1537
  interfaces := #[]
  cf := some (fileOf pool14 2 #[] #[] 1537 4 #[] #[])
  fields := #[]
  methods := #[]
  instanceTypes := #[]
  staticTypes := #[]
  resolved := Array.replicate 8 none
  statics := none }

/-- the primitive byte -/
def k15 : Class := { plain "byte" none with kind := .primitive 'B', accessFlags := 0x411 }
/-- [B -/
def k16 : Class := { plain "[B" (some 0) with kind := .array 15 .byte, interfaces := #[14, 4], accessFlags := 1041 }

/-- the primitive int -/
def k17 : Class := { plain "int" none with kind := .primitive 'I', accessFlags := 0x411 }
/-- [I -/
def k18 : Class := { plain "[I" (some 0) with kind := .array 17 .int, interfaces := #[14, 4], accessFlags := 1041 }

def heap : Heap := #[{ cls := 6, slots := #[.ref 11, .ref 12, .ref 13, .ref 14, .ref 15, .ref 16, .ref 17, .ref 18, .ref 19, .ref 20, .null], vm := .statics 6 },
  { cls := 9, slots := #[.long 0, .int 1, .null, .int 0, .null, .int 0, .int 0], vm := .statics 9 },
  { cls := 12, slots := #[.null, .null, .null], vm := .statics 12 },
  { cls := 16, slots := #[.int 115], vm := .none },
  { cls := 16, slots := #[.int 115, .int 101], vm := .none },
  { cls := 16, slots := #[.int 118, .int 58], vm := .none },
  { cls := 16, slots := #[], vm := .none },
  { cls := 9, slots := #[.ref 3, .int 0, .int 0, .int 0], vm := .none },
  { cls := 9, slots := #[.ref 4, .int 0, .int 0, .int 0], vm := .none },
  { cls := 9, slots := #[.ref 5, .int 0, .int 0, .int 0], vm := .none },
  { cls := 9, slots := #[.ref 6, .int 0, .int 0, .int 0], vm := .none },
  { cls := 6, slots := #[.null, .int 0, .int 0, .ref 7, .int 0, .int 0, .null], vm := .none },
  { cls := 6, slots := #[.null, .int 1, .int 0, .ref 8, .int 0, .int 0, .null], vm := .none },
  { cls := 6, slots := #[.null, .int 2, .int 0, .ref 7, .int 0, .int 0, .null], vm := .none },
  { cls := 6, slots := #[.null, .int 3, .int 0, .ref 10, .int 0, .int 0, .null], vm := .none },
  { cls := 6, slots := #[.null, .int 4, .int 0, .ref 10, .int 0, .int 0, .null], vm := .none },
  { cls := 6, slots := #[.null, .int 5, .int 0, .ref 9, .int 0, .int 0, .null], vm := .none },
  { cls := 6, slots := #[.null, .int 6, .int 0, .ref 10, .int 0, .int 0, .null], vm := .none },
  { cls := 6, slots := #[.null, .int 7, .int 0, .ref 10, .int 0, .int 0, .null], vm := .none },
  { cls := 6, slots := #[.null, .int 8, .int 0, .ref 10, .int 0, .int 0, .null], vm := .none },
  { cls := 6, slots := #[.null, .int 9, .int 0, .ref 10, .int 0, .int 0, .null], vm := .none }]
def classes : Array Class := #[k0, k1, k2, k3, k4, k5, k6, k7, k8, k9, k10, k11, k12, k13, k14, k15, k16, k17, k18]
def interned : List (Array UInt16 × Addr) := []
def slotsUsed : Nat := 112
def theMethod : MethodId := ⟨1, 1⟩
def args0 : Array Value := #[.int 5, .int 7]
def aboutOver (below : List Frame) : State where
  vm := { classes := classes, interned := interned.toArray }
  heap := heap
  slotsUsed := slotsUsed
  threads := #[{ frames := .invoking theMethod args0 :: below }]
def below0 : List Frame := [.native { method := ⟨0, 0⟩, args := #[] }]
def about1 : State := aboutOver below0
def p0 : Program := .bare "" "" ""
def e0 : Env := launch0.env 0 0 0
theorem w_frames : about1.frames = Frame.invoking theMethod args0 :: below0 := rfl
set_option maxRecDepth 65536 in
theorem w_args : argsFit about1.vm theMethod args0 = true := by decide +kernel
set_option maxRecDepth 65536 in
theorem w_heap : heapFits about1 = true := by decide +kernel
set_option maxRecDepth 65536 in
theorem w_runnable : about1.curStatus? = some .runnable := by decide +kernel
set_option maxRecDepth 65536 in
theorem w_alone : about1.alone = true := by decide +kernel
set_option maxRecDepth 65536 in
theorem w_named : about1.methodNamed? x = some theMethod := by decide +kernel
set_option maxRecDepth 65536 in
theorem w_hears : about1.hears theMethod below0 = true := by decide +kernel
set_option maxRecDepth 65536 in
theorem w_ripe : about1.ripe theMethod args0 below0 = true := by decide +kernel
theorem w_running : about1.status = .running := rfl
set_option maxRecDepth 65536 in
theorem w_room : about1.hasRoom e0.platform room_1 = true :=
  launch0.hasRoom_least _ room_1 (by decide +kernel) (by decide +kernel) (by decide +kernel) (by decide +kernel) (by decide +kernel) (by decide +kernel)
theorem allAtoms_all (ts : List Jvm.Cond) (a : Array Jvm.Value) (st : Jvm.State) : (allAtoms ts).before a st = ts.all (fun c => c.before a st) := by
  induction ts with
  | nil => rfl
  | cons c t ih =>
    show (Jvm.Cond.and c (allAtoms t)).before a st = _
    rw [Jvm.Cond.before_and, ih, List.all_cons]
def words1 : List Jvm.Cond := Jvm.Cond.code x code maxLocals ret :: tables_1
/-- a 'code' word, met by the world's own term for the bytes: nothing is compared byte by byte -/
theorem code_word {y : MethodName} {bytes : ByteArray} {mx : Nat} {rt : Option FieldType} {a : Array Value} {s : State} {m : MethodId} {meth : Method} {c : Code} (h1 : s.methodNamed? y = some m) (h2 : s.vm.method? m = some meth) (h3 : meth.code = some c) (h4 : c.code = bytes)
    (h5 : (c.maxLocals == mx && c.exceptionTable.isEmpty && decide (c.maxStack ≤ mostOperands) && decide (meth.sig.returnType = rt) && !meth.locks && decide (parseMethodDescriptor y.desc = some meth.sig)) = true) : (Jvm.Cond.code y bytes mx rt).before a s = true := by
  simp only [Bool.and_eq_true, beq_iff_eq, Bool.not_eq_true', decide_eq_true_eq] at h5
  obtain ⟨⟨⟨⟨⟨g1, g2⟩, g3⟩, g4⟩, g5⟩, g6⟩ := h5
  simp [Cond.before, Cond.holds, Cond.value, h1, h2, h3, h4, g1, g2, g3, g4, g5, g6]
def isCode : Jvm.Cond → Bool
  | .code _ _ _ _ => true
  | _ => false
theorem all_split {L : List Jvm.Cond} {P : Jvm.Cond → Bool} (h1 : L.all (fun c => isCode c || P c) = true) (h2 : ∀ c ∈ L.filter isCode, P c = true) : L.all P = true := by
  refine List.all_eq_true.mpr fun c hc => ?_
  have h := List.all_eq_true.mp h1 c hc
  rcases Bool.eq_false_or_eq_true (isCode c) with hi | hi
  · exact h2 c (List.mem_filter.mpr ⟨hc, hi⟩)
  · simpa [hi] using h
set_option maxRecDepth 65536 in
theorem w_c0 : (Jvm.Cond.code x code maxLocals ret).before args0 about1 = true := code_word (m := ⟨1, 1⟩) (meth := k1m1) (c := k1c1) (by decide +kernel) rfl rfl rfl (by decide +kernel)
set_option maxRecDepth 65536 in
theorem w_c1 : (Jvm.Cond.code ({ cls := "com/example/grendel/grendel/cli/VerbTakesPinLaw", name := "pick", desc := "(I)Lcom/example/grendel/grendel/cli/Verb;" } : Jvm.MethodName) method_3_code (1 : Nat) (Option.some (Jvm.ClassFile.FieldType.object "com/example/grendel/grendel/cli/Verb"))).before args0 about1 = true := code_word (m := ⟨1, 2⟩) (meth := k1m2) (c := k1c2) (by decide +kernel) rfl rfl rfl (by decide +kernel)
set_option maxRecDepth 65536 in
theorem w_c2 : (Jvm.Cond.code ({ cls := "com/example/grendel/grendel/cli/VerbTakesPinLaw", name := "expect", desc := "(IC)Z" } : Jvm.MethodName) method_4_code (2 : Nat) (Option.some Jvm.ClassFile.FieldType.boolean)).before args0 about1 = true := code_word (m := ⟨1, 3⟩) (meth := k1m3) (c := k1c3) (by decide +kernel) rfl rfl rfl (by decide +kernel)
set_option maxRecDepth 65536 in
theorem w_c3 : (Jvm.Cond.code ({ cls := "com/example/grendel/grendel/cli/Verb", name := "takes", desc := "(C)Z" } : Jvm.MethodName) prog_3_method_7_code (2 : Nat) (Option.some Jvm.ClassFile.FieldType.boolean)).before args0 about1 = true := code_word (m := ⟨6, 0⟩) (meth := k6m0) (c := k6c0) (by decide +kernel) rfl rfl rfl (by decide +kernel)
set_option maxRecDepth 65536 in
theorem w_c4 : (Jvm.Cond.code ({ cls := "java/lang/String", name := "indexOf", desc := "(I)I" } : Jvm.MethodName) jdk_42_method_79_code (2 : Nat) (Option.some Jvm.ClassFile.FieldType.int)).before args0 about1 = true := code_word (m := ⟨9, 2⟩) (meth := k9m2) (c := k9c2) (by decide +kernel) rfl rfl rfl (by decide +kernel)
set_option maxRecDepth 65536 in
theorem w_c5 : (Jvm.Cond.code ({ cls := "java/lang/String", name := "indexOf", desc := "(II)I" } : Jvm.MethodName) jdk_42_method_80_code (3 : Nat) (Option.some Jvm.ClassFile.FieldType.int)).before args0 about1 = true := code_word (m := ⟨9, 3⟩) (meth := k9m3) (c := k9c3) (by decide +kernel) rfl rfl rfl (by decide +kernel)
set_option maxRecDepth 65536 in
theorem w_c6 : (Jvm.Cond.code ({ cls := "java/lang/String", name := "isLatin1", desc := "()Z" } : Jvm.MethodName) jdk_42_method_154_code (1 : Nat) (Option.some Jvm.ClassFile.FieldType.boolean)).before args0 about1 = true := code_word (m := ⟨9, 5⟩) (meth := k9m5) (c := k9c5) (by decide +kernel) rfl rfl rfl (by decide +kernel)
set_option maxRecDepth 65536 in
theorem w_c7 : (Jvm.Cond.code ({ cls := "java/lang/String", name := "length", desc := "()I" } : Jvm.MethodName) jdk_42_method_54_code (1 : Nat) (Option.some Jvm.ClassFile.FieldType.int)).before args0 about1 = true := code_word (m := ⟨9, 1⟩) (meth := k9m1) (c := k9c1) (by decide +kernel) rfl rfl rfl (by decide +kernel)
set_option maxRecDepth 65536 in
theorem w_c8 : (Jvm.Cond.code ({ cls := "java/lang/String", name := "coder", desc := "()B" } : Jvm.MethodName) jdk_42_method_152_code (1 : Nat) (Option.some Jvm.ClassFile.FieldType.byte)).before args0 about1 = true := code_word (m := ⟨9, 4⟩) (meth := k9m4) (c := k9c4) (by decide +kernel) rfl rfl rfl (by decide +kernel)
set_option maxRecDepth 65536 in
theorem w_c9 : (Jvm.Cond.code ({ cls := "java/lang/StringLatin1", name := "indexOf", desc := "([BIII)I" } : Jvm.MethodName) jdk_43_method_22_code (4 : Nat) (Option.some Jvm.ClassFile.FieldType.int)).before args0 about1 = true := code_word (m := ⟨10, 2⟩) (meth := k10m2) (c := k10c2) (by decide +kernel) rfl rfl rfl (by decide +kernel)
set_option maxRecDepth 65536 in
theorem w_c10 : (Jvm.Cond.code ({ cls := "java/lang/StringLatin1", name := "canEncode", desc := "(I)Z" } : Jvm.MethodName) jdk_43_method_4_code (1 : Nat) (Option.some Jvm.ClassFile.FieldType.boolean)).before args0 about1 = true := code_word (m := ⟨10, 1⟩) (meth := k10m1) (c := k10c1) (by decide +kernel) rfl rfl rfl (by decide +kernel)
set_option maxRecDepth 65536 in
theorem w_c11 : (Jvm.Cond.code ({ cls := "java/lang/Math", name := "max", desc := "(II)I" } : Jvm.MethodName) jdk_29_method_65_code (2 : Nat) (Option.some Jvm.ClassFile.FieldType.int)).before args0 about1 = true := code_word (m := ⟨11, 1⟩) (meth := k11m1) (c := k11c1) (by decide +kernel) rfl rfl rfl (by decide +kernel)
set_option maxRecDepth 65536 in
theorem w_c12 : (Jvm.Cond.code ({ cls := "java/lang/Math", name := "min", desc := "(II)I" } : Jvm.MethodName) jdk_29_method_69_code (2 : Nat) (Option.some Jvm.ClassFile.FieldType.int)).before args0 about1 = true := code_word (m := ⟨11, 2⟩) (meth := k11m2) (c := k11c2) (by decide +kernel) rfl rfl rfl (by decide +kernel)
set_option maxRecDepth 65536 in
theorem w_c13 : (Jvm.Cond.code ({ cls := "java/lang/StringLatin1", name := "indexOfChar", desc := "([BIII)I" } : Jvm.MethodName) jdk_43_method_23_code (6 : Nat) (Option.some Jvm.ClassFile.FieldType.int)).before args0 about1 = true := code_word (m := ⟨10, 3⟩) (meth := k10m3) (c := k10c3) (by decide +kernel) rfl rfl rfl (by decide +kernel)
def codes1 : List Jvm.Cond := [Jvm.Cond.code x code maxLocals ret, Jvm.Cond.code ({ cls := "com/example/grendel/grendel/cli/VerbTakesPinLaw", name := "pick", desc := "(I)Lcom/example/grendel/grendel/cli/Verb;" } : Jvm.MethodName) method_3_code (1 : Nat) (Option.some (Jvm.ClassFile.FieldType.object "com/example/grendel/grendel/cli/Verb")), Jvm.Cond.code ({ cls := "com/example/grendel/grendel/cli/VerbTakesPinLaw", name := "expect", desc := "(IC)Z" } : Jvm.MethodName) method_4_code (2 : Nat) (Option.some Jvm.ClassFile.FieldType.boolean), Jvm.Cond.code ({ cls := "com/example/grendel/grendel/cli/Verb", name := "takes", desc := "(C)Z" } : Jvm.MethodName) prog_3_method_7_code (2 : Nat) (Option.some Jvm.ClassFile.FieldType.boolean), Jvm.Cond.code ({ cls := "java/lang/String", name := "indexOf", desc := "(I)I" } : Jvm.MethodName) jdk_42_method_79_code (2 : Nat) (Option.some Jvm.ClassFile.FieldType.int), Jvm.Cond.code ({ cls := "java/lang/String", name := "indexOf", desc := "(II)I" } : Jvm.MethodName) jdk_42_method_80_code (3 : Nat) (Option.some Jvm.ClassFile.FieldType.int), Jvm.Cond.code ({ cls := "java/lang/String", name := "isLatin1", desc := "()Z" } : Jvm.MethodName) jdk_42_method_154_code (1 : Nat) (Option.some Jvm.ClassFile.FieldType.boolean), Jvm.Cond.code ({ cls := "java/lang/String", name := "length", desc := "()I" } : Jvm.MethodName) jdk_42_method_54_code (1 : Nat) (Option.some Jvm.ClassFile.FieldType.int), Jvm.Cond.code ({ cls := "java/lang/String", name := "coder", desc := "()B" } : Jvm.MethodName) jdk_42_method_152_code (1 : Nat) (Option.some Jvm.ClassFile.FieldType.byte), Jvm.Cond.code ({ cls := "java/lang/StringLatin1", name := "indexOf", desc := "([BIII)I" } : Jvm.MethodName) jdk_43_method_22_code (4 : Nat) (Option.some Jvm.ClassFile.FieldType.int), Jvm.Cond.code ({ cls := "java/lang/StringLatin1", name := "canEncode", desc := "(I)Z" } : Jvm.MethodName) jdk_43_method_4_code (1 : Nat) (Option.some Jvm.ClassFile.FieldType.boolean), Jvm.Cond.code ({ cls := "java/lang/Math", name := "max", desc := "(II)I" } : Jvm.MethodName) jdk_29_method_65_code (2 : Nat) (Option.some Jvm.ClassFile.FieldType.int), Jvm.Cond.code ({ cls := "java/lang/Math", name := "min", desc := "(II)I" } : Jvm.MethodName) jdk_29_method_69_code (2 : Nat) (Option.some Jvm.ClassFile.FieldType.int), Jvm.Cond.code ({ cls := "java/lang/StringLatin1", name := "indexOfChar", desc := "([BIII)I" } : Jvm.MethodName) jdk_43_method_23_code (6 : Nat) (Option.some Jvm.ClassFile.FieldType.int)]
set_option maxRecDepth 65536 in
theorem codes_eq : words1.filter isCode = codes1 := rfl
theorem w_codes : ∀ c ∈ words1.filter isCode, c.before args0 about1 = true := by
  rw [codes_eq]
  intro c hc
  simp only [codes1, List.mem_cons, List.not_mem_nil, or_false] at hc
  rcases hc with rfl | rfl | rfl | rfl | rfl | rfl | rfl | rfl | rfl | rfl | rfl | rfl | rfl | rfl
  · exact w_c0
  · exact w_c1
  · exact w_c2
  · exact w_c3
  · exact w_c4
  · exact w_c5
  · exact w_c6
  · exact w_c7
  · exact w_c8
  · exact w_c9
  · exact w_c10
  · exact w_c11
  · exact w_c12
  · exact w_c13
set_option maxRecDepth 65536 in
theorem w_t1 : (words1.take 24).all (fun c => isCode c || c.before args0 about1) = true := by decide +kernel
set_option maxRecDepth 65536 in
theorem w_t2 : ((words1.drop 24).take 24).all (fun c => isCode c || c.before args0 about1) = true := by decide +kernel
set_option maxRecDepth 65536 in
theorem w_t3 : (((words1.drop 24).drop 24).take 24).all (fun c => isCode c || c.before args0 about1) = true := by decide +kernel
set_option maxRecDepth 65536 in
theorem w_t4 : (((words1.drop 24).drop 24).drop 24).all (fun c => isCode c || c.before args0 about1) = true := by decide +kernel
theorem w_tables : (allAtoms (Jvm.Cond.code x code maxLocals ret :: tables_1)).before args0 about1 = true := by
  rw [allAtoms_all]
  show words1.all (fun c => c.before args0 about1) = true
  refine all_split ?_ w_codes
  rw [← List.take_append_drop 24 words1, List.all_append, w_t1, ← List.take_append_drop 24 (words1.drop 24), List.all_append, w_t2, ← List.take_append_drop 24 ((words1.drop 24).drop 24), List.all_append, w_t3, w_t4]
  rfl
set_option maxRecDepth 65536 in
theorem w_rest : rest_1_c.before args0 about1 = true := by decide +kernel
set_option maxRecDepth 65536 in
theorem w_case : (Jvm.Cond.and given_1 narrow_1).before args0 about1 = true := by decide +kernel
theorem w_applies : (headSpec (Jvm.Cond.code x code maxLocals ret :: tables_1) room_1).applies x e0.platform about1 = true :=
  (Spec.applies_iff w_frames).mpr ⟨w_running, w_runnable, w_alone, w_named, w_hears, w_ripe, w_room, w_tables⟩
theorem atStart : AtStart classFile x code maxLocals ret World_1 tables_1 room_1 Calls_1 rest_1 Pre_1 launch0 p0 e0 about1 theMethod args0 below0 :=
  ⟨lists_1, trivial, launch0.admits_env _ _ _, launch0.least_env, fairChoices_fair.cas, fairChoices_fair.clock, w_frames, w_args, w_heap, w_applies, trivial, w_rest, w_case⟩
end start1
theorem witness_1 : WitnessClaimed_1 := ⟨start1.p0, start1.e0, start1.about1, start1.theMethod, start1.args0, start1.below0, start1.atStart⟩
end Jvm.Pilot.@@N@@
