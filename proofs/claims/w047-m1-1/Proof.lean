import JvmDerived
import JvmDerived.Pilot.@@N@@Statement
import JvmDerived.Pilot.@@N@@Code
set_option linter.unusedVariables false
set_option linter.unusedSimpArgs false
namespace Jvm.RoadKit
open Sem ClassFile Op Lib Jvm.Stand Jvm.Free Jvm.LawKit
section New
variable {p : Program} {l : Launch} {e : Env} {R : Room} {s : State} {m : MethodId} {args : Array Value} {below : List Frame} {meth : Method} {c : Code} {T : State} {locs : List Loc} {cells slots : Nat}
theorem retI (X : Stand p l e R s m args below meth c T locs cells slots) (hx : p.tables.exec = Jvm.exec) {pc : Nat} {Ls : Array Slot} {z : Int32} {rest : List Value} (hret : meth.sig.returnType = some .int) (hd : decode c.code pc = .ok (.ireturn, 1)) {fs : List Frame}
    (hl : ∀ (f : JFrame) (acts : List Action), f.method = m → f.locked = none → f.entered = [] → (doReturn e (T.setTop f) acts (some (.int z))).1 = T.setFrames fs) : Steps p.tables e below (T.setTop (mkF m pc Ls (.int z :: rest))) (T.setFrames fs) := by
  have hm' : T.vm.method? m = some meth := X.method'
  have hn : narrow .int (.int z) = .int z := rfl
  show Steps p.tables e below (T.setTop { method := m, pc := pc, locals := Ls, stack := _ :: rest, locked := none }) _
  jvm_step X.here [X.here.top, hx, hd, hm', hret, hn]
  first | (intro acts; rw [hl _ acts rfl rfl rfl]) | rw [hl _ _ rfl rfl rfl]
  exact Steps.refl _
end New
end Jvm.RoadKit
namespace Jvm.Pilot.@@N@@
open Jvm Jvm.ClassFile Sem Op Lib Jvm.Free Jvm.Stand Jvm.LawKit Jvm.RoadKit Bundle Jvm.Pilot.@@N@@.Jvm.D
section Own
variable {p : Program} {l : Launch} {e : Env} {R : Room} {s : State} {m : MethodId} {args : Array Value} {below : List Frame} {meth : Method} {c : Code} {T : State} {locs : List Loc} {cells slots : Nat} {Z : State} {a0 : Array Value} {h h' : Heap}
/-- an array of n places, whose j-th holds f j -/
def own_AF (Z : State) (h : Heap) (a : Addr) (ty : FieldType) (n : Nat) (f : Nat → Value) : Prop := n < 2147483648 ∧ ∃ c : Cell, Arr Z h a c ty ∧ c.slots.size = n ∧ ∀ j, j < n → c.slots[j]? = some (f j)
/-- an array of ints, bytes, chars, booleans -/
def own_AI (Z : State) (h : Heap) (a : Addr) (ty : FieldType) (n : Nat) (f : Nat → Int32) : Prop := own_AF Z h a ty n (fun j => .int (f j))
def own_AL (Z : State) (h : Heap) (a : Addr) (n : Nat) (f : Nat → Int64) : Prop := own_AF Z h a .long n (fun j => .long (f j))
def own_upd {α : Type} (f : Nat → α) (i : Nat) (x : α) : Nat → α := fun j => if j = i then x else f j
theorem own_AF.lt {a : Addr} {ty : FieldType} {n : Nat} {f : Nat → Value} (F : own_AF Z h a ty n f) : a < h.size := by obtain ⟨_, c, A, -⟩ := F; exact A.lt
theorem own_AI.lt {a : Addr} {ty : FieldType} {n : Nat} {f : Nat → Int32} (F : own_AI Z h a ty n f) : a < h.size := own_AF.lt F
theorem own_AL.lt {a : Addr} {n : Nat} {f : Nat → Int64} (F : own_AL Z h a n f) : a < h.size := own_AF.lt F
theorem own_AF.keep {a : Addr} {ty : FieldType} {n : Nat} {f : Nat → Value} {ws : List Addr} (F : own_AF Z h a ty n f) (K : Keep h h' ws) (q : a ∉ ws) : own_AF Z h' a ty n f := by
  obtain ⟨b, c, A, r⟩ := F; exact ⟨b, c, ⟨K.2.1 a c A.1 q, A.2⟩, r⟩
theorem own_AI.keep {a : Addr} {ty : FieldType} {n : Nat} {f : Nat → Int32} {ws : List Addr} (F : own_AI Z h a ty n f) (K : Keep h h' ws) (q : a ∉ ws) : own_AI Z h' a ty n f := own_AF.keep F K q
theorem own_AL.keep {a : Addr} {n : Nat} {f : Nat → Int64} {ws : List Addr} (F : own_AL Z h a n f) (K : Keep h h' ws) (q : a ∉ ws) : own_AL Z h' a n f := own_AF.keep F K q
theorem own_AF.congr {a : Addr} {ty : FieldType} {n : Nat} {f g : Nat → Value} (F : own_AF Z h a ty n f) (q : ∀ j, j < n → f j = g j) : own_AF Z h a ty n g := by
  obtain ⟨b, c, A, s, r⟩ := F; exact ⟨b, c, A, s, fun j hj => by rw [r j hj, q j hj]⟩
theorem own_AI.congr {a : Addr} {ty : FieldType} {n : Nat} {f g : Nat → Int32} (F : own_AI Z h a ty n f) (q : ∀ j, j < n → f j = g j) : own_AI Z h a ty n g := own_AF.congr F fun j hj => by show Value.int (f j) = .int (g j); rw [q j hj]
theorem own_AF.wr {a : Addr} {ty : FieldType} {n i : Nat} {f : Nat → Value} {v : Value} (F : own_AF Z h a ty n f) (hi : i < n) (W : Wr h h' a i v) : own_AF Z h' a ty n (own_upd f i v) := by
  obtain ⟨b, c, A, s, r⟩ := F
  refine ⟨b, _, A.same W, by rw [sz_set]; exact s, fun j hj => ?_⟩
  simp only [Cell.setSlot, own_upd, Array.getElem?_setIfInBounds]
  by_cases q : i = j
  · subst q; simp [s, hi]
  · have q' : ¬ j = i := fun e => q e.symm
    simp [q, q', r j hj]
theorem own_AI.wr {a : Addr} {ty : FieldType} {n i : Nat} {f : Nat → Int32} {x : Int32} (F : own_AI Z h a ty n f) (hi : i < n) (W : Wr h h' a i (.int x)) : own_AI Z h' a ty n (own_upd f i x) :=
  (own_AF.wr F hi W).congr fun j hj => by simp only [own_upd]; split <;> rfl
theorem own_AL.wr {a : Addr} {n i : Nat} {f : Nat → Int64} {x : Int64} (F : own_AL Z h a n f) (hi : i < n) (W : Wr h h' a i (.long x)) : own_AL Z h' a n (own_upd f i x) :=
  (own_AF.wr F hi W).congr fun j hj => by simp only [own_upd]; split <;> rfl
theorem own_idx {j : Int32} {i : Nat} (hj : j.toInt = i) : ¬ j < 0 ∧ j.toNatClampNeg = i := by
  refine ⟨by rw [Int32.lt_iff_toInt_lt, Int32.toInt_zero]; omega, ?_⟩
  have := nat_of (j := j) (by rw [Int32.lt_iff_toInt_lt, Int32.toInt_zero]; omega)
  omega
theorem own_inb {j : Int32} {i n : Nat} {cl : Cell} (hj : j.toInt = i) (hi : i < n) (hs : cl.slots.size = n) : ¬ (j < 0 ∨ cl.slots.size ≤ j.toNatClampNeg) := by
  obtain ⟨h1, h2⟩ := own_idx hj
  rintro (q | q)
  · exact h1 q
  · rw [h2, hs] at q; omega
theorem own_ldF {a : Addr} {n i : Nat} {ty : FieldType} {f : Nat → Value} {j : Int32} {v : Value} (A : own_AF Z h a ty n f) (hj : j.toInt = i) (hi : i < n) (hv : f i = v) : ∃ cl : Cell, Arr Z h a cl ty ∧ ¬ (j < 0 ∨ cl.slots.size ≤ j.toNatClampNeg) ∧ cl.slots[j.toNatClampNeg]? = some v := by
  obtain ⟨b, cl, Ar, hs, hf⟩ := A
  exact ⟨cl, Ar, own_inb hj hi hs, by rw [(own_idx hj).2, hf i hi, hv]⟩
theorem own_ldI (X : Stand p l e R s m args below meth c T locs cells slots) (hx : p.tables.exec = Jvm.exec) (hZ : Z.Warmed39 s.vm) (eT : T.heap = h) {a : Addr} {n i : Nat} {f : Nat → Int32} {j x : Int32} (A : own_AI Z h a .int n f) (hj : j.toInt = i) (hi : i < n) (hv : f i = x) {g : JFrame} (hg : g.method = m) {rest : List Value} (hs : g.stack = .int j :: .ref a :: rest) (hd : decode c.code g.pc = .ok (.iaload, 1)) :
    ∀ target, Steps p.tables e below (T.setTop { g with pc := g.pc + 1, stack := .int x :: rest }) target → Steps p.tables e below (T.setTop g) target := by
  obtain ⟨cl, Ar, h1, h2⟩ := own_ldF A hj hi (by rw [hv])
  exact X.iaload hx (by rw [eT]; exact Ar.1) (State.isArrayOf_alike hZ.alike Ar.2.1) Ar.2.2 h1 h2 hg hs hd
theorem own_ldC (X : Stand p l e R s m args below meth c T locs cells slots) (hx : p.tables.exec = Jvm.exec) (hZ : Z.Warmed39 s.vm) (eT : T.heap = h) {a : Addr} {n i : Nat} {f : Nat → Int32} {j x : Int32} (A : own_AI Z h a .char n f) (hj : j.toInt = i) (hi : i < n) (hv : f i = x) {g : JFrame} (hg : g.method = m) {rest : List Value} (hs : g.stack = .int j :: .ref a :: rest) (hd : decode c.code g.pc = .ok (.caload, 1)) :
    ∀ target, Steps p.tables e below (T.setTop { g with pc := g.pc + 1, stack := .int x :: rest }) target → Steps p.tables e below (T.setTop g) target := by
  obtain ⟨cl, Ar, h1, h2⟩ := own_ldF A hj hi (by rw [hv])
  exact X.caload hx (by rw [eT]; exact Ar.1) (State.isArrayOf_alike hZ.alike Ar.2.1) Ar.2.2 h1 h2 hg hs hd
theorem own_ldB (X : Stand p l e R s m args below meth c T locs cells slots) (hx : p.tables.exec = Jvm.exec) (hZ : Z.Warmed39 s.vm) (eT : T.heap = h) {a : Addr} {n i : Nat} {f : Nat → Int32} {j x : Int32} (A : own_AI Z h a .byte n f) (hj : j.toInt = i) (hi : i < n) (hv : f i = x) {g : JFrame} (hg : g.method = m) {rest : List Value} (hs : g.stack = .int j :: .ref a :: rest) (hd : decode c.code g.pc = .ok (.baload, 1)) :
    ∀ target, Steps p.tables e below (T.setTop { g with pc := g.pc + 1, stack := .int x :: rest }) target → Steps p.tables e below (T.setTop g) target := by
  obtain ⟨cl, Ar, h1, h2⟩ := own_ldF A hj hi (by rw [hv])
  exact X.baloadBytes hx (by rw [eT]; exact Ar.1) (State.isArrayOf_alike hZ.alike Ar.2.1) Ar.2.2 h1 h2 hg hs hd
theorem own_ldZ (X : Stand p l e R s m args below meth c T locs cells slots) (hx : p.tables.exec = Jvm.exec) (hZ : Z.Warmed39 s.vm) (eT : T.heap = h) {a : Addr} {n i : Nat} {f : Nat → Int32} {j x : Int32} (A : own_AI Z h a .boolean n f) (hj : j.toInt = i) (hi : i < n) (hv : f i = x) {g : JFrame} (hg : g.method = m) {rest : List Value} (hs : g.stack = .int j :: .ref a :: rest) (hd : decode c.code g.pc = .ok (.baload, 1)) :
    ∀ target, Steps p.tables e below (T.setTop { g with pc := g.pc + 1, stack := .int x :: rest }) target → Steps p.tables e below (T.setTop g) target := by
  obtain ⟨cl, Ar, h1, h2⟩ := own_ldF A hj hi (by rw [hv])
  exact X.baloadBooleans hx (by rw [eT]; exact Ar.1) (State.isArrayOf_alike hZ.alike Ar.2.1) Ar.2.2 h1 h2 hg hs hd
theorem own_ldJ (X : Stand p l e R s m args below meth c T locs cells slots) (hx : p.tables.exec = Jvm.exec) (hZ : Z.Warmed39 s.vm) (eT : T.heap = h) {a : Addr} {n i : Nat} {f : Nat → Int64} {j : Int32} {x : Int64} (A : own_AL Z h a n f) (hj : j.toInt = i) (hi : i < n) (hv : f i = x) {g : JFrame} (hg : g.method = m) {rest : List Value} (hs : g.stack = .int j :: .ref a :: rest) (hd : decode c.code g.pc = .ok (.laload, 1)) :
    ∀ target, Steps p.tables e below (T.setTop { g with pc := g.pc + 1, stack := .long x :: rest }) target → Steps p.tables e below (T.setTop g) target := by
  obtain ⟨cl, Ar, h1, h2⟩ := own_ldF A hj hi (by rw [hv])
  exact X.laload hx (by rw [eT]; exact Ar.1) (State.isArrayOf_alike hZ.alike Ar.2.1) Ar.2.2 h1 h2 hg hs hd
theorem own_ldR (X : Stand p l e R s m args below meth c T locs cells slots) (hx : p.tables.exec = Jvm.exec) (hZ : Z.Warmed39 s.vm) (eT : T.heap = h) {a : Addr} {n i : Nat} {ty : FieldType} {f : Nat → Value} {j : Int32} {v : Value} (hty : ty.isReference = true) (A : own_AF Z h a ty n f) (hj : j.toInt = i) (hi : i < n) (hv : f i = v) {g : JFrame} (hg : g.method = m) {rest : List Value} (hs : g.stack = .int j :: .ref a :: rest) (hd : decode c.code g.pc = .ok (.aaload, 1)) :
    ∀ target, Steps p.tables e below (T.setTop { g with pc := g.pc + 1, stack := v :: rest }) target → Steps p.tables e below (T.setTop g) target := by
  obtain ⟨cl, Ar, h1, h2⟩ := own_ldF A hj hi hv
  exact X.aaload hx (by rw [eT]; exact Ar.1) (State.isArrayOf_alike hZ.alike Ar.2.1) hty Ar.2.2 h1 h2 hg hs hd
theorem own_len (X : Stand p l e R s m args below meth c T locs cells slots) (hx : p.tables.exec = Jvm.exec) (hZ : Z.Warmed39 s.vm) (eT : T.heap = h) {a : Addr} {n : Nat} {ty : FieldType} {f : Nat → Value} {z : Int32} (A : own_AF Z h a ty n f) (hz : z.toInt = n) {g : JFrame} (hg : g.method = m) {rest : List Value} (hs : g.stack = .ref a :: rest) (hd : decode c.code g.pc = .ok (.arraylength, 1)) :
    ∀ target, Steps p.tables e below (T.setTop { g with pc := g.pc + 1, stack := .int z :: rest }) target → Steps p.tables e below (T.setTop g) target := by
  obtain ⟨b, cl, Ar, hs', hf⟩ := A
  intro target k
  refine X.arraylength hx (by rw [eT]; exact Ar.1) (State.isArrayOf_alike hZ.alike Ar.2.1) hg hs hd target ?_
  have q : cl.slots.size.toInt32 = z := by
    apply Int32.toInt_inj.mp
    rw [hs', len_toInt (by omega), hz]
  rw [q]; exact k
theorem own_stI (X : Stand p l e R s m args below meth c T locs cells slots) (hx : p.tables.exec = Jvm.exec) (hZ : Z.Warmed39 s.vm) (eT : T.heap = h) {a : Addr} {n i : Nat} {f : Nat → Int32} {j x : Int32} (A : own_AI Z h a .int n f) (hj : j.toInt = i) (hi : i < n) {g : JFrame} (hg : g.method = m) {rest : List Value} (hs : g.stack = .int x :: .int j :: .ref a :: rest) (hd : decode c.code g.pc = .ok (.iastore, 1)) :
    ∃ T' h', Stand p l e R s m args below meth c T' (locs ++ [⟨a, i⟩]) cells slots ∧ T'.heap = h' ∧ Wr h h' a i (.int x) ∧ own_AI Z h' a .int n (own_upd f i x) ∧ ∀ target, Steps p.tables e below (T'.setTop { g with pc := g.pc + 1, stack := rest }) target → Steps p.tables e below (T.setTop g) target := by
  obtain ⟨cl, Ar, h1, -⟩ := own_ldF A hj hi rfl
  obtain ⟨T', h', X', e', W, st⟩ := stI X hx hZ eT Ar h1 hg hs hd
  rw [(own_idx hj).2] at X' W
  exact ⟨T', h', X', e', W, A.wr hi W, st⟩
theorem own_stB (X : Stand p l e R s m args below meth c T locs cells slots) (hx : p.tables.exec = Jvm.exec) (hZ : Z.Warmed39 s.vm) (eT : T.heap = h) {a : Addr} {n i : Nat} {f : Nat → Int32} {j x : Int32} (A : own_AI Z h a .byte n f) (hj : j.toInt = i) (hi : i < n) {g : JFrame} (hg : g.method = m) {rest : List Value} (hs : g.stack = .int x :: .int j :: .ref a :: rest) (hd : decode c.code g.pc = .ok (.bastore, 1)) :
    ∃ T' h', Stand p l e R s m args below meth c T' (locs ++ [⟨a, i⟩]) cells slots ∧ T'.heap = h' ∧ Wr h h' a i (.int (x.toInt8.toInt32)) ∧ own_AI Z h' a .byte n (own_upd f i (x.toInt8.toInt32)) ∧ ∀ target, Steps p.tables e below (T'.setTop { g with pc := g.pc + 1, stack := rest }) target → Steps p.tables e below (T.setTop g) target := by
  obtain ⟨cl, Ar, h1, -⟩ := own_ldF A hj hi rfl
  obtain ⟨T', h', X', e', W, st⟩ := stB X hx hZ eT Ar h1 hg hs hd
  rw [(own_idx hj).2] at X' W
  exact ⟨T', h', X', e', W, A.wr hi W, st⟩
theorem own_stZ (X : Stand p l e R s m args below meth c T locs cells slots) (hx : p.tables.exec = Jvm.exec) (hZ : Z.Warmed39 s.vm) (eT : T.heap = h) {a : Addr} {n i : Nat} {f : Nat → Int32} {j x : Int32} (A : own_AI Z h a .boolean n f) (hj : j.toInt = i) (hi : i < n) {g : JFrame} (hg : g.method = m) {rest : List Value} (hs : g.stack = .int x :: .int j :: .ref a :: rest) (hd : decode c.code g.pc = .ok (.bastore, 1)) :
    ∃ T' h', Stand p l e R s m args below meth c T' (locs ++ [⟨a, i⟩]) cells slots ∧ T'.heap = h' ∧ Wr h h' a i (.int (x &&& 1)) ∧ own_AI Z h' a .boolean n (own_upd f i (x &&& 1)) ∧ ∀ target, Steps p.tables e below (T'.setTop { g with pc := g.pc + 1, stack := rest }) target → Steps p.tables e below (T.setTop g) target := by
  obtain ⟨cl, Ar, h1, -⟩ := own_ldF A hj hi rfl
  obtain ⟨T', h', X', e', W, st⟩ := stZ X hx hZ eT Ar h1 hg hs hd
  rw [(own_idx hj).2] at X' W
  exact ⟨T', h', X', e', W, A.wr hi W, st⟩
theorem own_stC (X : Stand p l e R s m args below meth c T locs cells slots) (hx : p.tables.exec = Jvm.exec) (hZ : Z.Warmed39 s.vm) (eT : T.heap = h) {a : Addr} {n i : Nat} {f : Nat → Int32} {j x : Int32} (A : own_AI Z h a .char n f) (hj : j.toInt = i) (hi : i < n) {g : JFrame} (hg : g.method = m) {rest : List Value} (hs : g.stack = .int x :: .int j :: .ref a :: rest) (hd : decode c.code g.pc = .ok (.castore, 1)) :
    ∃ T' h', Stand p l e R s m args below meth c T' (locs ++ [⟨a, i⟩]) cells slots ∧ T'.heap = h' ∧ Wr h h' a i (.int (x.toUInt32.toUInt16.toUInt32.toInt32)) ∧ own_AI Z h' a .char n (own_upd f i (x.toUInt32.toUInt16.toUInt32.toInt32)) ∧ ∀ target, Steps p.tables e below (T'.setTop { g with pc := g.pc + 1, stack := rest }) target → Steps p.tables e below (T.setTop g) target := by
  obtain ⟨cl, Ar, h1, -⟩ := own_ldF A hj hi rfl
  obtain ⟨T', h', X', e', W, st⟩ := stC X hx hZ eT Ar h1 hg hs hd
  rw [(own_idx hj).2] at X' W
  exact ⟨T', h', X', e', W, A.wr hi W, st⟩
theorem own_stJ (X : Stand p l e R s m args below meth c T locs cells slots) (hx : p.tables.exec = Jvm.exec) (hZ : Z.Warmed39 s.vm) (eT : T.heap = h) {a : Addr} {n i : Nat} {f : Nat → Int64} {j : Int32} {x : Int64} (A : own_AL Z h a n f) (hj : j.toInt = i) (hi : i < n) {g : JFrame} (hg : g.method = m) {rest : List Value} (hs : g.stack = .long x :: .int j :: .ref a :: rest) (hd : decode c.code g.pc = .ok (.lastore, 1)) :
    ∃ T' h', Stand p l e R s m args below meth c T' (locs ++ [⟨a, i⟩]) cells slots ∧ T'.heap = h' ∧ Wr h h' a i (.long x) ∧ own_AL Z h' a n (own_upd f i x) ∧ ∀ target, Steps p.tables e below (T'.setTop { g with pc := g.pc + 1, stack := rest }) target → Steps p.tables e below (T.setTop g) target := by
  obtain ⟨cl, Ar, h1, -⟩ := own_ldF A hj hi rfl
  obtain ⟨T', h', X', e', W, st⟩ := stJ X hx hZ eT Ar h1 hg hs hd
  rw [(own_idx hj).2] at X' W
  exact ⟨T', h', X', e', W, A.wr hi W, st⟩
theorem own_newF {a : Addr} {cA : ClassId} {ty : FieldType} {n : Int32} {i : Nat} (hn : n.toInt = i) (A : Arr Z h a (newA cA ty n) ty) : own_AF Z h a ty i (fun _ => defaultValue ty) := by
  obtain ⟨h1, h2⟩ := own_idx hn
  have := n.toInt_lt
  refine ⟨by omega, _, A, by rw [sz_new, h2], fun j hj => ?_⟩
  simp [newA, h2, hj]
theorem own_newI {a : Addr} {cA : ClassId} {ty : FieldType} {n : Int32} {i : Nat} (hn : n.toInt = i) (A : Arr Z h a (newA cA ty n) ty) (hd : defaultValue ty = .int 0) : own_AI Z h a ty i (fun _ => 0) :=
  (own_newF hn A).congr fun _ _ => hd
theorem own_newL {a : Addr} {cA : ClassId} {n : Int32} {i : Nat} (hn : n.toInt = i) (A : Arr Z h a (newA cA .long n) .long) : own_AL Z h a i (fun _ => 0) :=
  (own_newF hn A).congr fun _ _ => rfl
theorem own_Sta.keep {C n d : String} {v : Value} {ws : List Addr} (F : Sta Z h C n d v) (K : Keep h h' ws) (q : ∀ x ∈ ws, ∀ cl : Cell, h[x]? = some cl → cl.vm.isStatics = false) : Sta Z h' C n d v := by
  obtain ⟨cf, i, k, f, st, cell, h1, h2, h3, h4, h5, h6, h7⟩ := F
  refine ⟨cf, i, k, f, st, cell, h1, h2, h3, h4, K.2.1 st cell h5 (fun q' => ?_), h6, h7⟩
  have := q st q' cell h5
  rw [h6] at this; cases this
theorem own_selP {args : Array Value} {C : String} {y y' : MethodName} (hcls : y'.cls = y.cls) (hs : (Jvm.Cond.selects C y' y').before args s = true) (hi' : (Jvm.Cond.instanceMethod y').before args s = true) (hp : (Jvm.Cond.privateMethod y).before args s = true) (hi : (Jvm.Cond.instanceMethod y).before args s = true) (hy : y.cls ≠ "java/lang/invoke/MethodHandle" ∧ y.cls ≠ "java/lang/invoke/VarHandle") : (Jvm.Cond.selects y.cls y y).before args s = true := by
  obtain ⟨mk, methM, hnamed, -⟩ := Cond.instanceMethod_spec hi'
  obtain ⟨kr, hk, hni⟩ := notFace_of_selects hs mk hnamed
  have hc := findClass_of_methodNamed hnamed
  rw [hcls] at hc
  exact selects_self_of_private hc hk hni (Cond.privateMethod_at hp) hi hy
end Own

theorem own_fldeq {args : Array Value} {s : State} {t : Term} {x : Addr} {C n d : String} {k : Int32} (h : (Jvm.Cond.eq (.field t C n d) (.int k)).value args s none s [] = some true) (ht : t.eval args s none [] s = some (.ref x)) : Fld s s.heap x C n d (.int k) := by
  obtain ⟨y, h1, h2⟩ := Cond.eq_one (beq_iff_eq.mpr h : (Jvm.Cond.eq (.field t C n d) (.int k)).holds args s none s [] = true)
  have e : y = .int k := (Option.some.inj (show some (Value.int k) = some y from h2)).symm
  subst e
  exact Fld.start ((fld_at ht).symm.trans h1)
theorem own_fldeqL {args : Array Value} {s : State} {t : Term} {x : Addr} {C n d : String} {k : Int64} (h : (Jvm.Cond.eq (.field t C n d) (.long k)).value args s none s [] = some true) (ht : t.eval args s none [] s = some (.ref x)) : Fld s s.heap x C n d (.long k) := by
  obtain ⟨y, h1, h2⟩ := Cond.eq_one (beq_iff_eq.mpr h : (Jvm.Cond.eq (.field t C n d) (.long k)).holds args s none s [] = true)
  have e : y = .long k := (Option.some.inj (show some (Value.long k) = some y from h2)).symm
  subst e
  exact Fld.start ((fld_at ht).symm.trans h1)

theorem own_mx (x : Int64) : 0 ≤ (x &&& (9223372036854775807 : Int64)).toInt := by
  have h : (x &&& (9223372036854775807 : Int64)).toBitVec.msb = false := by
    rw [Int64.toBitVec_and, BitVec.msb_and]
    have : (9223372036854775807 : Int64).toBitVec.msb = false := by decide
    rw [this, Bool.and_false]
  show 0 ≤ (x &&& (9223372036854775807 : Int64)).toBitVec.toInt
  rw [BitVec.toInt_eq_msb_cond, h]; simp
theorem own_nn (x : Int64) : ¬ (x &&& (9223372036854775807 : Int64)) < (0 : Int64) := fun q => by
  have := Int64.lt_iff_toInt_lt.mp q
  have o : (0 : Int64).toInt = 0 := by decide
  have := own_mx x
  omega
theorem d4_0 : decode jdk_30_method_1_code 0 = .ok (.aload_n 0, 1) := by decide +kernel
theorem d4_1 : decode jdk_30_method_1_code 1 = .ok (.invokespecial 1, 3) := by decide +kernel
theorem d4_4 : decode jdk_30_method_1_code 4 = .ok (.return_, 1) := by decide +kernel
theorem pn_4 : plainName "java/lang/Record" = true := by first | (simp [plainName, overriddenIn]; done) | decide +kernel
theorem ef_4 (m : MethodId) (x0 : Addr) : entryFrame m #[(.ref x0)] 1 = mkF m 0 #[.val (.ref x0)] [] := by first | (simp [entryFrame, mkF, argsToLocals, Value.category]; done) | rfl
def Q4 (Z : State) (a : Addr) (h0 : Heap) (n0 : Nat) (rv_ : Option Value) (h : Heap) (LL_ : List Loc) : Prop := rv_ = none ∧ Fr n0 LL_ ∧ h = h0
set_option maxRecDepth 65536 in
set_option maxHeartbeats 40000000 in
theorem rm4 (l : Launch) (Z : State) (a0 : Array Value) (hw : ∀ d ∈ tables_1, d.before a0 Z = true) (ws : List Jvm.Cond) (a : Addr) (h0 : Heap) (n0 : Nat) :
    MetFree l (⟨"java/lang/Record", "<init>", "()V"⟩ : MethodName) (head1 (Jvm.Cond.code (⟨"java/lang/Record", "<init>", "()V"⟩ : MethodName) jdk_30_method_1_code 1 none :: ws) ({ frames := 1, cells := 0, slots := 0, locals := 12 } : Room)) (fun aa UU => aa = #[(.ref a)] ∧ Z.Warmed39 UU.vm ∧ UU.heap = h0) (fun _ _ _ _ _ => True) (fun _ UU oo UV => ∃ vv LL, oo = .returned vv ∧ Q4 Z a h0 n0 vv UV.heap LL ∧ FrameEnd UU oo UV LL ({ frames := 1, cells := 0, slots := 0, locals := 12 } : Room).cells ({ frames := 1, cells := 0, slots := 0, locals := 12 } : Room).slots) := by
  refine MetFree.of_bodySF (plainFor_of_name pn_4) hisR ?_
  intro p e s m args below meth c s₁ Bd hml0 hP hK
  obtain ⟨rfl, hZ, hh⟩ := hP
  have hx := Bd.exec
  have hby := Bd.bytes
  have hml : c.maxLocals = 1 := hml0
  have hown : s.vm.findClass "java/lang/Record" = some m.cls := findClass_of_methodNamed Bd.named
  have hnm := (name_of_methodNamed Bd.named Bd.method).1
  have X0 : Stand p l e ({ frames := 1, cells := 0, slots := 0, locals := 12 } : Room) s m #[(.ref a)] below meth c s₁ [] 0 0 := Stand.of_body Bd
  have e0 : s₁.heap = h0 := by rw [← hh, Bd.state]; rfl
  have N0 := Fr.nil n0
  have k0 : ∀ tg_, Steps p.tables e below (s₁.setTop (mkF m 0 #[.val (.ref a)] [])) tg_ → Steps p.tables e below (s₁.setTop (entryFrame m #[(.ref a)] 1)) tg_ := fun tg_ k => castTop (ef_4 m a) k
  obtain ⟨T1, X1, e1, st1⟩ := initO X0 hx hZ hown (hw _ (List.mem_of_getElem? (i := 28) rfl)) (hw _ (List.mem_of_getElem? (i := 29) rfl)) (hw _ (List.mem_of_getElem? (i := 30) rfl)) e0 (g := (mkF m 1 #[.val (.ref a)] [(.ref a)])) rfl (by rw [hml]; rfl) rfl (hb hby d4_1) (by decide) (W := 0) (by show 2 * 0 + _ ≤ _; exact Nat.le_of_eq rfl) (by decide)
  have k2 : ∀ tg_, Steps p.tables e below (T1.setTop (mkF m 4 #[.val (.ref a)] [])) tg_ → Steps p.tables e below (s₁.setTop (entryFrame m #[(.ref a)] 1)) tg_ := by
    intro tg_ kt
    refine k0 tg_ ?_
    refine XS.aloadN X0.here hx rfl (hb hby d4_0) rfl rfl ?_
    show Steps p.tables e below (s₁.setTop (mkF m 1 #[.val (.ref a)] [(.ref a)])) _
    refine st1 _ ?_
    show Steps p.tables e below (T1.setTop (mkF m 4 #[.val (.ref a)] [])) _
    exact kt
  obtain ⟨fs, hr, hrun, hended, hW, hsame⟩ := X1.leave (v := none) (fun _ => rfl)
  refine ⟨_, _, k2 _ (X1.returnOut hx Bd.returns (hb hby d4_4) hr), hrun, hended, _, _, rfl, ?_, ⟨_, rfl⟩, hW, hsame.mono (by decide) (by decide)⟩
  show Q4 Z a h0 n0 _ T1.heap _
  rw [e1]
  exact ⟨rfl, N0, rfl⟩
theorem d6_0 : decode jdk_31_method_11_code 0 = .ok (.aload_n 0, 1) := by decide +kernel
theorem d6_1 : decode jdk_31_method_11_code 1 = .ok (.ifnonnull 12, 3) := by decide +kernel
theorem d6_13 : decode jdk_31_method_11_code 13 = .ok (.aload_n 0, 1) := by decide +kernel
theorem d6_14 : decode jdk_31_method_11_code 14 = .ok (.areturn, 1) := by decide +kernel
theorem pn_6 : plainName "java/util/Objects" = true := by first | (simp [plainName, overriddenIn]; done) | decide +kernel
theorem ef_6 (m : MethodId) (x0 : Addr) (x1 : Addr) : entryFrame m #[(.ref x0), (.ref x1)] 2 = mkF m 0 #[.val (.ref x0), .val (.ref x1)] [] := by first | (simp [entryFrame, mkF, argsToLocals, Value.category]; done) | rfl
def Q6 (Z : State) (x : Addr) (ms : Addr) (h0 : Heap) (n0 : Nat) (rv_ : Option Value) (h : Heap) (LL_ : List Loc) : Prop := rv_ = some (.ref x) ∧ Fr n0 LL_ ∧ h = h0
set_option maxRecDepth 65536 in
set_option maxHeartbeats 40000000 in
theorem rm6 (l : Launch) (Z : State) (a0 : Array Value) (hw : ∀ d ∈ tables_1, d.before a0 Z = true) (ws : List Jvm.Cond) (x : Addr) (ms : Addr) (h0 : Heap) (n0 : Nat) :
    MetFree l (⟨"java/util/Objects", "requireNonNull", "(Ljava/lang/Object;Ljava/lang/String;)Ljava/lang/Object;"⟩ : MethodName) (head1 (Jvm.Cond.code (⟨"java/util/Objects", "requireNonNull", "(Ljava/lang/Object;Ljava/lang/String;)Ljava/lang/Object;"⟩ : MethodName) jdk_31_method_11_code 2 (some (.object "java/lang/Object")) :: ws) ({ frames := 0, cells := 0, slots := 0, locals := 0 } : Room)) (fun aa UU => aa = #[(.ref x), (.ref ms)] ∧ Z.Warmed39 UU.vm ∧ UU.heap = h0) (fun _ _ _ _ _ => True) (fun _ UU oo UV => ∃ vv LL, oo = .returned vv ∧ Q6 Z x ms h0 n0 vv UV.heap LL ∧ FrameEnd UU oo UV LL ({ frames := 0, cells := 0, slots := 0, locals := 0 } : Room).cells ({ frames := 0, cells := 0, slots := 0, locals := 0 } : Room).slots) := by
  refine MetFree.of_bodySF (plainFor_of_name pn_6) hisR ?_
  intro p e s m args below meth c s₁ Bd hml0 hP hK
  obtain ⟨rfl, hZ, hh⟩ := hP
  have hx := Bd.exec
  have hby := Bd.bytes
  have hml : c.maxLocals = 2 := hml0
  have hown : s.vm.findClass "java/util/Objects" = some m.cls := findClass_of_methodNamed Bd.named
  have hnm := (name_of_methodNamed Bd.named Bd.method).1
  have X0 : Stand p l e ({ frames := 0, cells := 0, slots := 0, locals := 0 } : Room) s m #[(.ref x), (.ref ms)] below meth c s₁ [] 0 0 := Stand.of_body Bd
  have e0 : s₁.heap = h0 := by rw [← hh, Bd.state]; rfl
  have N0 := Fr.nil n0
  have k0 : ∀ tg_, Steps p.tables e below (s₁.setTop (mkF m 0 #[.val (.ref x), .val (.ref ms)] [])) tg_ → Steps p.tables e below (s₁.setTop (entryFrame m #[(.ref x), (.ref ms)] 2)) tg_ := fun tg_ k => castTop (ef_6 m x ms) k
  have k3 : ∀ tg_, Steps p.tables e below (s₁.setTop (mkF m 14 #[.val (.ref x), .val (.ref ms)] [(.ref x)])) tg_ → Steps p.tables e below (s₁.setTop (entryFrame m #[(.ref x), (.ref ms)] 2)) tg_ := by
    intro tg_ kt
    refine k0 tg_ ?_
    refine XS.aloadN X0.here hx rfl (hb hby d6_0) rfl rfl ?_
    show Steps p.tables e below (s₁.setTop (mkF m 1 #[.val (.ref x), .val (.ref ms)] [(.ref x)])) _
    refine XS.ifnonnullYes X0.here hx rfl (pc0 := 1) (pc' := 13) rfl (hb hby d6_1) rfl (by decide) (by decide) ?_
    show Steps p.tables e below (s₁.setTop (mkF m 13 #[.val (.ref x), .val (.ref ms)] [])) _
    refine XS.aloadN X0.here hx rfl (hb hby d6_13) rfl rfl ?_
    show Steps p.tables e below (s₁.setTop (mkF m 14 #[.val (.ref x), .val (.ref ms)] [(.ref x)])) _
    exact kt
  obtain ⟨fs, hr, hrun, hended, hW, hsame⟩ := X0.leave (v := some (.ref x)) (fun h => by rw [Bd.returns] at h; cases h)
  refine ⟨_, _, k3 _ (retOut X0 hx Bd.returns rfl (Or.inr (Or.inr (Or.inr (Or.inr ⟨rfl, rfl, rfl⟩)))) (hb hby d6_14) hr), hrun, hended, _, _, rfl, ?_, ⟨_, rfl⟩, hW, hsame.mono (by decide) (by decide)⟩
  show Q6 Z x ms h0 n0 _ s₁.heap _
  rw [e0]
  exact ⟨rfl, N0, rfl⟩
theorem d2_0 : decode jdk_2650_method_2_code 0 = .ok (.getstatic 17, 3) := by decide +kernel
theorem d2_3 : decode jdk_2650_method_2_code 3 = .ok (.areturn, 1) := by decide +kernel
theorem pn_2 : plainName "java/util/OptionalLong" = true := by first | (simp [plainName, overriddenIn]; done) | decide +kernel
theorem ef_2 (m : MethodId)  : entryFrame m #[] 0 = mkF m 0 #[] [] := by first | (simp [entryFrame, mkF, argsToLocals, Value.category]; done) | rfl
def Q2 (Z : State)  (xo : Addr) (h0 : Heap) (n0 : Nat) (rv_ : Option Value) (h : Heap) (LL_ : List Loc) : Prop := rv_ = some (.ref xo) ∧ Fr n0 LL_ ∧ h = h0
set_option maxRecDepth 65536 in
set_option maxHeartbeats 40000000 in
theorem rm2 (l : Launch) (Z : State) (a0 : Array Value) (hw : ∀ d ∈ tables_1, d.before a0 Z = true) (ws : List Jvm.Cond)  (xo : Addr) (h0 : Heap) (n0 : Nat) (S_EMPTY : Sta Z h0 "java/util/OptionalLong" "EMPTY" "Ljava/util/OptionalLong;" (.ref xo)) :
    MetFree l (⟨"java/util/OptionalLong", "empty", "()Ljava/util/OptionalLong;"⟩ : MethodName) (head1 (Jvm.Cond.code (⟨"java/util/OptionalLong", "empty", "()Ljava/util/OptionalLong;"⟩ : MethodName) jdk_2650_method_2_code 0 (some (.object "java/util/OptionalLong")) :: ws) ({ frames := 0, cells := 0, slots := 0, locals := 0 } : Room)) (fun aa UU => aa = #[] ∧ Z.Warmed39 UU.vm ∧ UU.heap = h0) (fun _ _ _ _ _ => True) (fun _ UU oo UV => ∃ vv LL, oo = .returned vv ∧ Q2 Z xo h0 n0 vv UV.heap LL ∧ FrameEnd UU oo UV LL ({ frames := 0, cells := 0, slots := 0, locals := 0 } : Room).cells ({ frames := 0, cells := 0, slots := 0, locals := 0 } : Room).slots) := by
  refine MetFree.of_bodySF (plainFor_of_name pn_2) hisR ?_
  intro p e s m args below meth c s₁ Bd hml0 hP hK
  obtain ⟨rfl, hZ, hh⟩ := hP
  have hx := Bd.exec
  have hby := Bd.bytes
  have hml : c.maxLocals = 0 := hml0
  have hown : s.vm.findClass "java/util/OptionalLong" = some m.cls := findClass_of_methodNamed Bd.named
  have hnm := (name_of_methodNamed Bd.named Bd.method).1
  have X0 : Stand p l e ({ frames := 0, cells := 0, slots := 0, locals := 0 } : Room) s m #[] below meth c s₁ [] 0 0 := Stand.of_body Bd
  have e0 : s₁.heap = h0 := by rw [← hh, Bd.state]; rfl
  have N0 := Fr.nil n0
  have k0 : ∀ tg_, Steps p.tables e below (s₁.setTop (mkF m 0 #[] [])) tg_ → Steps p.tables e below (s₁.setTop (entryFrame m #[] 0)) tg_ := fun tg_ k => castTop (ef_2 m ) k
  obtain ⟨T4, X4, e4, st4⟩ := getS2 X0 hx hZ hown (host := "") (Or.inl (hw _ (List.mem_of_getElem? (i := 19) rfl))) Via.refl e0 S_EMPTY (g := (mkF m 0 #[] [])) rfl (hb hby d2_0)
  have k5 : ∀ tg_, Steps p.tables e below (T4.setTop (mkF m 3 #[] [(.ref xo)])) tg_ → Steps p.tables e below (s₁.setTop (entryFrame m #[] 0)) tg_ := by
    intro tg_ kt
    refine k0 tg_ ?_
    refine st4 _ ?_
    show Steps p.tables e below (T4.setTop (mkF m 3 #[] [(.ref xo)])) _
    exact kt
  obtain ⟨fs, hr, hrun, hended, hW, hsame⟩ := X4.leave (v := some (.ref xo)) (fun h => by rw [Bd.returns] at h; cases h)
  refine ⟨_, _, k5 _ (retOut X4 hx Bd.returns rfl (Or.inr (Or.inr (Or.inr (Or.inr ⟨rfl, rfl, rfl⟩)))) (hb hby d2_3) hr), hrun, hended, _, _, rfl, ?_, ⟨_, rfl⟩, hW, hsame.mono (by decide) (by decide)⟩
  show Q2 Z xo h0 n0 _ T4.heap _
  rw [e4]
  exact ⟨rfl, N0, rfl⟩
theorem d7_0 : decode jdk_2650_method_6_code 0 = .ok (.aload_n 0, 1) := by decide +kernel
theorem d7_1 : decode jdk_2650_method_6_code 1 = .ok (.getfield 7, 3) := by decide +kernel
theorem d7_4 : decode jdk_2650_method_6_code 4 = .ok (.ireturn, 1) := by decide +kernel
theorem pn_7 : plainName "java/util/OptionalLong" = true := by first | (simp [plainName, overriddenIn]; done) | decide +kernel
theorem ef_7 (m : MethodId) (x0 : Addr) : entryFrame m #[(.ref x0)] 1 = mkF m 0 #[.val (.ref x0)] [] := by first | (simp [entryFrame, mkF, argsToLocals, Value.category]; done) | rfl
def Q7 (Z : State) (xo : Addr) (h0 : Heap) (n0 : Nat) (rv_ : Option Value) (h : Heap) (LL_ : List Loc) : Prop := rv_ = some (.int (0 : Int32)) ∧ Fr n0 LL_ ∧ h = h0
set_option maxRecDepth 65536 in
set_option maxHeartbeats 40000000 in
theorem rm7 (l : Launch) (Z : State) (a0 : Array Value) (hw : ∀ d ∈ tables_1, d.before a0 Z = true) (ws : List Jvm.Cond) (xo : Addr) (h0 : Heap) (n0 : Nat) (F_xo_isPresent : Fld Z h0 xo "java/util/OptionalLong" "isPresent" "Z" (.int (0 : Int32))) :
    MetFree l (⟨"java/util/OptionalLong", "isPresent", "()Z"⟩ : MethodName) (head1 (Jvm.Cond.code (⟨"java/util/OptionalLong", "isPresent", "()Z"⟩ : MethodName) jdk_2650_method_6_code 1 (some .boolean) :: ws) ({ frames := 0, cells := 0, slots := 0, locals := 0 } : Room)) (fun aa UU => aa = #[(.ref xo)] ∧ Z.Warmed39 UU.vm ∧ UU.heap = h0) (fun _ _ _ _ _ => True) (fun _ UU oo UV => ∃ vv LL, oo = .returned vv ∧ Q7 Z xo h0 n0 vv UV.heap LL ∧ FrameEnd UU oo UV LL ({ frames := 0, cells := 0, slots := 0, locals := 0 } : Room).cells ({ frames := 0, cells := 0, slots := 0, locals := 0 } : Room).slots) := by
  refine MetFree.of_bodySF (plainFor_of_name pn_7) hisR ?_
  intro p e s m args below meth c s₁ Bd hml0 hP hK
  obtain ⟨rfl, hZ, hh⟩ := hP
  have hx := Bd.exec
  have hby := Bd.bytes
  have hml : c.maxLocals = 1 := hml0
  have hown : s.vm.findClass "java/util/OptionalLong" = some m.cls := findClass_of_methodNamed Bd.named
  have hnm := (name_of_methodNamed Bd.named Bd.method).1
  have X0 : Stand p l e ({ frames := 0, cells := 0, slots := 0, locals := 0 } : Room) s m #[(.ref xo)] below meth c s₁ [] 0 0 := Stand.of_body Bd
  have e0 : s₁.heap = h0 := by rw [← hh, Bd.state]; rfl
  have N0 := Fr.nil n0
  have k0 : ∀ tg_, Steps p.tables e below (s₁.setTop (mkF m 0 #[.val (.ref xo)] [])) tg_ → Steps p.tables e below (s₁.setTop (entryFrame m #[(.ref xo)] 1)) tg_ := fun tg_ k => castTop (ef_7 m xo) k
  obtain ⟨T6, X6, e6, st6⟩ := getF X0 hx hZ hown (host := "") (Or.inl (hw _ (List.mem_of_getElem? (i := 42) rfl))) Via.refl e0 F_xo_isPresent (g := (mkF m 1 #[.val (.ref xo)] [(.ref xo)])) rfl rfl (hb hby d7_1)
  have k7 : ∀ tg_, Steps p.tables e below (T6.setTop (mkF m 4 #[.val (.ref xo)] [(.int (0 : Int32))])) tg_ → Steps p.tables e below (s₁.setTop (entryFrame m #[(.ref xo)] 1)) tg_ := by
    intro tg_ kt
    refine k0 tg_ ?_
    refine XS.aloadN X0.here hx rfl (hb hby d7_0) rfl rfl ?_
    show Steps p.tables e below (s₁.setTop (mkF m 1 #[.val (.ref xo)] [(.ref xo)])) _
    refine st6 _ ?_
    show Steps p.tables e below (T6.setTop (mkF m 4 #[.val (.ref xo)] [(.int (0 : Int32))])) _
    exact kt
  obtain ⟨fs, hr, hrun, hended, hW, hsame⟩ := X6.leave (v := some (.int (0 : Int32))) (fun h => by rw [Bd.returns] at h; cases h)
  refine ⟨_, _, k7 _ (retN X6 hx (t := .boolean) Bd.returns (by simp) (hb hby d7_4) hr), hrun, hended, _, _, rfl, ?_, ⟨_, rfl⟩, hW, hsame.mono (by decide) (by decide)⟩
  show Q7 Z xo h0 n0 _ T6.heap _
  rw [e6]
  exact ⟨rfl, N0, rfl⟩
theorem pd_3 : parseMethodDescriptor "()V" = some ⟨[], none⟩ := by decide +kernel
theorem strW : ∀ d ∈ Bundle.stringAtoms, d ∈ tables_1 := by decide +kernel
theorem pd_4 : parseMethodDescriptor "(Ljava/lang/Object;Ljava/lang/String;)Ljava/lang/Object;" = some ⟨[(.object "java/lang/Object"), (.object "java/lang/String")], some (.object "java/lang/Object")⟩ := by decide +kernel
theorem pd_5 : parseMethodDescriptor "()Z" = some ⟨[], some .boolean⟩ := by decide +kernel
theorem d3_0 : decode prog_53_method_1_code 0 = .ok (.aload_n 0, 1) := by decide +kernel
theorem d3_1 : decode prog_53_method_1_code 1 = .ok (.invokespecial 3, 3) := by decide +kernel
theorem d3_4 : decode prog_53_method_1_code 4 = .ok (.aload_n 1, 1) := by decide +kernel
theorem d3_5 : decode prog_53_method_1_code 5 = .ok (.ldc 9, 2) := by decide +kernel
theorem d3_7 : decode prog_53_method_1_code 7 = .ok (.invokestatic 11, 3) := by decide +kernel
theorem d3_10 : decode prog_53_method_1_code 10 = .ok (.pop, 1) := by decide +kernel
theorem d3_11 : decode prog_53_method_1_code 11 = .ok (.aload 6, 2) := by decide +kernel
theorem d3_13 : decode prog_53_method_1_code 13 = .ok (.ldc 17, 2) := by decide +kernel
theorem d3_15 : decode prog_53_method_1_code 15 = .ok (.invokestatic 11, 3) := by decide +kernel
theorem d3_18 : decode prog_53_method_1_code 18 = .ok (.pop, 1) := by decide +kernel
theorem d3_19 : decode prog_53_method_1_code 19 = .ok (.lload_n 2, 1) := by decide +kernel
theorem d3_20 : decode prog_53_method_1_code 20 = .ok (.lconst 0, 1) := by decide +kernel
theorem d3_21 : decode prog_53_method_1_code 21 = .ok (.lcmp, 1) := by decide +kernel
theorem d3_22 : decode prog_53_method_1_code 22 = .ok (.ifCond .lt 10, 3) := by decide +kernel
theorem d3_25 : decode prog_53_method_1_code 25 = .ok (.lload 4, 2) := by decide +kernel
theorem d3_27 : decode prog_53_method_1_code 27 = .ok (.lconst 0, 1) := by decide +kernel
theorem d3_28 : decode prog_53_method_1_code 28 = .ok (.lcmp, 1) := by decide +kernel
theorem d3_29 : decode prog_53_method_1_code 29 = .ok (.ifCond .ge 17, 3) := by decide +kernel
theorem d3_46 : decode prog_53_method_1_code 46 = .ok (.aload 6, 2) := by decide +kernel
theorem d3_48 : decode prog_53_method_1_code 48 = .ok (.invokevirtual 28, 3) := by decide +kernel
theorem d3_51 : decode prog_53_method_1_code 51 = .ok (.ifCond .eq 20, 3) := by decide +kernel
theorem d3_71 : decode prog_53_method_1_code 71 = .ok (.aload_n 0, 1) := by decide +kernel
theorem d3_72 : decode prog_53_method_1_code 72 = .ok (.aload_n 1, 1) := by decide +kernel
theorem d3_73 : decode prog_53_method_1_code 73 = .ok (.putfield 51, 3) := by decide +kernel
theorem d3_76 : decode prog_53_method_1_code 76 = .ok (.aload_n 0, 1) := by decide +kernel
theorem d3_77 : decode prog_53_method_1_code 77 = .ok (.lload_n 2, 1) := by decide +kernel
theorem d3_78 : decode prog_53_method_1_code 78 = .ok (.putfield 56, 3) := by decide +kernel
theorem d3_81 : decode prog_53_method_1_code 81 = .ok (.aload_n 0, 1) := by decide +kernel
theorem d3_82 : decode prog_53_method_1_code 82 = .ok (.lload 4, 2) := by decide +kernel
theorem d3_84 : decode prog_53_method_1_code 84 = .ok (.putfield 60, 3) := by decide +kernel
theorem d3_87 : decode prog_53_method_1_code 87 = .ok (.aload_n 0, 1) := by decide +kernel
theorem d3_88 : decode prog_53_method_1_code 88 = .ok (.aload 6, 2) := by decide +kernel
theorem d3_90 : decode prog_53_method_1_code 90 = .ok (.putfield 63, 3) := by decide +kernel
theorem d3_93 : decode prog_53_method_1_code 93 = .ok (.return_, 1) := by decide +kernel
theorem pn_3 : plainName "com/example/tidegate/tidegate/model/Account" = true := by first | (simp [plainName, overriddenIn]; done) | decide +kernel
theorem ef_3 (m : MethodId) (x0 : Addr) (x1 : Addr) (x2 : Int64) (x3 : Int64) (x4 : Addr) : entryFrame m #[(.ref x0), (.ref x1), (.long x2), (.long x3), (.ref x4)] 7 = mkF m 0 #[.val (.ref x0), .val (.ref x1), .val (.long x2), .second, .val (.long x3), .second, .val (.ref x4)] [] := by first | (simp [entryFrame, mkF, argsToLocals, Value.category]; done) | rfl
def Q3 (Z : State) (a : Addr) (str : Addr) (q0 : Int64) (q1 : Int64) (xo : Addr) (h0 : Heap) (n0 : Nat) (rv_ : Option Value) (h : Heap) (LL_ : List Loc) : Prop := rv_ = none ∧ Fr n0 LL_ ∧ Keep h0 h [a] ∧ Fld Z h a "com/example/tidegate/tidegate/model/Account" "credit" "J" (.long q1)
set_option maxRecDepth 65536 in
set_option maxHeartbeats 40000000 in
theorem rm3 (l : Launch) (Z : State) (a0 : Array Value) (hw : ∀ d ∈ tables_1, d.before a0 Z = true) (ws : List Jvm.Cond) (a : Addr) (str : Addr) (q0 : Int64) (q1 : Int64) (xo : Addr) (h0 : Heap) (n0 : Nat) (Z0 : n0 ≤ h0.size) (E_a : Exa Z h0 a "com/example/tidegate/tidegate/model/Account") (E_xo : Exa Z h0 xo "java/util/OptionalLong") (F_a_participant : Fld Z h0 a "com/example/tidegate/tidegate/model/Account" "participant" "Ljava/lang/String;" .null) (F_a_balance : Fld Z h0 a "com/example/tidegate/tidegate/model/Account" "balance" "J" (.long (0 : Int64))) (F_a_credit : Fld Z h0 a "com/example/tidegate/tidegate/model/Account" "credit" "J" (.long (0 : Int64))) (F_a_cost : Fld Z h0 a "com/example/tidegate/tidegate/model/Account" "cost" "Ljava/util/OptionalLong;" .null) (F_xo_isPresent : Fld Z h0 xo "java/util/OptionalLong" "isPresent" "Z" (.int (0 : Int32))) (g_a : n0 ≤ a) (ne_xo_a : xo ≠ a) (hq0 : ¬ q0 < (0 : Int64)) (hq1 : ¬ q1 < (0 : Int64)) :
    MetFree l (⟨"com/example/tidegate/tidegate/model/Account", "<init>", "(Ljava/lang/String;JJLjava/util/OptionalLong;)V"⟩ : MethodName) (head1 (Jvm.Cond.code (⟨"com/example/tidegate/tidegate/model/Account", "<init>", "(Ljava/lang/String;JJLjava/util/OptionalLong;)V"⟩ : MethodName) prog_53_method_1_code 7 none :: ws) ({ frames := 2, cells := 4, slots := 68, locals := 24 } : Room)) (fun aa UU => aa = #[(.ref a), (.ref str), (.long q0), (.long q1), (.ref xo)] ∧ Z.Warmed39 UU.vm ∧ UU.heap = h0) (fun _ _ _ _ _ => True) (fun _ UU oo UV => ∃ vv LL, oo = .returned vv ∧ Q3 Z a str q0 q1 xo h0 n0 vv UV.heap LL ∧ ReturnedEndW UU oo UV LL ({ frames := 2, cells := 4, slots := 68, locals := 24 } : Room).cells ({ frames := 2, cells := 4, slots := 68, locals := 24 } : Room).slots) := by
  refine MetFree.of_bodySF (plainFor_of_name pn_3) hisR ?_
  intro p e s m args below meth c s₁ Bd hml0 hP hK
  obtain ⟨rfl, hZ, hh⟩ := hP
  have hx := Bd.exec
  have hby := Bd.bytes
  have hml : c.maxLocals = 7 := hml0
  have hown : s.vm.findClass "com/example/tidegate/tidegate/model/Account" = some m.cls := findClass_of_methodNamed Bd.named
  have hnm := (name_of_methodNamed Bd.named Bd.method).1
  have X0 : Stand p l e ({ frames := 2, cells := 4, slots := 68, locals := 24 } : Room) s m #[(.ref a), (.ref str), (.long q0), (.long q1), (.ref xo)] below meth c s₁ [] 0 0 := Stand.of_body Bd
  have e0 : s₁.heap = h0 := by rw [← hh, Bd.state]; rfl
  have N0 := Fr.nil n0
  have k0 : ∀ tg_, Steps p.tables e below (s₁.setTop (mkF m 0 #[.val (.ref a), .val (.ref str), .val (.long q0), .second, .val (.long q1), .second, .val (.ref xo)] [])) tg_ → Steps p.tables e below (s₁.setTop (entryFrame m #[(.ref a), (.ref str), (.long q0), (.long q1), (.ref xo)] 7)) tg_ := fun tg_ k => castTop (ef_3 m a str q0 q1 xo) k
  have hS0 : s.Since s.vm s.heap.size := (State.WarmedH.refl s).since _
  have hY0 : s.heap.size ≤ h0.size := Nat.le_of_eq (by rw [← hh])
  obtain ⟨_, _, ⟨T8, L8, kc8, nc8⟩, -, X8, ⟨Lc8, hQ8, l8, y8, z8⟩, st8⟩ := X0.specialBack hx (y := (⟨"java/lang/Record", "<init>", "()V"⟩ : MethodName)) rfl hown (mvT hZ (hw _ (List.mem_of_getElem? (i := 23) rfl))) (mvT hZ (hw _ (List.mem_of_getElem? (i := 24) rfl))) (mvT hZ (hw _ (List.mem_of_getElem? (i := 27) rfl))) (by decide) (backOf (W := 0) (rm4 l Z a0 hw [] a h0 n0 ) hZ (hw _ (List.mem_of_getElem? (i := 27) rfl)) (hw _ (List.mem_of_getElem? (i := 26) rfl)) (by decide) (by decide)) (g := (mkF m 1 #[.val (.ref a), .val (.ref str), .val (.long q0), .second, .val (.long q1), .second, .val (.ref xo)] [(.ref a)])) rfl (by rw [hml]; rfl) (Steps.refl _) (a := a) (argsL := []) (rest := []) (lenOf pd_3 rfl) rfl (by show 2 * 0 + _ ≤ _; exact Nat.le_of_eq rfl) (hb hby d3_1) (fun _ _ => ⟨rfl, e0, (by decide : 0 + 0 ≤ _), (by decide : 0 + 0 ≤ _)⟩)
  dsimp only [Pt.U, Pt.locs, Pt.cells, Pt.slots] at X8 l8 y8 z8 st8 hQ8
  rw [l8, y8, z8] at X8
  replace X8 : Stand p l e ({ frames := 2, cells := 4, slots := 68, locals := 24 } : Room) s m #[(.ref a), (.ref str), (.long q0), (.long q1), (.ref xo)] below meth c T8 _ 0 0 := X8
  obtain ⟨rfl, Nq8, eq8⟩ := hQ8
  have N8 := Fr.app N0 Nq8
  have k9 : ∀ tg_, Steps p.tables e below (T8.setTop (mkF m 5 #[.val (.ref a), .val (.ref str), .val (.long q0), .second, .val (.long q1), .second, .val (.ref xo)] [(.ref str)])) tg_ → Steps p.tables e below (s₁.setTop (entryFrame m #[(.ref a), (.ref str), (.long q0), (.long q1), (.ref xo)] 7)) tg_ := by
    intro tg_ kt
    refine k0 tg_ ?_
    refine XS.aloadN X0.here hx rfl (hb hby d3_0) rfl rfl ?_
    show Steps p.tables e below (s₁.setTop (mkF m 1 #[.val (.ref a), .val (.ref str), .val (.long q0), .second, .val (.long q1), .second, .val (.ref xo)] [(.ref a)])) _
    refine st8.trans ?_
    show Steps p.tables e below (T8.setTop (mkF m 4 #[.val (.ref a), .val (.ref str), .val (.long q0), .second, .val (.long q1), .second, .val (.ref xo)] [])) _
    refine XS.aloadN X8.here hx rfl (hb hby d3_4) rfl rfl ?_
    show Steps p.tables e below (T8.setTop (mkF m 5 #[.val (.ref a), .val (.ref str), .val (.long q0), .second, .val (.long q1), .second, .val (.ref xo)] [(.ref str)])) _
    exact kt
  obtain ⟨b10, T10, h10, k10, X10, e10, E10, hS10, hk10, hZ, hown, st10⟩ := ldcS (s := s) (vm0 := s.vm) X8 hx hZ hown (hw _ (List.mem_of_getElem? (i := 31) rfl)) (fun d hd => hw d (strW d hd)) eq8 hS0 hY0 (g := (mkF m 5 #[.val (.ref a), .val (.ref str), .val (.long q0), .second, .val (.long q1), .second, .val (.ref xo)] [(.ref str)])) rfl (hb hby d3_5) (n := 44) (by decide) (by decide) (by decide) (by decide)
  replace X10 : Stand p l e ({ frames := 2, cells := 4, slots := 68, locals := 24 } : Room) (s.setVm T10.vm) m #[(.ref a), (.ref str), (.long q0), (.long q1), (.ref xo)] below meth c T10 _ 2 48 := X10
  obtain ⟨_, _, ⟨T11, L11, kc11, nc11⟩, -, X11, ⟨Lc11, hQ11, l11, y11, z11⟩, st11⟩ := Jvm.LawKit.callS X10 hx (y := (⟨"java/util/Objects", "requireNonNull", "(Ljava/lang/Object;Ljava/lang/String;)Ljava/lang/Object;"⟩ : MethodName)) hown (mvT hZ (hw _ (List.mem_of_getElem? (i := 32) rfl))) (mvT hZ (hw _ (List.mem_of_getElem? (i := 33) rfl))) (mvT hZ (hw _ (List.mem_of_getElem? (i := 34) rfl))) (mvT hZ (hw _ (List.mem_of_getElem? (i := 35) rfl))) (by decide) (backOf (W := 0) (rm6 l Z a0 hw [] str b10 h10 n0 ) hZ (hw _ (List.mem_of_getElem? (i := 35) rfl)) (hw _ (List.mem_of_getElem? (i := 34) rfl)) (by decide) (by decide)) (g := (mkF m 7 #[.val (.ref a), .val (.ref str), .val (.long q0), .second, .val (.long q1), .second, .val (.ref xo)] [(.ref b10), (.ref str)])) rfl (by rw [hml]; rfl) (argsL := [(.ref str), (.ref b10)]) (rest := []) (lenOf pd_4 rfl) rfl (by show 2 * 0 + _ ≤ _; exact Nat.le_of_eq rfl) (hb hby d3_7) (fun _ _ => ⟨rfl, e10, (by decide : 2 + 0 ≤ _), (by decide : 48 + 0 ≤ _)⟩)
  dsimp only [Pt.U, Pt.locs, Pt.cells, Pt.slots] at X11 l11 y11 z11 st11 hQ11
  rw [l11, y11, z11] at X11
  replace X11 : Stand p l e ({ frames := 2, cells := 4, slots := 68, locals := 24 } : Room) (s.setVm T10.vm) m #[(.ref a), (.ref str), (.long q0), (.long q1), (.ref xo)] below meth c T11 _ 2 48 := X11
  obtain ⟨rfl, Nq11, eq11⟩ := hQ11
  have N11 := Fr.app N8 Nq11
  have k12 : ∀ tg_, Steps p.tables e below (T11.setTop (mkF m 13 #[.val (.ref a), .val (.ref str), .val (.long q0), .second, .val (.long q1), .second, .val (.ref xo)] [(.ref xo)])) tg_ → Steps p.tables e below (s₁.setTop (entryFrame m #[(.ref a), (.ref str), (.long q0), (.long q1), (.ref xo)] 7)) tg_ := by
    intro tg_ kt
    refine k9 tg_ ?_
    refine st10 _ ?_
    show Steps p.tables e below (T10.setTop (mkF m 7 #[.val (.ref a), .val (.ref str), .val (.long q0), .second, .val (.long q1), .second, .val (.ref xo)] [(.ref b10), (.ref str)])) _
    refine st11 _ ?_
    show Steps p.tables e below (T11.setTop (mkF m 10 #[.val (.ref a), .val (.ref str), .val (.long q0), .second, .val (.long q1), .second, .val (.ref xo)] [(.ref str)])) _
    refine XS.pop X11.here hx rfl (hb hby d3_10) rfl rfl ?_
    show Steps p.tables e below (T11.setTop (mkF m 11 #[.val (.ref a), .val (.ref str), .val (.long q0), .second, .val (.long q1), .second, .val (.ref xo)] [])) _
    refine XS.aload X11.here hx rfl (hb hby d3_11) rfl rfl ?_
    show Steps p.tables e below (T11.setTop (mkF m 13 #[.val (.ref a), .val (.ref str), .val (.long q0), .second, .val (.long q1), .second, .val (.ref xo)] [(.ref xo)])) _
    exact kt
  obtain ⟨b13, T13, h13, k13, X13, e13, E13, hS13, hk13, hZ, hown, st13⟩ := ldcS (s := s) (vm0 := T10.vm) X11 hx hZ hown (hw _ (List.mem_of_getElem? (i := 36) rfl)) (fun d hd => hw d (strW d hd)) eq11 hS10 hk10 (g := (mkF m 13 #[.val (.ref a), .val (.ref str), .val (.long q0), .second, .val (.long q1), .second, .val (.ref xo)] [(.ref xo)])) rfl (hb hby d3_13) (n := 16) (by decide) (by decide) (by decide) (by decide)
  replace X13 : Stand p l e ({ frames := 2, cells := 4, slots := 68, locals := 24 } : Room) (s.setVm T13.vm) m #[(.ref a), (.ref str), (.long q0), (.long q1), (.ref xo)] below meth c T13 _ 4 68 := X13
  obtain ⟨_, _, ⟨T14, L14, kc14, nc14⟩, -, X14, ⟨Lc14, hQ14, l14, y14, z14⟩, st14⟩ := Jvm.LawKit.callS X13 hx (y := (⟨"java/util/Objects", "requireNonNull", "(Ljava/lang/Object;Ljava/lang/String;)Ljava/lang/Object;"⟩ : MethodName)) hown (mvT hZ (hw _ (List.mem_of_getElem? (i := 32) rfl))) (mvT hZ (hw _ (List.mem_of_getElem? (i := 33) rfl))) (mvT hZ (hw _ (List.mem_of_getElem? (i := 34) rfl))) (mvT hZ (hw _ (List.mem_of_getElem? (i := 35) rfl))) (by decide) (backOf (W := 0) (rm6 l Z a0 hw [] xo b13 h13 n0 ) hZ (hw _ (List.mem_of_getElem? (i := 35) rfl)) (hw _ (List.mem_of_getElem? (i := 34) rfl)) (by decide) (by decide)) (g := (mkF m 15 #[.val (.ref a), .val (.ref str), .val (.long q0), .second, .val (.long q1), .second, .val (.ref xo)] [(.ref b13), (.ref xo)])) rfl (by rw [hml]; rfl) (argsL := [(.ref xo), (.ref b13)]) (rest := []) (lenOf pd_4 rfl) rfl (by show 2 * 0 + _ ≤ _; exact Nat.le_of_eq rfl) (hb hby d3_15) (fun _ _ => ⟨rfl, e13, (by decide : 4 + 0 ≤ _), (by decide : 68 + 0 ≤ _)⟩)
  dsimp only [Pt.U, Pt.locs, Pt.cells, Pt.slots] at X14 l14 y14 z14 st14 hQ14
  rw [l14, y14, z14] at X14
  replace X14 : Stand p l e ({ frames := 2, cells := 4, slots := 68, locals := 24 } : Room) (s.setVm T13.vm) m #[(.ref a), (.ref str), (.long q0), (.long q1), (.ref xo)] below meth c T14 _ 4 68 := X14
  obtain ⟨rfl, Nq14, eq14⟩ := hQ14
  have N14 := Fr.app N11 Nq14
  have hc22_15 : ¬ (q0 < (0 : Int64)) := hq0
  have hc29_16 : ¬ (q1 < (0 : Int64)) := hq1
  have f17 := ((F_xo_isPresent.keep ((Keep.refl _ []).ext E10) nin0).keep ((Keep.refl _ []).ext E13) nin0)
  have f19 := ((E_xo.keep ((Keep.refl _ []).ext E10)).keep ((Keep.refl _ []).ext E13))
  obtain ⟨cq18, kq18, q18a, q18b, q18c⟩ := isOf hZ eq14 f19
  obtain ⟨_, _, ⟨T18, L18, kc18, nc18⟩, -, X18, ⟨Lc18, hQ18, l18, y18, z18⟩, st18⟩ := X14.virtualBack hx (y := (⟨"java/util/OptionalLong", "isPresent", "()Z"⟩ : MethodName)) (z := (⟨"java/util/OptionalLong", "isPresent", "()Z"⟩ : MethodName)) hown (mvT hZ (hw _ (List.mem_of_getElem? (i := 37) rfl))) (mvT hZ (hw _ (List.mem_of_getElem? (i := 38) rfl))) (notFace_of_selects (args := #[]) (mvT hZ (hw _ (List.mem_of_getElem? (i := 40) rfl)))) (mvT hZ (hw _ (List.mem_of_getElem? (i := 40) rfl))) (mvT hZ (hw _ (List.mem_of_getElem? (i := 39) rfl))) (by decide) (backOf (W := 0) (rm7 l Z a0 hw [] xo h13 n0 f17) hZ (hw _ (List.mem_of_getElem? (i := 41) rfl)) (hw _ (List.mem_of_getElem? (i := 17) rfl)) (by decide) (by decide)) q18a q18c (g := (mkF m 48 #[.val (.ref a), .val (.ref str), .val (.long q0), .second, .val (.long q1), .second, .val (.ref xo)] [(.ref xo)])) rfl (by rw [hml]; rfl) (Steps.refl _) (argsL := []) (rest := []) (lenOf pd_5 rfl) rfl (by show 2 * 0 + _ ≤ _; exact Nat.le_of_eq rfl) (hb hby d3_48) (fun _ _ => ⟨rfl, eq14, (by decide : 4 + 0 ≤ _), (by decide : 68 + 0 ≤ _)⟩)
  dsimp only [Pt.U, Pt.locs, Pt.cells, Pt.slots] at X18 l18 y18 z18 st18 hQ18
  rw [l18, y18, z18] at X18
  replace X18 : Stand p l e ({ frames := 2, cells := 4, slots := 68, locals := 24 } : Room) (s.setVm T13.vm) m #[(.ref a), (.ref str), (.long q0), (.long q1), (.ref xo)] below meth c T18 _ 4 68 := X18
  obtain ⟨rfl, Nq18, eq18⟩ := hQ18
  have N18 := Fr.app N14 Nq18
  have f20 := ((F_a_participant.keep ((Keep.refl _ []).ext E10) nin0).keep ((Keep.refl _ []).ext E13) nin0)
  have f21 := ((E_a.keep ((Keep.refl _ []).ext E10)).keep ((Keep.refl _ []).ext E13))
  obtain ⟨T22, h22, X22, e22, W22, st22⟩ := putF X18 hx hZ hown (host := "") (Or.inl (hw _ (List.mem_of_getElem? (i := 44) rfl))) Via.refl eq18 f20 f21 (Or.inr ⟨(hw _ (List.mem_of_getElem? (i := 45) rfl)), rfl, hnm⟩) (hw _ (List.mem_of_getElem? (i := 2) rfl)) (ty := (.object "java/lang/String")) (by decide) rfl rfl (g := (mkF m 73 #[.val (.ref a), .val (.ref str), .val (.long q0), .second, .val (.long q1), .second, .val (.ref xo)] [(.ref str), (.ref a)])) rfl rfl (hb hby d3_73)
  have N22 := Fr.snoc X22 N18 g_a
  have F22 := Fld.same W22 f20
  have f23 := (Fld.other W22 ((F_a_balance.keep ((Keep.refl _ []).ext E10) nin0).keep ((Keep.refl _ []).ext E13) nin0) (Or.inr (slot_ne (Or.inr (hw _ (List.mem_of_getElem? (i := 47) rfl))) (Or.inr (hw _ (List.mem_of_getElem? (i := 45) rfl))) (by decide) (t := .long) (t' := (.object "java/lang/String")) (by decide) (by decide))))
  have f24 := (f21.keep (Keep.of_wr W22))
  obtain ⟨T25, h25, X25, e25, W25, st25⟩ := putF X22 hx hZ hown (host := "") (Or.inl (hw _ (List.mem_of_getElem? (i := 46) rfl))) Via.refl e22 f23 f24 (Or.inr ⟨(hw _ (List.mem_of_getElem? (i := 47) rfl)), rfl, hnm⟩) (hw _ (List.mem_of_getElem? (i := 2) rfl)) (ty := .long) (by decide) rfl rfl (g := (mkF m 78 #[.val (.ref a), .val (.ref str), .val (.long q0), .second, .val (.long q1), .second, .val (.ref xo)] [(.long q0), (.ref a)])) rfl rfl (hb hby d3_78)
  have N25 := Fr.snoc X25 N22 g_a
  have F25 := Fld.same W25 f23
  have f26 := (Fld.other W25 (Fld.other W22 ((F_a_credit.keep ((Keep.refl _ []).ext E10) nin0).keep ((Keep.refl _ []).ext E13) nin0) (Or.inr (slot_ne (Or.inr (hw _ (List.mem_of_getElem? (i := 49) rfl))) (Or.inr (hw _ (List.mem_of_getElem? (i := 45) rfl))) (by decide) (t := .long) (t' := (.object "java/lang/String")) (by decide) (by decide)))) (Or.inr (slot_ne (Or.inr (hw _ (List.mem_of_getElem? (i := 49) rfl))) (Or.inr (hw _ (List.mem_of_getElem? (i := 47) rfl))) (by decide) (t := .long) (t' := .long) (by decide) (by decide))))
  have f27 := (f24.keep (Keep.of_wr W25))
  obtain ⟨T28, h28, X28, e28, W28, st28⟩ := putF X25 hx hZ hown (host := "") (Or.inl (hw _ (List.mem_of_getElem? (i := 48) rfl))) Via.refl e25 f26 f27 (Or.inr ⟨(hw _ (List.mem_of_getElem? (i := 49) rfl)), rfl, hnm⟩) (hw _ (List.mem_of_getElem? (i := 2) rfl)) (ty := .long) (by decide) rfl rfl (g := (mkF m 84 #[.val (.ref a), .val (.ref str), .val (.long q0), .second, .val (.long q1), .second, .val (.ref xo)] [(.long q1), (.ref a)])) rfl rfl (hb hby d3_84)
  have N28 := Fr.snoc X28 N25 g_a
  have F28 := Fld.same W28 f26
  have f29 := (Fld.other W28 (Fld.other W25 (Fld.other W22 ((F_a_cost.keep ((Keep.refl _ []).ext E10) nin0).keep ((Keep.refl _ []).ext E13) nin0) (Or.inr (slot_ne (Or.inr (hw _ (List.mem_of_getElem? (i := 51) rfl))) (Or.inr (hw _ (List.mem_of_getElem? (i := 45) rfl))) (by decide) (t := (.object "java/util/OptionalLong")) (t' := (.object "java/lang/String")) (by decide) (by decide)))) (Or.inr (slot_ne (Or.inr (hw _ (List.mem_of_getElem? (i := 51) rfl))) (Or.inr (hw _ (List.mem_of_getElem? (i := 47) rfl))) (by decide) (t := (.object "java/util/OptionalLong")) (t' := .long) (by decide) (by decide)))) (Or.inr (slot_ne (Or.inr (hw _ (List.mem_of_getElem? (i := 51) rfl))) (Or.inr (hw _ (List.mem_of_getElem? (i := 49) rfl))) (by decide) (t := (.object "java/util/OptionalLong")) (t' := .long) (by decide) (by decide))))
  have f30 := (f27.keep (Keep.of_wr W28))
  obtain ⟨T31, h31, X31, e31, W31, st31⟩ := putF X28 hx hZ hown (host := "") (Or.inl (hw _ (List.mem_of_getElem? (i := 50) rfl))) Via.refl e28 f29 f30 (Or.inr ⟨(hw _ (List.mem_of_getElem? (i := 51) rfl)), rfl, hnm⟩) (hw _ (List.mem_of_getElem? (i := 2) rfl)) (ty := (.object "java/util/OptionalLong")) (by decide) rfl rfl (g := (mkF m 90 #[.val (.ref a), .val (.ref str), .val (.long q0), .second, .val (.long q1), .second, .val (.ref xo)] [(.ref xo), (.ref a)])) rfl rfl (hb hby d3_90)
  have N31 := Fr.snoc X31 N28 g_a
  have F31 := Fld.same W31 f29
  have k32 : ∀ tg_, Steps p.tables e below (T31.setTop (mkF m 93 #[.val (.ref a), .val (.ref str), .val (.long q0), .second, .val (.long q1), .second, .val (.ref xo)] [])) tg_ → Steps p.tables e below (s₁.setTop (entryFrame m #[(.ref a), (.ref str), (.long q0), (.long q1), (.ref xo)] 7)) tg_ := by
    intro tg_ kt
    refine k12 tg_ ?_
    refine st13 _ ?_
    show Steps p.tables e below (T13.setTop (mkF m 15 #[.val (.ref a), .val (.ref str), .val (.long q0), .second, .val (.long q1), .second, .val (.ref xo)] [(.ref b13), (.ref xo)])) _
    refine st14 _ ?_
    show Steps p.tables e below (T14.setTop (mkF m 18 #[.val (.ref a), .val (.ref str), .val (.long q0), .second, .val (.long q1), .second, .val (.ref xo)] [(.ref xo)])) _
    refine XS.pop X14.here hx rfl (hb hby d3_18) rfl rfl ?_
    show Steps p.tables e below (T14.setTop (mkF m 19 #[.val (.ref a), .val (.ref str), .val (.long q0), .second, .val (.long q1), .second, .val (.ref xo)] [])) _
    refine XS.lloadN X14.here hx rfl (hb hby d3_19) rfl ?_
    show Steps p.tables e below (T14.setTop (mkF m 20 #[.val (.ref a), .val (.ref str), .val (.long q0), .second, .val (.long q1), .second, .val (.ref xo)] [(.long q0)])) _
    refine XS.lconst X14.here hx rfl (hb hby d3_20) ?_
    show Steps p.tables e below (T14.setTop (mkF m 21 #[.val (.ref a), .val (.ref str), .val (.long q0), .second, .val (.long q1), .second, .val (.ref xo)] [(.long (0 : Int64)), (.long q0)])) _
    refine XS.lcmp X14.here hx rfl (hb hby d3_21) rfl ?_
    show Steps p.tables e below (T14.setTop (mkF m 22 #[.val (.ref a), .val (.ref str), .val (.long q0), .second, .val (.long q1), .second, .val (.ref xo)] [(.int (lcmpW q0 (0 : Int64)))])) _
    refine XS.ifNo X14.here hx rfl (hb hby d3_22) rfl ((if0 _ _).trans (flt (fun qq_ => hc22_15 ((show ((lcmpW q0 (0 : Int64)) < 0) ↔ (q0 < (0 : Int64)) from lw_lt q0 (0 : Int64)).mp qq_))).1) ?_
    show Steps p.tables e below (T14.setTop (mkF m 25 #[.val (.ref a), .val (.ref str), .val (.long q0), .second, .val (.long q1), .second, .val (.ref xo)] [])) _
    refine XS.lload X14.here hx rfl (hb hby d3_25) rfl ?_
    show Steps p.tables e below (T14.setTop (mkF m 27 #[.val (.ref a), .val (.ref str), .val (.long q0), .second, .val (.long q1), .second, .val (.ref xo)] [(.long q1)])) _
    refine XS.lconst X14.here hx rfl (hb hby d3_27) ?_
    show Steps p.tables e below (T14.setTop (mkF m 28 #[.val (.ref a), .val (.ref str), .val (.long q0), .second, .val (.long q1), .second, .val (.ref xo)] [(.long (0 : Int64)), (.long q1)])) _
    refine XS.lcmp X14.here hx rfl (hb hby d3_28) rfl ?_
    show Steps p.tables e below (T14.setTop (mkF m 29 #[.val (.ref a), .val (.ref str), .val (.long q0), .second, .val (.long q1), .second, .val (.ref xo)] [(.int (lcmpW q1 (0 : Int64)))])) _
    refine XS.ifYes X14.here hx rfl (pc0 := 29) (pc' := 46) rfl (hb hby d3_29) rfl ((if0 _ _).trans (flt (fun qq_ => hc29_16 ((show ((lcmpW q1 (0 : Int64)) < 0) ↔ (q1 < (0 : Int64)) from lw_lt q1 (0 : Int64)).mp qq_))).2.1) (by decide) (by decide) ?_
    show Steps p.tables e below (T14.setTop (mkF m 46 #[.val (.ref a), .val (.ref str), .val (.long q0), .second, .val (.long q1), .second, .val (.ref xo)] [])) _
    refine XS.aload X14.here hx rfl (hb hby d3_46) rfl rfl ?_
    show Steps p.tables e below (T14.setTop (mkF m 48 #[.val (.ref a), .val (.ref str), .val (.long q0), .second, .val (.long q1), .second, .val (.ref xo)] [(.ref xo)])) _
    refine st18.trans ?_
    show Steps p.tables e below (T18.setTop (mkF m 51 #[.val (.ref a), .val (.ref str), .val (.long q0), .second, .val (.long q1), .second, .val (.ref xo)] [(.int (0 : Int32))])) _
    refine XS.ifYes X18.here hx rfl (pc0 := 51) (pc' := 71) rfl (hb hby d3_51) rfl ((if0 _ _).trans (teq (by decide : (0 : Int32) = (0 : Int32))).1) (by decide) (by decide) ?_
    show Steps p.tables e below (T18.setTop (mkF m 71 #[.val (.ref a), .val (.ref str), .val (.long q0), .second, .val (.long q1), .second, .val (.ref xo)] [])) _
    refine XS.aloadN X18.here hx rfl (hb hby d3_71) rfl rfl ?_
    show Steps p.tables e below (T18.setTop (mkF m 72 #[.val (.ref a), .val (.ref str), .val (.long q0), .second, .val (.long q1), .second, .val (.ref xo)] [(.ref a)])) _
    refine XS.aloadN X18.here hx rfl (hb hby d3_72) rfl rfl ?_
    show Steps p.tables e below (T18.setTop (mkF m 73 #[.val (.ref a), .val (.ref str), .val (.long q0), .second, .val (.long q1), .second, .val (.ref xo)] [(.ref str), (.ref a)])) _
    refine st22 _ ?_
    show Steps p.tables e below (T22.setTop (mkF m 76 #[.val (.ref a), .val (.ref str), .val (.long q0), .second, .val (.long q1), .second, .val (.ref xo)] [])) _
    refine XS.aloadN X22.here hx rfl (hb hby d3_76) rfl rfl ?_
    show Steps p.tables e below (T22.setTop (mkF m 77 #[.val (.ref a), .val (.ref str), .val (.long q0), .second, .val (.long q1), .second, .val (.ref xo)] [(.ref a)])) _
    refine XS.lloadN X22.here hx rfl (hb hby d3_77) rfl ?_
    show Steps p.tables e below (T22.setTop (mkF m 78 #[.val (.ref a), .val (.ref str), .val (.long q0), .second, .val (.long q1), .second, .val (.ref xo)] [(.long q0), (.ref a)])) _
    refine st25 _ ?_
    show Steps p.tables e below (T25.setTop (mkF m 81 #[.val (.ref a), .val (.ref str), .val (.long q0), .second, .val (.long q1), .second, .val (.ref xo)] [])) _
    refine XS.aloadN X25.here hx rfl (hb hby d3_81) rfl rfl ?_
    show Steps p.tables e below (T25.setTop (mkF m 82 #[.val (.ref a), .val (.ref str), .val (.long q0), .second, .val (.long q1), .second, .val (.ref xo)] [(.ref a)])) _
    refine XS.lload X25.here hx rfl (hb hby d3_82) rfl ?_
    show Steps p.tables e below (T25.setTop (mkF m 84 #[.val (.ref a), .val (.ref str), .val (.long q0), .second, .val (.long q1), .second, .val (.ref xo)] [(.long q1), (.ref a)])) _
    refine st28 _ ?_
    show Steps p.tables e below (T28.setTop (mkF m 87 #[.val (.ref a), .val (.ref str), .val (.long q0), .second, .val (.long q1), .second, .val (.ref xo)] [])) _
    refine XS.aloadN X28.here hx rfl (hb hby d3_87) rfl rfl ?_
    show Steps p.tables e below (T28.setTop (mkF m 88 #[.val (.ref a), .val (.ref str), .val (.long q0), .second, .val (.long q1), .second, .val (.ref xo)] [(.ref a)])) _
    refine XS.aload X28.here hx rfl (hb hby d3_88) rfl rfl ?_
    show Steps p.tables e below (T28.setTop (mkF m 90 #[.val (.ref a), .val (.ref str), .val (.long q0), .second, .val (.long q1), .second, .val (.ref xo)] [(.ref xo), (.ref a)])) _
    refine st31 _ ?_
    show Steps p.tables e below (T31.setTop (mkF m 93 #[.val (.ref a), .val (.ref str), .val (.long q0), .second, .val (.long q1), .second, .val (.ref xo)] [])) _
    exact kt
  have f33 := (((((((Keep.refl h0 [a]).trans ((Keep.refl _ []).ext E10) all0).trans ((Keep.refl _ []).ext E13) all0).trans (Keep.of_wr W22) (allS (Or.inl (List.mem_of_getElem? (i := 0) rfl)) all0)).trans (Keep.of_wr W25) (allS (Or.inl (List.mem_of_getElem? (i := 0) rfl)) all0)).trans (Keep.of_wr W28) (allS (Or.inl (List.mem_of_getElem? (i := 0) rfl)) all0)).trans (Keep.of_wr W31) (allS (Or.inl (List.mem_of_getElem? (i := 0) rfl)) all0))
  have f34 := (Fld.other W31 F28 (Or.inr (slot_ne (Or.inr (hw _ (List.mem_of_getElem? (i := 49) rfl))) (Or.inr (hw _ (List.mem_of_getElem? (i := 51) rfl))) (by decide) (t := .long) (t' := (.object "java/util/OptionalLong")) (by decide) (by decide))))
  have f35 := (Nat.le_trans (Nat.le_trans (Nat.le_trans (Nat.le_trans hk13 (Keep.of_wr W22).1) (Keep.of_wr W25).1) (Keep.of_wr W28).1) (Keep.of_wr W31).1)
  obtain ⟨fs, hr, hrun, hended, hW1, hW2, hW3, hsame⟩ := Stand.leaveW (s := s) (vm₁ := T13.vm) X31 hS13 (Nat.le_trans f35 (Nat.le_of_eq (congrArg Array.size (Eq.symm (show T31.heap = h31 from e31))))) (v := none) (fun _ => rfl)
  refine ⟨_, _, k32 _ (X31.returnOut hx Bd.returns (hb hby d3_93) hr), hrun, hended, _, _, rfl, ?_, hW1, hW2, hW3, hsame.mono (by decide) (by decide)⟩
  show Q3 Z a str q0 q1 xo h0 n0 _ T31.heap _
  rw [e31]
  exact ⟨rfl, N31, f33, f34⟩
theorem pd_1 : parseMethodDescriptor "()Ljava/util/OptionalLong;" = some ⟨[], some (.object "java/util/OptionalLong")⟩ := by decide +kernel
theorem pd_2 : parseMethodDescriptor "(Ljava/lang/String;JJLjava/util/OptionalLong;)V" = some ⟨[(.object "java/lang/String"), .long, .long, (.object "java/util/OptionalLong")], none⟩ := by decide +kernel
theorem d1_0 : decode prog_53_method_2_code 0 = .ok (.aload_n 0, 1) := by decide +kernel
theorem d1_1 : decode prog_53_method_2_code 1 = .ok (.aload_n 1, 1) := by decide +kernel
theorem d1_2 : decode prog_53_method_2_code 2 = .ok (.lload_n 2, 1) := by decide +kernel
theorem d1_3 : decode prog_53_method_2_code 3 = .ok (.lload 4, 2) := by decide +kernel
theorem d1_5 : decode prog_53_method_2_code 5 = .ok (.invokestatic 66, 3) := by decide +kernel
theorem d1_8 : decode prog_53_method_2_code 8 = .ok (.invokespecial 70, 3) := by decide +kernel
theorem d1_11 : decode prog_53_method_2_code 11 = .ok (.return_, 1) := by decide +kernel
theorem pn_1 : plainName "com/example/tidegate/tidegate/model/Account" = true := by first | (simp [plainName, overriddenIn]; done) | decide +kernel
theorem ef_1 (m : MethodId) (x0 : Addr) (x1 : Addr) (x2 : Int64) (x3 : Int64) : entryFrame m #[(.ref x0), (.ref x1), (.long x2), (.long x3)] 6 = mkF m 0 #[.val (.ref x0), .val (.ref x1), .val (.long x2), .second, .val (.long x3), .second] [] := by first | (simp [entryFrame, mkF, argsToLocals, Value.category]; done) | rfl
def Q1 (Z : State) (a : Addr) (str : Addr) (q0 : Int64) (q1 : Int64) (xo : Addr) (h0 : Heap) (n0 : Nat) (rv_ : Option Value) (h : Heap) (LL_ : List Loc) : Prop := rv_ = none ∧ Fr n0 LL_ ∧ Keep h0 h [a] ∧ Fld Z h a "com/example/tidegate/tidegate/model/Account" "credit" "J" (.long q1)
set_option maxRecDepth 65536 in
set_option maxHeartbeats 40000000 in
theorem rm1 (l : Launch) (Z : State) (a0 : Array Value) (hw : ∀ d ∈ tables_1, d.before a0 Z = true) (ws : List Jvm.Cond) (a : Addr) (str : Addr) (q0 : Int64) (q1 : Int64) (xo : Addr) (h0 : Heap) (n0 : Nat) (Z0 : n0 ≤ h0.size) (E_a : Exa Z h0 a "com/example/tidegate/tidegate/model/Account") (E_xo : Exa Z h0 xo "java/util/OptionalLong") (F_a_participant : Fld Z h0 a "com/example/tidegate/tidegate/model/Account" "participant" "Ljava/lang/String;" .null) (F_a_balance : Fld Z h0 a "com/example/tidegate/tidegate/model/Account" "balance" "J" (.long (0 : Int64))) (F_a_credit : Fld Z h0 a "com/example/tidegate/tidegate/model/Account" "credit" "J" (.long (0 : Int64))) (F_a_cost : Fld Z h0 a "com/example/tidegate/tidegate/model/Account" "cost" "Ljava/util/OptionalLong;" .null) (F_xo_isPresent : Fld Z h0 xo "java/util/OptionalLong" "isPresent" "Z" (.int (0 : Int32))) (S_EMPTY : Sta Z h0 "java/util/OptionalLong" "EMPTY" "Ljava/util/OptionalLong;" (.ref xo)) (g_a : n0 ≤ a) (ne_xo_a : xo ≠ a) (hq0 : ¬ q0 < (0 : Int64)) (hq1 : ¬ q1 < (0 : Int64)) :
    MetFree l (⟨"com/example/tidegate/tidegate/model/Account", "<init>", "(Ljava/lang/String;JJ)V"⟩ : MethodName) (head1 (Jvm.Cond.code (⟨"com/example/tidegate/tidegate/model/Account", "<init>", "(Ljava/lang/String;JJ)V"⟩ : MethodName) prog_53_method_2_code 6 none :: ws) ({ frames := 3, cells := 4, slots := 68, locals := 42 } : Room)) (fun aa UU => aa = #[(.ref a), (.ref str), (.long q0), (.long q1)] ∧ Z.Warmed39 UU.vm ∧ UU.heap = h0) (fun _ _ _ _ _ => True) (fun _ UU oo UV => ∃ vv LL, oo = .returned vv ∧ Q1 Z a str q0 q1 xo h0 n0 vv UV.heap LL ∧ ReturnedEndW UU oo UV LL ({ frames := 3, cells := 4, slots := 68, locals := 42 } : Room).cells ({ frames := 3, cells := 4, slots := 68, locals := 42 } : Room).slots) := by
  refine MetFree.of_bodySF (plainFor_of_name pn_1) hisR ?_
  intro p e s m args below meth c s₁ Bd hml0 hP hK
  obtain ⟨rfl, hZ, hh⟩ := hP
  have hx := Bd.exec
  have hby := Bd.bytes
  have hml : c.maxLocals = 6 := hml0
  have hown : s.vm.findClass "com/example/tidegate/tidegate/model/Account" = some m.cls := findClass_of_methodNamed Bd.named
  have hnm := (name_of_methodNamed Bd.named Bd.method).1
  have X0 : Stand p l e ({ frames := 3, cells := 4, slots := 68, locals := 42 } : Room) s m #[(.ref a), (.ref str), (.long q0), (.long q1)] below meth c s₁ [] 0 0 := Stand.of_body Bd
  have e0 : s₁.heap = h0 := by rw [← hh, Bd.state]; rfl
  have N0 := Fr.nil n0
  have k0 : ∀ tg_, Steps p.tables e below (s₁.setTop (mkF m 0 #[.val (.ref a), .val (.ref str), .val (.long q0), .second, .val (.long q1), .second] [])) tg_ → Steps p.tables e below (s₁.setTop (entryFrame m #[(.ref a), (.ref str), (.long q0), (.long q1)] 6)) tg_ := fun tg_ k => castTop (ef_1 m a str q0 q1) k
  have hS0 : s.Since s.vm s.heap.size := (State.WarmedH.refl s).since _
  have hY0 : s.heap.size ≤ h0.size := Nat.le_of_eq (by rw [← hh])
  obtain ⟨_, _, ⟨T36, L36, kc36, nc36⟩, -, X36, ⟨Lc36, hQ36, l36, y36, z36⟩, st36⟩ := Jvm.LawKit.callS X0 hx (y := (⟨"java/util/OptionalLong", "empty", "()Ljava/util/OptionalLong;"⟩ : MethodName)) hown (mvT hZ (hw _ (List.mem_of_getElem? (i := 15) rfl))) (mvT hZ (hw _ (List.mem_of_getElem? (i := 16) rfl))) (mvT hZ (hw _ (List.mem_of_getElem? (i := 17) rfl))) (mvT hZ (hw _ (List.mem_of_getElem? (i := 18) rfl))) (by decide) (backOf (W := 6) (rm2 l Z a0 hw [] xo h0 n0 S_EMPTY) hZ (hw _ (List.mem_of_getElem? (i := 18) rfl)) (hw _ (List.mem_of_getElem? (i := 17) rfl)) (by decide) (by decide)) (g := (mkF m 5 #[.val (.ref a), .val (.ref str), .val (.long q0), .second, .val (.long q1), .second] [(.long q1), (.long q0), (.ref str), (.ref a)])) rfl (by rw [hml]; rfl) (argsL := []) (rest := [(.long q1), (.long q0), (.ref str), (.ref a)]) (lenOf pd_1 rfl) rfl (by show 2 * 0 + _ ≤ _; exact Nat.le_of_eq rfl) (hb hby d1_5) (fun _ _ => ⟨rfl, e0, (by decide : 0 + 0 ≤ _), (by decide : 0 + 0 ≤ _)⟩)
  dsimp only [Pt.U, Pt.locs, Pt.cells, Pt.slots] at X36 l36 y36 z36 st36 hQ36
  rw [l36, y36, z36] at X36
  replace X36 : Stand p l e ({ frames := 3, cells := 4, slots := 68, locals := 42 } : Room) s m #[(.ref a), (.ref str), (.long q0), (.long q1)] below meth c T36 _ 0 0 := X36
  obtain ⟨rfl, Nq36, eq36⟩ := hQ36
  have N36 := Fr.app N0 Nq36
  have k38 : ∀ tg_, Steps p.tables e below (T36.setTop (mkF m 8 #[.val (.ref a), .val (.ref str), .val (.long q0), .second, .val (.long q1), .second] [(.ref xo), (.long q1), (.long q0), (.ref str), (.ref a)])) tg_ → Steps p.tables e below (s₁.setTop (entryFrame m #[(.ref a), (.ref str), (.long q0), (.long q1)] 6)) tg_ := by
    intro tg_ kt
    refine k0 tg_ ?_
    refine XS.aloadN X0.here hx rfl (hb hby d1_0) rfl rfl ?_
    show Steps p.tables e below (s₁.setTop (mkF m 1 #[.val (.ref a), .val (.ref str), .val (.long q0), .second, .val (.long q1), .second] [(.ref a)])) _
    refine XS.aloadN X0.here hx rfl (hb hby d1_1) rfl rfl ?_
    show Steps p.tables e below (s₁.setTop (mkF m 2 #[.val (.ref a), .val (.ref str), .val (.long q0), .second, .val (.long q1), .second] [(.ref str), (.ref a)])) _
    refine XS.lloadN X0.here hx rfl (hb hby d1_2) rfl ?_
    show Steps p.tables e below (s₁.setTop (mkF m 3 #[.val (.ref a), .val (.ref str), .val (.long q0), .second, .val (.long q1), .second] [(.long q0), (.ref str), (.ref a)])) _
    refine XS.lload X0.here hx rfl (hb hby d1_3) rfl ?_
    show Steps p.tables e below (s₁.setTop (mkF m 5 #[.val (.ref a), .val (.ref str), .val (.long q0), .second, .val (.long q1), .second] [(.long q1), (.long q0), (.ref str), (.ref a)])) _
    refine st36 _ ?_
    show Steps p.tables e below (T36.setTop (mkF m 8 #[.val (.ref a), .val (.ref str), .val (.long q0), .second, .val (.long q1), .second] [(.ref xo), (.long q1), (.long q0), (.ref str), (.ref a)])) _
    exact kt
  obtain ⟨_, _, ⟨T37, L37, kc37, nc37⟩, -, X37, hs37, gr37, ⟨Lc37, hQ37, l37, y37, z37⟩, st37⟩ := X36.specialBackS hx (y := (⟨"com/example/tidegate/tidegate/model/Account", "<init>", "(Ljava/lang/String;JJLjava/util/OptionalLong;)V"⟩ : MethodName)) rfl hown (mvT hZ (hw _ (List.mem_of_getElem? (i := 20) rfl))) (mvT hZ (hw _ (List.mem_of_getElem? (i := 21) rfl))) (mvT hZ (hw _ (List.mem_of_getElem? (i := 22) rfl))) (by decide) (backOfS (W := 0) (rm3 l Z a0 hw [] a str q0 q1 xo h0 n0 Z0 E_a E_xo F_a_participant F_a_balance F_a_credit F_a_cost F_xo_isPresent g_a ne_xo_a hq0 hq1) hZ (hw _ (List.mem_of_getElem? (i := 22) rfl)) (hw _ (List.mem_of_getElem? (i := 3) rfl)) (by decide) (by decide)) (g := (mkF m 8 #[.val (.ref a), .val (.ref str), .val (.long q0), .second, .val (.long q1), .second] [(.ref xo), (.long q1), (.long q0), (.ref str), (.ref a)])) rfl (by rw [hml]; rfl) (Steps.refl _) (a := a) (argsL := [(.ref str), (.long q0), (.long q1), (.ref xo)]) (rest := []) (lenOf pd_2 rfl) rfl (by show 2 * 0 + _ ≤ _; exact Nat.le_of_eq rfl) (hb hby d1_8) (fun _ _ => ⟨rfl, eq36, (by decide : 0 + 4 ≤ _), (by decide : 0 + 68 ≤ _)⟩)
  dsimp only [Pt.U, Pt.locs, Pt.cells, Pt.slots] at X37 l37 y37 z37 st37 hQ37 hs37 gr37
  rw [l37, y37, z37] at X37
  obtain ⟨X37, hS37, hZ, hown⟩ := rebS (s := s) (vm0 := s.vm) (vm1 := T37.vm) hS0 (Nat.le_trans hY0 (Nat.le_of_eq (congrArg Array.size (Eq.symm (show T36.heap = h0 from eq36))))) X37 hs37 gr37 hZ hown
  replace X37 : Stand p l e ({ frames := 3, cells := 4, slots := 68, locals := 42 } : Room) (s.setVm T37.vm) m #[(.ref a), (.ref str), (.long q0), (.long q1)] below meth c T37 _ 4 68 := X37
  obtain ⟨rfl, Nq37, oK37, oFacredit37⟩ := hQ37
  have N37 := Fr.app N36 Nq37
  have k39 : ∀ tg_, Steps p.tables e below (T37.setTop (mkF m 11 #[.val (.ref a), .val (.ref str), .val (.long q0), .second, .val (.long q1), .second] [])) tg_ → Steps p.tables e below (s₁.setTop (entryFrame m #[(.ref a), (.ref str), (.long q0), (.long q1)] 6)) tg_ := by
    intro tg_ kt
    refine k38 tg_ ?_
    refine st37.trans ?_
    show Steps p.tables e below (T37.setTop (mkF m 11 #[.val (.ref a), .val (.ref str), .val (.long q0), .second, .val (.long q1), .second] [])) _
    exact kt
  have f40 := ((Keep.refl h0 [a]).trans oK37 (allS (Or.inl (List.mem_of_getElem? (i := 0) rfl)) all0))
  obtain ⟨fs, hr, hrun, hended, hW1, hW2, hW3, hsame⟩ := Stand.leaveW (s := s) (vm₁ := T37.vm) X37 hS37 (Nat.le_trans (Nat.le_refl T37.heap.size) (Nat.le_of_eq (congrArg Array.size (Eq.symm (show T37.heap = T37.heap from rfl))))) (v := none) (fun _ => rfl)
  refine ⟨_, _, k39 _ (X37.returnOut hx Bd.returns (hb hby d1_11) hr), hrun, hended, _, _, rfl, ?_, hW1, hW2, hW3, hsame.mono (by decide) (by decide)⟩
  show Q1 Z a str q0 q1 xo h0 n0 _ T37.heap _
  exact ⟨rfl, N37, f40, oFacredit37⟩
theorem d8_0 : decode prog_53_method_4_code 0 = .ok (.aload_n 0, 1) := by decide +kernel
theorem d8_1 : decode prog_53_method_4_code 1 = .ok (.getfield 60, 3) := by decide +kernel
theorem d8_4 : decode prog_53_method_4_code 4 = .ok (.ldc2_w 73, 3) := by decide +kernel
theorem d8_7 : decode prog_53_method_4_code 7 = .ok (.lcmp, 1) := by decide +kernel
theorem d8_8 : decode prog_53_method_4_code 8 = .ok (.ifCond .eq 14, 3) := by decide +kernel
theorem d8_11 : decode prog_53_method_4_code 11 = .ok (.lload_n 1, 1) := by decide +kernel
theorem d8_12 : decode prog_53_method_4_code 12 = .ok (.lload_n 3, 1) := by decide +kernel
theorem d8_13 : decode prog_53_method_4_code 13 = .ok (.aload_n 0, 1) := by decide +kernel
theorem d8_14 : decode prog_53_method_4_code 14 = .ok (.getfield 60, 3) := by decide +kernel
theorem d8_17 : decode prog_53_method_4_code 17 = .ok (.lsub, 1) := by decide +kernel
theorem d8_18 : decode prog_53_method_4_code 18 = .ok (.lcmp, 1) := by decide +kernel
theorem d8_19 : decode prog_53_method_4_code 19 = .ok (.ifCond .lt 7, 3) := by decide +kernel
theorem d8_22 : decode prog_53_method_4_code 22 = .ok (.iconst 1, 1) := by decide +kernel
theorem d8_23 : decode prog_53_method_4_code 23 = .ok (.goto 4, 3) := by decide +kernel
theorem d8_26 : decode prog_53_method_4_code 26 = .ok (.iconst 0, 1) := by decide +kernel
theorem d8_27 : decode prog_53_method_4_code 27 = .ok (.ireturn, 1) := by decide +kernel
theorem pn_8 : plainName "com/example/tidegate/tidegate/model/Account" = true := by first | (simp [plainName, overriddenIn]; done) | decide +kernel
theorem ef_cf (m : MethodId) (x0 : Addr) (x1 : Int64) (x2 : Int64) : entryFrame m #[(.ref x0), (.long x1), (.long x2)] 5 = mkF m 0 #[.val (.ref x0), .val (.long x1), .second, .val (.long x2), .second] [] := by first | (simp [entryFrame, mkF, argsToLocals, Value.category]; done) | rfl
def own_cf (bal : Int64) (am : Int64) (cr : Int64) : Int32 := (if cr = (9223372036854775807 : Int64) then (1 : Int32) else (if bal < (am - cr) then (0 : Int32) else (1 : Int32)))
theorem own_eq_own_cf (bal : Int64) (am : Int64) (cr : Int64) : own_cf bal am cr = (if cr = (9223372036854775807 : Int64) then (1 : Int32) else (if bal < (am - cr) then (0 : Int32) else (1 : Int32))) := rfl
def Qcf (Z : State) (a : Addr) (bal : Int64) (am : Int64) (cr : Int64) (h0 : Heap) (n0 : Nat) (rv_ : Option Value) (h : Heap) (LL_ : List Loc) : Prop := rv_ = some (.int (own_cf bal am cr)) ∧ Fr n0 LL_ ∧ h = h0
set_option maxRecDepth 65536 in
set_option maxHeartbeats 40000000 in
theorem rmcf (l : Launch) (Z : State) (a0 : Array Value) (hw : ∀ d ∈ tables_1, d.before a0 Z = true) (ws : List Jvm.Cond) (a : Addr) (bal : Int64) (am : Int64) (cr : Int64) (h0 : Heap) (n0 : Nat) (F_a_credit : Fld Z h0 a "com/example/tidegate/tidegate/model/Account" "credit" "J" (.long cr)) :
    MetFree l (⟨"com/example/tidegate/tidegate/model/Account", "canFund", "(JJ)Z"⟩ : MethodName) (head1 (Jvm.Cond.code (⟨"com/example/tidegate/tidegate/model/Account", "canFund", "(JJ)Z"⟩ : MethodName) prog_53_method_4_code 5 (some .boolean) :: ws) ({ frames := 0, cells := 0, slots := 0, locals := 0 } : Room)) (fun aa UU => aa = #[(.ref a), (.long bal), (.long am)] ∧ Z.Warmed39 UU.vm ∧ UU.heap = h0) (fun _ _ _ _ _ => True) (fun _ UU oo UV => ∃ vv LL, oo = .returned vv ∧ Qcf Z a bal am cr h0 n0 vv UV.heap LL ∧ FrameEnd UU oo UV LL ({ frames := 0, cells := 0, slots := 0, locals := 0 } : Room).cells ({ frames := 0, cells := 0, slots := 0, locals := 0 } : Room).slots) := by
  refine MetFree.of_bodySF (plainFor_of_name pn_8) hisR ?_
  intro p e s m args below meth c s₁ Bd hml0 hP hK
  obtain ⟨rfl, hZ, hh⟩ := hP
  have hx := Bd.exec
  have hby := Bd.bytes
  have hml : c.maxLocals = 5 := hml0
  have hown : s.vm.findClass "com/example/tidegate/tidegate/model/Account" = some m.cls := findClass_of_methodNamed Bd.named
  have hnm := (name_of_methodNamed Bd.named Bd.method).1
  have X0 : Stand p l e ({ frames := 0, cells := 0, slots := 0, locals := 0 } : Room) s m #[(.ref a), (.long bal), (.long am)] below meth c s₁ [] 0 0 := Stand.of_body Bd
  have e0 : s₁.heap = h0 := by rw [← hh, Bd.state]; rfl
  have N0 := Fr.nil n0
  have k0 : ∀ tg_, Steps p.tables e below (s₁.setTop (mkF m 0 #[.val (.ref a), .val (.long bal), .second, .val (.long am), .second] [])) tg_ → Steps p.tables e below (s₁.setTop (entryFrame m #[(.ref a), (.long bal), (.long am)] 5)) tg_ := fun tg_ k => castTop (ef_cf m a bal am) k
  obtain ⟨T41, X41, e41, st41⟩ := getF X0 hx hZ hown (host := "") (Or.inl (hw _ (List.mem_of_getElem? (i := 48) rfl))) Via.refl e0 F_a_credit (g := (mkF m 1 #[.val (.ref a), .val (.long bal), .second, .val (.long am), .second] [(.ref a)])) rfl rfl (hb hby d8_1)
  have k42 : ∀ tg_, Steps p.tables e below (T41.setTop (mkF m 8 #[.val (.ref a), .val (.long bal), .second, .val (.long am), .second] [(.int (lcmpW cr (9223372036854775807 : Int64)))])) tg_ → Steps p.tables e below (s₁.setTop (entryFrame m #[(.ref a), (.long bal), (.long am)] 5)) tg_ := by
    intro tg_ kt
    refine k0 tg_ ?_
    refine XS.aloadN X0.here hx rfl (hb hby d8_0) rfl rfl ?_
    show Steps p.tables e below (s₁.setTop (mkF m 1 #[.val (.ref a), .val (.long bal), .second, .val (.long am), .second] [(.ref a)])) _
    refine st41 _ ?_
    show Steps p.tables e below (T41.setTop (mkF m 4 #[.val (.ref a), .val (.long bal), .second, .val (.long am), .second] [(.long cr)])) _
    refine X41.ldc2Long hx hown (mvT hZ (hw _ (List.mem_of_getElem? (i := 57) rfl))) (g := (mkF m 4 #[.val (.ref a), .val (.long bal), .second, .val (.long am), .second] [(.long cr)])) rfl (hb hby d8_4) _ ?_
    show Steps p.tables e below (T41.setTop (mkF m 7 #[.val (.ref a), .val (.long bal), .second, .val (.long am), .second] [(.long (9223372036854775807 : Int64)), (.long cr)])) _
    refine XS.lcmp X41.here hx rfl (hb hby d8_7) rfl ?_
    show Steps p.tables e below (T41.setTop (mkF m 8 #[.val (.ref a), .val (.long bal), .second, .val (.long am), .second] [(.int (lcmpW cr (9223372036854775807 : Int64)))])) _
    exact kt
  by_cases hc8_43 : cr = (9223372036854775807 : Int64)
  · have k44 : ∀ tg_, Steps p.tables e below (T41.setTop (mkF m 27 #[.val (.ref a), .val (.long bal), .second, .val (.long am), .second] [(.int (1 : Int32))])) tg_ → Steps p.tables e below (s₁.setTop (entryFrame m #[(.ref a), (.long bal), (.long am)] 5)) tg_ := by
      intro tg_ kt
      refine k42 tg_ ?_
      refine XS.ifYes X41.here hx rfl (pc0 := 8) (pc' := 22) rfl (hb hby d8_8) rfl ((if0 _ _).trans (teq ((show ((lcmpW cr (9223372036854775807 : Int64)) = 0) ↔ (cr = (9223372036854775807 : Int64)) from lw_eq cr (9223372036854775807 : Int64)).mpr hc8_43)).1) (by decide) (by decide) ?_
      show Steps p.tables e below (T41.setTop (mkF m 22 #[.val (.ref a), .val (.long bal), .second, .val (.long am), .second] [])) _
      refine XS.iconst X41.here hx rfl (hb hby d8_22) ?_
      show Steps p.tables e below (T41.setTop (mkF m 23 #[.val (.ref a), .val (.long bal), .second, .val (.long am), .second] [(.int (1 : Int32))])) _
      refine XS.goto X41.here hx rfl (pc0 := 23) (pc' := 27) rfl (hb hby d8_23) (by decide) (by decide) ?_
      show Steps p.tables e below (T41.setTop (mkF m 27 #[.val (.ref a), .val (.long bal), .second, .val (.long am), .second] [(.int (1 : Int32))])) _
      exact kt
    obtain ⟨fs, hr, hrun, hended, hW, hsame⟩ := X41.leave (v := some (.int (1 : Int32))) (fun h => by rw [Bd.returns] at h; cases h)
    refine ⟨_, _, k44 _ (retN X41 hx (t := .boolean) Bd.returns (by simp) (hb hby d8_27) hr), hrun, hended, _, _, rfl, ?_, ⟨_, rfl⟩, hW, hsame.mono (by decide) (by decide)⟩
    show Qcf Z a bal am cr h0 n0 _ T41.heap _
    rw [e41]
    exact ⟨(by rw [own_eq_own_cf]; rw [if_pos hc8_43]), N0, rfl⟩
  · obtain ⟨T45, X45, e45, st45⟩ := getF X41 hx hZ hown (host := "") (Or.inl (hw _ (List.mem_of_getElem? (i := 48) rfl))) Via.refl e41 F_a_credit (g := (mkF m 14 #[.val (.ref a), .val (.long bal), .second, .val (.long am), .second] [(.ref a), (.long am), (.long bal)])) rfl rfl (hb hby d8_14)
    have k46 : ∀ tg_, Steps p.tables e below (T45.setTop (mkF m 19 #[.val (.ref a), .val (.long bal), .second, .val (.long am), .second] [(.int (lcmpW bal (am - cr)))])) tg_ → Steps p.tables e below (s₁.setTop (entryFrame m #[(.ref a), (.long bal), (.long am)] 5)) tg_ := by
      intro tg_ kt
      refine k42 tg_ ?_
      refine XS.ifNo X41.here hx rfl (hb hby d8_8) rfl ((if0 _ _).trans (feq (fun qq_ => hc8_43 ((show ((lcmpW cr (9223372036854775807 : Int64)) = 0) ↔ (cr = (9223372036854775807 : Int64)) from lw_eq cr (9223372036854775807 : Int64)).mp qq_))).1) ?_
      show Steps p.tables e below (T41.setTop (mkF m 11 #[.val (.ref a), .val (.long bal), .second, .val (.long am), .second] [])) _
      refine XS.lloadN X41.here hx rfl (hb hby d8_11) rfl ?_
      show Steps p.tables e below (T41.setTop (mkF m 12 #[.val (.ref a), .val (.long bal), .second, .val (.long am), .second] [(.long bal)])) _
      refine XS.lloadN X41.here hx rfl (hb hby d8_12) rfl ?_
      show Steps p.tables e below (T41.setTop (mkF m 13 #[.val (.ref a), .val (.long bal), .second, .val (.long am), .second] [(.long am), (.long bal)])) _
      refine XS.aloadN X41.here hx rfl (hb hby d8_13) rfl rfl ?_
      show Steps p.tables e below (T41.setTop (mkF m 14 #[.val (.ref a), .val (.long bal), .second, .val (.long am), .second] [(.ref a), (.long am), (.long bal)])) _
      refine st45 _ ?_
      show Steps p.tables e below (T45.setTop (mkF m 17 #[.val (.ref a), .val (.long bal), .second, .val (.long am), .second] [(.long cr), (.long am), (.long bal)])) _
      refine XS.lsub X45.here hx rfl (hb hby d8_17) rfl ?_
      show Steps p.tables e below (T45.setTop (mkF m 18 #[.val (.ref a), .val (.long bal), .second, .val (.long am), .second] [(.long (am - cr)), (.long bal)])) _
      refine XS.lcmp X45.here hx rfl (hb hby d8_18) rfl ?_
      show Steps p.tables e below (T45.setTop (mkF m 19 #[.val (.ref a), .val (.long bal), .second, .val (.long am), .second] [(.int (lcmpW bal (am - cr)))])) _
      exact kt
    by_cases hc19_47 : bal < (am - cr)
    · have k48 : ∀ tg_, Steps p.tables e below (T45.setTop (mkF m 27 #[.val (.ref a), .val (.long bal), .second, .val (.long am), .second] [(.int (0 : Int32))])) tg_ → Steps p.tables e below (s₁.setTop (entryFrame m #[(.ref a), (.long bal), (.long am)] 5)) tg_ := by
        intro tg_ kt
        refine k46 tg_ ?_
        refine XS.ifYes X45.here hx rfl (pc0 := 19) (pc' := 26) rfl (hb hby d8_19) rfl ((if0 _ _).trans (tlt ((show ((lcmpW bal (am - cr)) < 0) ↔ (bal < (am - cr)) from lw_lt bal (am - cr)).mpr hc19_47)).1) (by decide) (by decide) ?_
        show Steps p.tables e below (T45.setTop (mkF m 26 #[.val (.ref a), .val (.long bal), .second, .val (.long am), .second] [])) _
        refine XS.iconst X45.here hx rfl (hb hby d8_26) ?_
        show Steps p.tables e below (T45.setTop (mkF m 27 #[.val (.ref a), .val (.long bal), .second, .val (.long am), .second] [(.int (0 : Int32))])) _
        exact kt
      obtain ⟨fs, hr, hrun, hended, hW, hsame⟩ := X45.leave (v := some (.int (0 : Int32))) (fun h => by rw [Bd.returns] at h; cases h)
      refine ⟨_, _, k48 _ (retN X45 hx (t := .boolean) Bd.returns (by simp) (hb hby d8_27) hr), hrun, hended, _, _, rfl, ?_, ⟨_, rfl⟩, hW, hsame.mono (by decide) (by decide)⟩
      show Qcf Z a bal am cr h0 n0 _ T45.heap _
      rw [e45]
      exact ⟨(by rw [own_eq_own_cf]; rw [if_neg hc8_43, if_pos hc19_47]), N0, rfl⟩
    · have k49 : ∀ tg_, Steps p.tables e below (T45.setTop (mkF m 27 #[.val (.ref a), .val (.long bal), .second, .val (.long am), .second] [(.int (1 : Int32))])) tg_ → Steps p.tables e below (s₁.setTop (entryFrame m #[(.ref a), (.long bal), (.long am)] 5)) tg_ := by
        intro tg_ kt
        refine k46 tg_ ?_
        refine XS.ifNo X45.here hx rfl (hb hby d8_19) rfl ((if0 _ _).trans (flt (fun qq_ => hc19_47 ((show ((lcmpW bal (am - cr)) < 0) ↔ (bal < (am - cr)) from lw_lt bal (am - cr)).mp qq_))).1) ?_
        show Steps p.tables e below (T45.setTop (mkF m 22 #[.val (.ref a), .val (.long bal), .second, .val (.long am), .second] [])) _
        refine XS.iconst X45.here hx rfl (hb hby d8_22) ?_
        show Steps p.tables e below (T45.setTop (mkF m 23 #[.val (.ref a), .val (.long bal), .second, .val (.long am), .second] [(.int (1 : Int32))])) _
        refine XS.goto X45.here hx rfl (pc0 := 23) (pc' := 27) rfl (hb hby d8_23) (by decide) (by decide) ?_
        show Steps p.tables e below (T45.setTop (mkF m 27 #[.val (.ref a), .val (.long bal), .second, .val (.long am), .second] [(.int (1 : Int32))])) _
        exact kt
      obtain ⟨fs, hr, hrun, hended, hW, hsame⟩ := X45.leave (v := some (.int (1 : Int32))) (fun h => by rw [Bd.returns] at h; cases h)
      refine ⟨_, _, k49 _ (retN X45 hx (t := .boolean) Bd.returns (by simp) (hb hby d8_27) hr), hrun, hended, _, _, rfl, ?_, ⟨_, rfl⟩, hW, hsame.mono (by decide) (by decide)⟩
      show Qcf Z a bal am cr h0 n0 _ T45.heap _
      rw [e45]
      exact ⟨(by rw [own_eq_own_cf]; rw [if_neg hc8_43, if_neg hc19_47]), N0, rfl⟩
theorem own_law {bal am cr : Int64} (h1 : 0 ≤ cr.toInt) (h2 : 0 ≤ am.toInt) : (cr = (9223372036854775807 : Int64) → own_cf bal am cr = 1) ∧ (¬ cr = (9223372036854775807 : Int64) → (0 : Int64) < bal → (9223372036854775807 : Int64) - bal < cr → own_cf bal am cr = 1) ∧
    (¬ cr = (9223372036854775807 : Int64) → (¬ (0 : Int64) < bal ∨ ¬ (9223372036854775807 : Int64) - bal < cr) → (bal + cr < am → own_cf bal am cr = 0) ∧ (¬ bal + cr < am → own_cf bal am cr = 1)) := by
  have o : (9223372036854775807 : Int64).toInt = 9223372036854775807 := by decide
  have z : (0 : Int64).toInt = 0 := by decide
  have b1 := rng64 bal
  have b2 := rng64 am
  have b3 := rng64 cr
  have s1 : (am - cr).toInt = am.toInt - cr.toInt := by have := c_lsub am cr; have := rng64 (am - cr); omega
  refine ⟨fun h => by rw [own_cf, if_pos h], fun h q r => ?_, fun h q => ⟨fun r => ?_, fun r => ?_⟩⟩
  · rw [own_cf, if_neg h, if_neg]
    intro r2
    rw [Int64.lt_iff_toInt_lt] at q r r2
    have s2 : ((9223372036854775807 : Int64) - bal).toInt = 9223372036854775807 - bal.toInt := by have := c_lsub 9223372036854775807 bal; have := rng64 (9223372036854775807 - bal); omega
    omega
  · have s3 : (bal + cr).toInt = bal.toInt + cr.toInt := by
      have := c_ladd bal cr
      have := rng64 (bal + cr)
      rcases q with q | q
      · rw [Int64.lt_iff_toInt_lt] at q; omega
      · by_cases q1 : (0 : Int64) < bal
        · rw [Int64.lt_iff_toInt_lt] at q q1
          have s2 : ((9223372036854775807 : Int64) - bal).toInt = 9223372036854775807 - bal.toInt := by have := c_lsub 9223372036854775807 bal; have := rng64 (9223372036854775807 - bal); omega
          omega
        · rw [Int64.lt_iff_toInt_lt] at q1; omega
    rw [own_cf, if_neg h, if_pos]
    rw [Int64.lt_iff_toInt_lt] at r ⊢
    omega
  · have s3 : (bal + cr).toInt = bal.toInt + cr.toInt := by
      have := c_ladd bal cr
      have := rng64 (bal + cr)
      rcases q with q | q
      · rw [Int64.lt_iff_toInt_lt] at q; omega
      · by_cases q1 : (0 : Int64) < bal
        · rw [Int64.lt_iff_toInt_lt] at q q1
          have s2 : ((9223372036854775807 : Int64) - bal).toInt = 9223372036854775807 - bal.toInt := by have := c_lsub 9223372036854775807 bal; have := rng64 (9223372036854775807 - bal); omega
          omega
        · rw [Int64.lt_iff_toInt_lt] at q1; omega
    rw [own_cf, if_neg h, if_neg]
    rw [Int64.lt_iff_toInt_lt] at r ⊢
    omega
theorem pd_0 : parseMethodDescriptor "(Ljava/lang/String;JJ)V" = some ⟨[(.object "java/lang/String"), .long, .long], none⟩ := by decide +kernel
theorem pd_6 : parseMethodDescriptor "(JJ)Z" = some ⟨[.long, .long], some .boolean⟩ := by decide +kernel
theorem pn_0 : plainName "com/example/tidegate/tidegate/model/AccountCanFundPinLaw" = true := by first | (simp [plainName, overriddenIn]; done) | decide +kernel
theorem ef_0 (m : MethodId) (x0 : Int64) (x1 : Int64) (x2 : Int64) (x3 : Int64) (x4 : Int32) : entryFrame m #[(.long x0), (.long x1), (.long x2), (.long x3), (.int x4)] maxLocals = mkF m 0 #[.val (.long x0), .second, .val (.long x1), .second, .val (.long x2), .second, .val (.long x3), .second, .val (.int x4), .unset, .unset, .unset, .unset, .unset, .unset, .unset, .unset, .unset] [] := by first | (simp [entryFrame, mkF, argsToLocals, Value.category, maxLocals]; done) | rfl
def Q0 (Z : State) (q0 : Int64) (q1 : Int64) (q2 : Int64) (q3 : Int64) (p4 : Int32) (xo : Addr) (h0 : Heap) (n0 : Nat) (rv_ : Option Value) (h : Heap) (LL_ : List Loc) : Prop := rv_ = some (.int 1) ∧ Fr n0 LL_
set_option maxRecDepth 65536 in
set_option maxHeartbeats 40000000 in
theorem rm0 (l : Launch) (Z : State) (a0 : Array Value) (hw : ∀ d ∈ tables_1, d.before a0 Z = true) (ws : List Jvm.Cond) (q0 : Int64) (q1 : Int64) (q2 : Int64) (q3 : Int64) (p4 : Int32) (xo : Addr) (h0 : Heap) (n0 : Nat) (Z0 : n0 ≤ h0.size) (S_xo : Sta Z h0 "java/util/OptionalLong" "EMPTY" "Ljava/util/OptionalLong;" (.ref xo)) (E_xo : Exa Z h0 xo "java/util/OptionalLong") (F_xo : Fld Z h0 xo "java/util/OptionalLong" "isPresent" "Z" (.int (0 : Int32))) :
    MetFree l x (head1 (Jvm.Cond.code x code maxLocals ret :: ws) room_1) (fun aa UU => aa = #[(.long q0), (.long q1), (.long q2), (.long q3), (.int p4)] ∧ Z.Warmed39 UU.vm ∧ UU.heap = h0) (fun _ _ _ _ _ => True) (fun _ UU oo UV => ∃ vv LL, oo = .returned vv ∧ Q0 Z q0 q1 q2 q3 p4 xo h0 n0 vv UV.heap LL ∧ ReturnedEndW UU oo UV LL room_1.cells room_1.slots) := by
  refine MetFree.of_bodySF (plainFor_of_name pn_0) hisR ?_
  intro p e s m args below meth c s₁ Bd hml0 hP hK
  obtain ⟨rfl, hZ, hh⟩ := hP
  have hx := Bd.exec
  have hby := Bd.bytes
  have hml : c.maxLocals = 18 := hml0
  have hown : s.vm.findClass "com/example/tidegate/tidegate/model/AccountCanFundPinLaw" = some m.cls := findClass_of_methodNamed Bd.named
  have hnm := (name_of_methodNamed Bd.named Bd.method).1
  have X0 : Stand p l e room_1 s m #[(.long q0), (.long q1), (.long q2), (.long q3), (.int p4)] below meth c s₁ [] 0 0 := Stand.of_body Bd
  have e0 : s₁.heap = h0 := by rw [← hh, Bd.state]; rfl
  have N0 := Fr.nil n0
  have k0 : ∀ tg_, Steps p.tables e below (s₁.setTop (mkF m 0 #[.val (.long q0), .second, .val (.long q1), .second, .val (.long q2), .second, .val (.long q3), .second, .val (.int p4), .unset, .unset, .unset, .unset, .unset, .unset, .unset, .unset, .unset] [])) tg_ → Steps p.tables e below (s₁.setTop (entryFrame m #[(.long q0), (.long q1), (.long q2), (.long q3), (.int p4)] maxLocals)) tg_ := fun tg_ k => castTop (ef_0 m q0 q1 q2 q3 p4) k
  have hS0 : s.Since s.vm s.heap.size := (State.WarmedH.refl s).since _
  have hY0 : s.heap.size ≤ h0.size := Nat.le_of_eq (by rw [← hh])
  have k50 : ∀ tg_, Steps p.tables e below (s₁.setTop (mkF m 5 #[.val (.long q0), .second, .val (.long q1), .second, .val (.long q2), .second, .val (.long q3), .second, .val (.int p4), .unset, .unset, .unset, .unset, .unset, .unset, .unset, .unset, .unset] [(.long (q1 &&& (9223372036854775807 : Int64)))])) tg_ → Steps p.tables e below (s₁.setTop (entryFrame m #[(.long q0), (.long q1), (.long q2), (.long q3), (.int p4)] maxLocals)) tg_ := by
    intro tg_ kt
    refine k0 tg_ ?_
    refine XS.lloadN X0.here hx rfl (hb hby at_0) rfl ?_
    show Steps p.tables e below (s₁.setTop (mkF m 1 #[.val (.long q0), .second, .val (.long q1), .second, .val (.long q2), .second, .val (.long q3), .second, .val (.int p4), .unset, .unset, .unset, .unset, .unset, .unset, .unset, .unset, .unset] [(.long q1)])) _
    refine X0.ldc2Long hx hown (mvT hZ (hw _ (List.mem_of_getElem? (i := 0) rfl))) (g := (mkF m 1 #[.val (.long q0), .second, .val (.long q1), .second, .val (.long q2), .second, .val (.long q3), .second, .val (.int p4), .unset, .unset, .unset, .unset, .unset, .unset, .unset, .unset, .unset] [(.long q1)])) rfl (hb hby at_1) _ ?_
    show Steps p.tables e below (s₁.setTop (mkF m 4 #[.val (.long q0), .second, .val (.long q1), .second, .val (.long q2), .second, .val (.long q3), .second, .val (.int p4), .unset, .unset, .unset, .unset, .unset, .unset, .unset, .unset, .unset] [(.long (9223372036854775807 : Int64)), (.long q1)])) _
    refine XS.land X0.here hx rfl (hb hby at_4) rfl ?_
    show Steps p.tables e below (s₁.setTop (mkF m 5 #[.val (.long q0), .second, .val (.long q1), .second, .val (.long q2), .second, .val (.long q3), .second, .val (.int p4), .unset, .unset, .unset, .unset, .unset, .unset, .unset, .unset, .unset] [(.long (q1 &&& (9223372036854775807 : Int64)))])) _
    exact kt
  obtain ⟨v51, hv51⟩ : ∃ z : Int64, z = (q1 &&& (9223372036854775807 : Int64)) := ⟨_, rfl⟩
  rw [← hv51] at k50
  have k52 : ∀ tg_, Steps p.tables e below (s₁.setTop (mkF m 13 #[.val (.long q0), .second, .val (.long q1), .second, .val (.long q2), .second, .val (.long q3), .second, .val (.int p4), .val (.long v51), .second, .unset, .unset, .unset, .unset, .unset, .unset, .unset] [(.long (q3 &&& (9223372036854775807 : Int64)))])) tg_ → Steps p.tables e below (s₁.setTop (entryFrame m #[(.long q0), (.long q1), (.long q2), (.long q3), (.int p4)] maxLocals)) tg_ := by
    intro tg_ kt
    refine k50 tg_ ?_
    refine XS.lstore X0.here hx rfl (hb hby at_5) rfl (l' := #[.val (.long q0), .second, .val (.long q1), .second, .val (.long q2), .second, .val (.long q3), .second, .val (.int p4), .val (.long v51), .second, .unset, .unset, .unset, .unset, .unset, .unset, .unset]) rfl ?_
    show Steps p.tables e below (s₁.setTop (mkF m 7 #[.val (.long q0), .second, .val (.long q1), .second, .val (.long q2), .second, .val (.long q3), .second, .val (.int p4), .val (.long v51), .second, .unset, .unset, .unset, .unset, .unset, .unset, .unset] [])) _
    refine XS.lload X0.here hx rfl (hb hby at_7) rfl ?_
    show Steps p.tables e below (s₁.setTop (mkF m 9 #[.val (.long q0), .second, .val (.long q1), .second, .val (.long q2), .second, .val (.long q3), .second, .val (.int p4), .val (.long v51), .second, .unset, .unset, .unset, .unset, .unset, .unset, .unset] [(.long q3)])) _
    refine X0.ldc2Long hx hown (mvT hZ (hw _ (List.mem_of_getElem? (i := 0) rfl))) (g := (mkF m 9 #[.val (.long q0), .second, .val (.long q1), .second, .val (.long q2), .second, .val (.long q3), .second, .val (.int p4), .val (.long v51), .second, .unset, .unset, .unset, .unset, .unset, .unset, .unset] [(.long q3)])) rfl (hb hby at_9) _ ?_
    show Steps p.tables e below (s₁.setTop (mkF m 12 #[.val (.long q0), .second, .val (.long q1), .second, .val (.long q2), .second, .val (.long q3), .second, .val (.int p4), .val (.long v51), .second, .unset, .unset, .unset, .unset, .unset, .unset, .unset] [(.long (9223372036854775807 : Int64)), (.long q3)])) _
    refine XS.land X0.here hx rfl (hb hby at_12) rfl ?_
    show Steps p.tables e below (s₁.setTop (mkF m 13 #[.val (.long q0), .second, .val (.long q1), .second, .val (.long q2), .second, .val (.long q3), .second, .val (.int p4), .val (.long v51), .second, .unset, .unset, .unset, .unset, .unset, .unset, .unset] [(.long (q3 &&& (9223372036854775807 : Int64)))])) _
    exact kt
  obtain ⟨v53, hv53⟩ : ∃ z : Int64, z = (q3 &&& (9223372036854775807 : Int64)) := ⟨_, rfl⟩
  rw [← hv53] at k52
  have k54 : ∀ tg_, Steps p.tables e below (s₁.setTop (mkF m 23 #[.val (.long q0), .second, .val (.long q1), .second, .val (.long q2), .second, .val (.long q3), .second, .val (.int p4), .val (.long v51), .second, .val (.long v53), .second, .val (.long q2), .second, .unset, .unset, .unset] [(.int (p4 &&& (1 : Int32)))])) tg_ → Steps p.tables e below (s₁.setTop (entryFrame m #[(.long q0), (.long q1), (.long q2), (.long q3), (.int p4)] maxLocals)) tg_ := by
    intro tg_ kt
    refine k52 tg_ ?_
    refine XS.lstore X0.here hx rfl (hb hby at_13) rfl (l' := #[.val (.long q0), .second, .val (.long q1), .second, .val (.long q2), .second, .val (.long q3), .second, .val (.int p4), .val (.long v51), .second, .val (.long v53), .second, .unset, .unset, .unset, .unset, .unset]) rfl ?_
    show Steps p.tables e below (s₁.setTop (mkF m 15 #[.val (.long q0), .second, .val (.long q1), .second, .val (.long q2), .second, .val (.long q3), .second, .val (.int p4), .val (.long v51), .second, .val (.long v53), .second, .unset, .unset, .unset, .unset, .unset] [])) _
    refine XS.lload X0.here hx rfl (hb hby at_15) rfl ?_
    show Steps p.tables e below (s₁.setTop (mkF m 17 #[.val (.long q0), .second, .val (.long q1), .second, .val (.long q2), .second, .val (.long q3), .second, .val (.int p4), .val (.long v51), .second, .val (.long v53), .second, .unset, .unset, .unset, .unset, .unset] [(.long q2)])) _
    refine XS.lstore X0.here hx rfl (hb hby at_17) rfl (l' := #[.val (.long q0), .second, .val (.long q1), .second, .val (.long q2), .second, .val (.long q3), .second, .val (.int p4), .val (.long v51), .second, .val (.long v53), .second, .val (.long q2), .second, .unset, .unset, .unset]) rfl ?_
    show Steps p.tables e below (s₁.setTop (mkF m 19 #[.val (.long q0), .second, .val (.long q1), .second, .val (.long q2), .second, .val (.long q3), .second, .val (.int p4), .val (.long v51), .second, .val (.long v53), .second, .val (.long q2), .second, .unset, .unset, .unset] [])) _
    refine XS.iload X0.here hx rfl (hb hby at_19) rfl ?_
    show Steps p.tables e below (s₁.setTop (mkF m 21 #[.val (.long q0), .second, .val (.long q1), .second, .val (.long q2), .second, .val (.long q3), .second, .val (.int p4), .val (.long v51), .second, .val (.long v53), .second, .val (.long q2), .second, .unset, .unset, .unset] [(.int p4)])) _
    refine XS.iconst X0.here hx rfl (hb hby at_21) ?_
    show Steps p.tables e below (s₁.setTop (mkF m 22 #[.val (.long q0), .second, .val (.long q1), .second, .val (.long q2), .second, .val (.long q3), .second, .val (.int p4), .val (.long v51), .second, .val (.long v53), .second, .val (.long q2), .second, .unset, .unset, .unset] [(.int (1 : Int32)), (.int p4)])) _
    refine XS.iand X0.here hx rfl (hb hby at_22) rfl ?_
    show Steps p.tables e below (s₁.setTop (mkF m 23 #[.val (.long q0), .second, .val (.long q1), .second, .val (.long q2), .second, .val (.long q3), .second, .val (.int p4), .val (.long v51), .second, .val (.long v53), .second, .val (.long q2), .second, .unset, .unset, .unset] [(.int (p4 &&& (1 : Int32)))])) _
    exact kt
  by_cases hc23_55 : (p4 &&& (1 : Int32)) = (0 : Int32)
  · obtain ⟨T56, h56, X56, e56, E56, A56, D56, -, st56⟩ := newO X0 hx hZ hown (hw _ (List.mem_of_getElem? (i := 1) rfl)) (hw _ (List.mem_of_getElem? (i := 2) rfl)) (hw _ (List.mem_of_getElem? (i := 3) rfl)) e0 (g := (mkF m 47 #[.val (.long q0), .second, .val (.long q1), .second, .val (.long q2), .second, .val (.long q3), .second, .val (.int p4), .val (.long v51), .second, .val (.long v53), .second, .val (.long q2), .second, .unset, .unset, .unset] [])) rfl (hb hby at_47) (by decide) (by decide)
    obtain ⟨b56, g56⟩ : ∃ z, z = h0.size := ⟨_, rfl⟩
    rw [← g56] at A56 D56 st56
    have ne_xo_b56 : xo ≠ b56 := Nat.ne_of_lt (Nat.lt_of_lt_of_le (E_xo).lt (Nat.le_of_eq g56.symm))
    have ge_b56 : n0 ≤ b56 := Nat.le_trans Z0 (Nat.le_of_eq g56.symm)
    have F57 : Fld Z h56 b56 "com/example/tidegate/tidegate/model/Account" "participant" "Ljava/lang/String;" .null := D56 (Or.inr (hw _ (List.mem_of_getElem? (i := 45) rfl))) (ty := (.object "java/lang/String")) (by decide)
    have F58 : Fld Z h56 b56 "com/example/tidegate/tidegate/model/Account" "balance" "J" (.long (0 : Int64)) := D56 (Or.inr (hw _ (List.mem_of_getElem? (i := 47) rfl))) (ty := .long) (by decide)
    have F59 : Fld Z h56 b56 "com/example/tidegate/tidegate/model/Account" "credit" "J" (.long (0 : Int64)) := D56 (Or.inr (hw _ (List.mem_of_getElem? (i := 49) rfl))) (ty := .long) (by decide)
    have F60 : Fld Z h56 b56 "com/example/tidegate/tidegate/model/Account" "cost" "Ljava/util/OptionalLong;" .null := D56 (Or.inr (hw _ (List.mem_of_getElem? (i := 51) rfl))) (ty := (.object "java/util/OptionalLong")) (by decide)
    have k61 : ∀ tg_, Steps p.tables e below (T56.setTop (mkF m 51 #[.val (.long q0), .second, .val (.long q1), .second, .val (.long q2), .second, .val (.long q3), .second, .val (.int p4), .val (.long v51), .second, .val (.long v53), .second, .val (.long q2), .second, .unset, .unset, .unset] [(.ref b56), (.ref b56)])) tg_ → Steps p.tables e below (s₁.setTop (entryFrame m #[(.long q0), (.long q1), (.long q2), (.long q3), (.int p4)] maxLocals)) tg_ := by
      intro tg_ kt
      refine k54 tg_ ?_
      refine XS.ifYes X0.here hx rfl (pc0 := 23) (pc' := 47) rfl (hb hby at_23) rfl ((if0 _ _).trans (teq hc23_55).1) (by decide) (by decide) ?_
      show Steps p.tables e below (s₁.setTop (mkF m 47 #[.val (.long q0), .second, .val (.long q1), .second, .val (.long q2), .second, .val (.long q3), .second, .val (.int p4), .val (.long v51), .second, .val (.long v53), .second, .val (.long q2), .second, .unset, .unset, .unset] [])) _
      refine st56 _ ?_
      show Steps p.tables e below (T56.setTop (mkF m 50 #[.val (.long q0), .second, .val (.long q1), .second, .val (.long q2), .second, .val (.long q3), .second, .val (.int p4), .val (.long v51), .second, .val (.long v53), .second, .val (.long q2), .second, .unset, .unset, .unset] [(.ref b56)])) _
      refine XS.dup X56.here hx rfl (hb hby at_50) rfl rfl ?_
      show Steps p.tables e below (T56.setTop (mkF m 51 #[.val (.long q0), .second, .val (.long q1), .second, .val (.long q2), .second, .val (.long q3), .second, .val (.int p4), .val (.long v51), .second, .val (.long v53), .second, .val (.long q2), .second, .unset, .unset, .unset] [(.ref b56), (.ref b56)])) _
      exact kt
    have f62 := (Nat.le_trans hY0 ((Keep.refl _ []).ext E56).1)
    obtain ⟨b63, T63, h63, k63, X63, e63, E63, hS63, hk63, hZ, hown, st63⟩ := ldcS (s := s) (vm0 := s.vm) X56 hx hZ hown (hw _ (List.mem_of_getElem? (i := 4) rfl)) (fun d hd => hw d (strW d hd)) e56 hS0 f62 (g := (mkF m 51 #[.val (.long q0), .second, .val (.long q1), .second, .val (.long q2), .second, .val (.long q3), .second, .val (.int p4), .val (.long v51), .second, .val (.long v53), .second, .val (.long q2), .second, .unset, .unset, .unset] [(.ref b56), (.ref b56)])) rfl (hb hby at_51) (n := 4) (by decide) (by decide) (by decide) (by decide)
    replace X63 : Stand p l e room_1 (s.setVm T63.vm) m #[(.long q0), (.long q1), (.long q2), (.long q3), (.int p4)] below meth c T63 _ 3 12 := X63
    have f64 := (Nat.le_trans (Nat.le_trans Z0 ((Keep.refl _ []).ext E56).1) ((Keep.refl _ []).ext E63).1)
    have f65 := (A56.keep ((Keep.refl _ []).ext E63))
    have f66 := ((E_xo.keep ((Keep.refl _ []).ext E56)).keep ((Keep.refl _ []).ext E63))
    have f67 := (F57.keep ((Keep.refl _ []).ext E63) nin0)
    have f68 := (F58.keep ((Keep.refl _ []).ext E63) nin0)
    have f69 := (F59.keep ((Keep.refl _ []).ext E63) nin0)
    have f70 := (F60.keep ((Keep.refl _ []).ext E63) nin0)
    have f71 := ((F_xo.keep ((Keep.refl _ []).ext E56) nin0).keep ((Keep.refl _ []).ext E63) nin0)
    have f72 := (own_Sta.keep (own_Sta.keep S_xo ((Keep.refl _ []).ext E56) (fun _ q => nomatch q)) ((Keep.refl _ []).ext E63) (fun _ q => nomatch q))
    have k74 : ∀ tg_, Steps p.tables e below (T63.setTop (mkF m 60 #[.val (.long q0), .second, .val (.long q1), .second, .val (.long q2), .second, .val (.long q3), .second, .val (.int p4), .val (.long v51), .second, .val (.long v53), .second, .val (.long q2), .second, .unset, .unset, .unset] [(.long v51), (.long (q0 &&& (9223372036854775807 : Int64))), (.ref b63), (.ref b56), (.ref b56)])) tg_ → Steps p.tables e below (s₁.setTop (entryFrame m #[(.long q0), (.long q1), (.long q2), (.long q3), (.int p4)] maxLocals)) tg_ := by
      intro tg_ kt
      refine k61 tg_ ?_
      refine st63 _ ?_
      show Steps p.tables e below (T63.setTop (mkF m 53 #[.val (.long q0), .second, .val (.long q1), .second, .val (.long q2), .second, .val (.long q3), .second, .val (.int p4), .val (.long v51), .second, .val (.long v53), .second, .val (.long q2), .second, .unset, .unset, .unset] [(.ref b63), (.ref b56), (.ref b56)])) _
      refine XS.lloadN X63.here hx rfl (hb hby at_53) rfl ?_
      show Steps p.tables e below (T63.setTop (mkF m 54 #[.val (.long q0), .second, .val (.long q1), .second, .val (.long q2), .second, .val (.long q3), .second, .val (.int p4), .val (.long v51), .second, .val (.long v53), .second, .val (.long q2), .second, .unset, .unset, .unset] [(.long q0), (.ref b63), (.ref b56), (.ref b56)])) _
      refine X63.ldc2Long hx hown (mvT hZ (hw _ (List.mem_of_getElem? (i := 0) rfl))) (g := (mkF m 54 #[.val (.long q0), .second, .val (.long q1), .second, .val (.long q2), .second, .val (.long q3), .second, .val (.int p4), .val (.long v51), .second, .val (.long v53), .second, .val (.long q2), .second, .unset, .unset, .unset] [(.long q0), (.ref b63), (.ref b56), (.ref b56)])) rfl (hb hby at_54) _ ?_
      show Steps p.tables e below (T63.setTop (mkF m 57 #[.val (.long q0), .second, .val (.long q1), .second, .val (.long q2), .second, .val (.long q3), .second, .val (.int p4), .val (.long v51), .second, .val (.long v53), .second, .val (.long q2), .second, .unset, .unset, .unset] [(.long (9223372036854775807 : Int64)), (.long q0), (.ref b63), (.ref b56), (.ref b56)])) _
      refine XS.land X63.here hx rfl (hb hby at_57) rfl ?_
      show Steps p.tables e below (T63.setTop (mkF m 58 #[.val (.long q0), .second, .val (.long q1), .second, .val (.long q2), .second, .val (.long q3), .second, .val (.int p4), .val (.long v51), .second, .val (.long v53), .second, .val (.long q2), .second, .unset, .unset, .unset] [(.long (q0 &&& (9223372036854775807 : Int64))), (.ref b63), (.ref b56), (.ref b56)])) _
      refine XS.lload X63.here hx rfl (hb hby at_58) rfl ?_
      show Steps p.tables e below (T63.setTop (mkF m 60 #[.val (.long q0), .second, .val (.long q1), .second, .val (.long q2), .second, .val (.long q3), .second, .val (.int p4), .val (.long v51), .second, .val (.long v53), .second, .val (.long q2), .second, .unset, .unset, .unset] [(.long v51), (.long (q0 &&& (9223372036854775807 : Int64))), (.ref b63), (.ref b56), (.ref b56)])) _
      exact kt
    obtain ⟨_, _, ⟨T73, L73, kc73, nc73⟩, -, X73, hs73, gr73, ⟨Lc73, hQ73, l73, y73, z73⟩, st73⟩ := X63.specialBackS hx (y := (⟨"com/example/tidegate/tidegate/model/Account", "<init>", "(Ljava/lang/String;JJ)V"⟩ : MethodName)) rfl hown (mvT hZ (hw _ (List.mem_of_getElem? (i := 12) rfl))) (mvT hZ (hw _ (List.mem_of_getElem? (i := 13) rfl))) (mvT hZ (hw _ (List.mem_of_getElem? (i := 14) rfl))) (by decide) (backOfS (W := 1) (rm1 l Z a0 hw [] b56 b63 (q0 &&& (9223372036854775807 : Int64)) v51 xo h63 n0 f64 f65 f66 f67 f68 f69 f70 f71 f72 ge_b56 ne_xo_b56 (own_nn _) (by rw [hv51]; exact own_nn _)) hZ (hw _ (List.mem_of_getElem? (i := 14) rfl)) (hw _ (List.mem_of_getElem? (i := 3) rfl)) (by decide) (by decide)) (g := (mkF m 60 #[.val (.long q0), .second, .val (.long q1), .second, .val (.long q2), .second, .val (.long q3), .second, .val (.int p4), .val (.long v51), .second, .val (.long v53), .second, .val (.long q2), .second, .unset, .unset, .unset] [(.long v51), (.long (q0 &&& (9223372036854775807 : Int64))), (.ref b63), (.ref b56), (.ref b56)])) rfl (by rw [hml]; rfl) (Steps.refl _) (a := b56) (argsL := [(.ref b63), (.long (q0 &&& (9223372036854775807 : Int64))), (.long v51)]) (rest := [(.ref b56)]) (lenOf pd_0 rfl) rfl (by show 2 * 0 + _ ≤ _; exact Nat.le_of_eq rfl) (hb hby at_60) (fun _ _ => ⟨rfl, e63, (by decide : 3 + 4 ≤ _), (by decide : 12 + 68 ≤ _)⟩)
    dsimp only [Pt.U, Pt.locs, Pt.cells, Pt.slots] at X73 l73 y73 z73 st73 hQ73 hs73 gr73
    rw [l73, y73, z73] at X73
    obtain ⟨X73, hS73, hZ, hown⟩ := rebS (s := s) (vm0 := T63.vm) (vm1 := T73.vm) hS63 (Nat.le_trans hk63 (Nat.le_of_eq (congrArg Array.size (Eq.symm (show T63.heap = h63 from e63))))) X73 hs73 gr73 hZ hown
    replace X73 : Stand p l e room_1 (s.setVm T73.vm) m #[(.long q0), (.long q1), (.long q2), (.long q3), (.int p4)] below meth c T73 _ 7 80 := X73
    obtain ⟨rfl, Nq73, oK73, oFacredit73⟩ := hQ73
    have N73 := Fr.app N0 Nq73
    have f76 := (f65.keep oK73)
    obtain ⟨cq75, kq75, q75a, q75b, q75c⟩ := isOf hZ rfl f76
    obtain ⟨_, _, ⟨T75, L75, kc75, nc75⟩, -, X75, ⟨Lc75, hQ75, l75, y75, z75⟩, st75⟩ := X73.virtualBack hx (y := (⟨"com/example/tidegate/tidegate/model/Account", "canFund", "(JJ)Z"⟩ : MethodName)) (z := (⟨"com/example/tidegate/tidegate/model/Account", "canFund", "(JJ)Z"⟩ : MethodName)) hown (mvT hZ (hw _ (List.mem_of_getElem? (i := 52) rfl))) (mvT hZ (hw _ (List.mem_of_getElem? (i := 53) rfl))) (notFace_of_selects (args := #[]) (mvT hZ (hw _ (List.mem_of_getElem? (i := 55) rfl)))) (mvT hZ (hw _ (List.mem_of_getElem? (i := 55) rfl))) (mvT hZ (hw _ (List.mem_of_getElem? (i := 54) rfl))) (by decide) (backOf (W := 0) (rmcf l Z a0 hw [] b56 q2 v53 v51 T73.heap n0 oFacredit73) hZ (hw _ (List.mem_of_getElem? (i := 56) rfl)) (hw _ (List.mem_of_getElem? (i := 3) rfl)) (by decide) (by decide)) q75a q75c (g := (mkF m 71 #[.val (.long q0), .second, .val (.long q1), .second, .val (.long q2), .second, .val (.long q3), .second, .val (.int p4), .val (.long v51), .second, .val (.long v53), .second, .val (.long q2), .second, .val (.ref b56), .unset, .unset] [(.long v53), (.long q2), (.ref b56)])) rfl (by rw [hml]; rfl) (Steps.refl _) (argsL := [(.long q2), (.long v53)]) (rest := []) (lenOf pd_6 rfl) rfl (by show 2 * 0 + _ ≤ _; exact Nat.le_of_eq rfl) (hb hby at_71) (fun _ _ => ⟨rfl, rfl, (by decide : 7 + 0 ≤ _), (by decide : 80 + 0 ≤ _)⟩)
    dsimp only [Pt.U, Pt.locs, Pt.cells, Pt.slots] at X75 l75 y75 z75 st75 hQ75
    rw [l75, y75, z75] at X75
    replace X75 : Stand p l e room_1 (s.setVm T73.vm) m #[(.long q0), (.long q1), (.long q2), (.long q3), (.int p4)] below meth c T75 _ 7 80 := X75
    obtain ⟨rfl, Nq75, eq75⟩ := hQ75
    have N75 := Fr.app N73 Nq75
    have k77 : ∀ tg_, Steps p.tables e below (T75.setTop (mkF m 74 #[.val (.long q0), .second, .val (.long q1), .second, .val (.long q2), .second, .val (.long q3), .second, .val (.int p4), .val (.long v51), .second, .val (.long v53), .second, .val (.long q2), .second, .val (.ref b56), .unset, .unset] [(.int (own_cf q2 v53 v51))])) tg_ → Steps p.tables e below (s₁.setTop (entryFrame m #[(.long q0), (.long q1), (.long q2), (.long q3), (.int p4)] maxLocals)) tg_ := by
      intro tg_ kt
      refine k74 tg_ ?_
      refine st73.trans ?_
      show Steps p.tables e below (T73.setTop (mkF m 63 #[.val (.long q0), .second, .val (.long q1), .second, .val (.long q2), .second, .val (.long q3), .second, .val (.int p4), .val (.long v51), .second, .val (.long v53), .second, .val (.long q2), .second, .unset, .unset, .unset] [(.ref b56)])) _
      refine XS.astore X73.here hx rfl (hb hby at_63) rfl rfl (l' := #[.val (.long q0), .second, .val (.long q1), .second, .val (.long q2), .second, .val (.long q3), .second, .val (.int p4), .val (.long v51), .second, .val (.long v53), .second, .val (.long q2), .second, .val (.ref b56), .unset, .unset]) rfl ?_
      show Steps p.tables e below (T73.setTop (mkF m 65 #[.val (.long q0), .second, .val (.long q1), .second, .val (.long q2), .second, .val (.long q3), .second, .val (.int p4), .val (.long v51), .second, .val (.long v53), .second, .val (.long q2), .second, .val (.ref b56), .unset, .unset] [])) _
      refine XS.aload X73.here hx rfl (hb hby at_65) rfl rfl ?_
      show Steps p.tables e below (T73.setTop (mkF m 67 #[.val (.long q0), .second, .val (.long q1), .second, .val (.long q2), .second, .val (.long q3), .second, .val (.int p4), .val (.long v51), .second, .val (.long v53), .second, .val (.long q2), .second, .val (.ref b56), .unset, .unset] [(.ref b56)])) _
      refine XS.lload X73.here hx rfl (hb hby at_67) rfl ?_
      show Steps p.tables e below (T73.setTop (mkF m 69 #[.val (.long q0), .second, .val (.long q1), .second, .val (.long q2), .second, .val (.long q3), .second, .val (.int p4), .val (.long v51), .second, .val (.long v53), .second, .val (.long q2), .second, .val (.ref b56), .unset, .unset] [(.long q2), (.ref b56)])) _
      refine XS.lload X73.here hx rfl (hb hby at_69) rfl ?_
      show Steps p.tables e below (T73.setTop (mkF m 71 #[.val (.long q0), .second, .val (.long q1), .second, .val (.long q2), .second, .val (.long q3), .second, .val (.int p4), .val (.long v51), .second, .val (.long v53), .second, .val (.long q2), .second, .val (.ref b56), .unset, .unset] [(.long v53), (.long q2), (.ref b56)])) _
      refine st75.trans ?_
      show Steps p.tables e below (T75.setTop (mkF m 74 #[.val (.long q0), .second, .val (.long q1), .second, .val (.long q2), .second, .val (.long q3), .second, .val (.int p4), .val (.long v51), .second, .val (.long v53), .second, .val (.long q2), .second, .val (.ref b56), .unset, .unset] [(.int (own_cf q2 v53 v51))])) _
      exact kt
    obtain ⟨r78, hr78⟩ : ∃ z : Int32, z = (own_cf q2 v53 v51) := ⟨_, rfl⟩
    rw [← hr78] at k77
    have k79 : ∀ tg_, Steps p.tables e below (T75.setTop (mkF m 82 #[.val (.long q0), .second, .val (.long q1), .second, .val (.long q2), .second, .val (.long q3), .second, .val (.int p4), .val (.long v51), .second, .val (.long v53), .second, .val (.long q2), .second, .val (.ref b56), .val (.int r78), .unset] [(.int (lcmpW v51 (9223372036854775807 : Int64)))])) tg_ → Steps p.tables e below (s₁.setTop (entryFrame m #[(.long q0), (.long q1), (.long q2), (.long q3), (.int p4)] maxLocals)) tg_ := by
      intro tg_ kt
      refine k77 tg_ ?_
      show Steps p.tables e below (T75.setTop (mkF m 74 #[.val (.long q0), .second, .val (.long q1), .second, .val (.long q2), .second, .val (.long q3), .second, .val (.int p4), .val (.long v51), .second, .val (.long v53), .second, .val (.long q2), .second, .val (.ref b56), .unset, .unset] [(.int r78)])) _
      refine XS.istore X75.here hx rfl (hb hby at_74) rfl (l' := #[.val (.long q0), .second, .val (.long q1), .second, .val (.long q2), .second, .val (.long q3), .second, .val (.int p4), .val (.long v51), .second, .val (.long v53), .second, .val (.long q2), .second, .val (.ref b56), .val (.int r78), .unset]) rfl ?_
      show Steps p.tables e below (T75.setTop (mkF m 76 #[.val (.long q0), .second, .val (.long q1), .second, .val (.long q2), .second, .val (.long q3), .second, .val (.int p4), .val (.long v51), .second, .val (.long v53), .second, .val (.long q2), .second, .val (.ref b56), .val (.int r78), .unset] [])) _
      refine XS.lload X75.here hx rfl (hb hby at_76) rfl ?_
      show Steps p.tables e below (T75.setTop (mkF m 78 #[.val (.long q0), .second, .val (.long q1), .second, .val (.long q2), .second, .val (.long q3), .second, .val (.int p4), .val (.long v51), .second, .val (.long v53), .second, .val (.long q2), .second, .val (.ref b56), .val (.int r78), .unset] [(.long v51)])) _
      refine X75.ldc2Long hx hown (mvT hZ (hw _ (List.mem_of_getElem? (i := 0) rfl))) (g := (mkF m 78 #[.val (.long q0), .second, .val (.long q1), .second, .val (.long q2), .second, .val (.long q3), .second, .val (.int p4), .val (.long v51), .second, .val (.long v53), .second, .val (.long q2), .second, .val (.ref b56), .val (.int r78), .unset] [(.long v51)])) rfl (hb hby at_78) _ ?_
      show Steps p.tables e below (T75.setTop (mkF m 81 #[.val (.long q0), .second, .val (.long q1), .second, .val (.long q2), .second, .val (.long q3), .second, .val (.int p4), .val (.long v51), .second, .val (.long v53), .second, .val (.long q2), .second, .val (.ref b56), .val (.int r78), .unset] [(.long (9223372036854775807 : Int64)), (.long v51)])) _
      refine XS.lcmp X75.here hx rfl (hb hby at_81) rfl ?_
      show Steps p.tables e below (T75.setTop (mkF m 82 #[.val (.long q0), .second, .val (.long q1), .second, .val (.long q2), .second, .val (.long q3), .second, .val (.int p4), .val (.long v51), .second, .val (.long v53), .second, .val (.long q2), .second, .val (.ref b56), .val (.int r78), .unset] [(.int (lcmpW v51 (9223372036854775807 : Int64)))])) _
      exact kt
    by_cases hc82_80 : v51 = (9223372036854775807 : Int64)
    · have hc138_81 : r78 = (1 : Int32) := (by rw [hr78]; exact (own_law (bal := q2) (by rw [hv51]; exact own_mx _) (by rw [hv53]; exact own_mx _)).1 hc82_80)
      have k82 : ∀ tg_, Steps p.tables e below (T75.setTop (mkF m 146 #[.val (.long q0), .second, .val (.long q1), .second, .val (.long q2), .second, .val (.long q3), .second, .val (.int p4), .val (.long v51), .second, .val (.long v53), .second, .val (.long q2), .second, .val (.ref b56), .val (.int r78), .val (.int (1 : Int32))] [(.int (1 : Int32))])) tg_ → Steps p.tables e below (s₁.setTop (entryFrame m #[(.long q0), (.long q1), (.long q2), (.long q3), (.int p4)] maxLocals)) tg_ := by
        intro tg_ kt
        refine k79 tg_ ?_
        refine XS.ifNo X75.here hx rfl (hb hby at_82) rfl ((if0 _ _).trans (teq ((show ((lcmpW v51 (9223372036854775807 : Int64)) = 0) ↔ (v51 = (9223372036854775807 : Int64)) from lw_eq v51 (9223372036854775807 : Int64)).mpr hc82_80)).2) ?_
        show Steps p.tables e below (T75.setTop (mkF m 85 #[.val (.long q0), .second, .val (.long q1), .second, .val (.long q2), .second, .val (.long q3), .second, .val (.int p4), .val (.long v51), .second, .val (.long v53), .second, .val (.long q2), .second, .val (.ref b56), .val (.int r78), .unset] [])) _
        refine XS.iconst X75.here hx rfl (hb hby at_85) ?_
        show Steps p.tables e below (T75.setTop (mkF m 86 #[.val (.long q0), .second, .val (.long q1), .second, .val (.long q2), .second, .val (.long q3), .second, .val (.int p4), .val (.long v51), .second, .val (.long v53), .second, .val (.long q2), .second, .val (.ref b56), .val (.int r78), .unset] [(.int (1 : Int32))])) _
        refine XS.istore X75.here hx rfl (hb hby at_86) rfl (l' := #[.val (.long q0), .second, .val (.long q1), .second, .val (.long q2), .second, .val (.long q3), .second, .val (.int p4), .val (.long v51), .second, .val (.long v53), .second, .val (.long q2), .second, .val (.ref b56), .val (.int r78), .val (.int (1 : Int32))]) rfl ?_
        show Steps p.tables e below (T75.setTop (mkF m 88 #[.val (.long q0), .second, .val (.long q1), .second, .val (.long q2), .second, .val (.long q3), .second, .val (.int p4), .val (.long v51), .second, .val (.long v53), .second, .val (.long q2), .second, .val (.ref b56), .val (.int r78), .val (.int (1 : Int32))] [])) _
        refine XS.goto X75.here hx rfl (pc0 := 88) (pc' := 134) rfl (hb hby at_88) (by decide) (by decide) ?_
        show Steps p.tables e below (T75.setTop (mkF m 134 #[.val (.long q0), .second, .val (.long q1), .second, .val (.long q2), .second, .val (.long q3), .second, .val (.int p4), .val (.long v51), .second, .val (.long v53), .second, .val (.long q2), .second, .val (.ref b56), .val (.int r78), .val (.int (1 : Int32))] [])) _
        refine XS.iload X75.here hx rfl (hb hby at_134) rfl ?_
        show Steps p.tables e below (T75.setTop (mkF m 136 #[.val (.long q0), .second, .val (.long q1), .second, .val (.long q2), .second, .val (.long q3), .second, .val (.int p4), .val (.long v51), .second, .val (.long v53), .second, .val (.long q2), .second, .val (.ref b56), .val (.int r78), .val (.int (1 : Int32))] [(.int r78)])) _
        refine XS.iload X75.here hx rfl (hb hby at_136) rfl ?_
        show Steps p.tables e below (T75.setTop (mkF m 138 #[.val (.long q0), .second, .val (.long q1), .second, .val (.long q2), .second, .val (.long q3), .second, .val (.int p4), .val (.long v51), .second, .val (.long v53), .second, .val (.long q2), .second, .val (.ref b56), .val (.int r78), .val (.int (1 : Int32))] [(.int (1 : Int32)), (.int r78)])) _
        refine XS.icmpNo X75.here hx rfl (hb hby at_138) rfl (teq hc138_81).2 ?_
        show Steps p.tables e below (T75.setTop (mkF m 141 #[.val (.long q0), .second, .val (.long q1), .second, .val (.long q2), .second, .val (.long q3), .second, .val (.int p4), .val (.long v51), .second, .val (.long v53), .second, .val (.long q2), .second, .val (.ref b56), .val (.int r78), .val (.int (1 : Int32))] [])) _
        refine XS.iconst X75.here hx rfl (hb hby at_141) ?_
        show Steps p.tables e below (T75.setTop (mkF m 142 #[.val (.long q0), .second, .val (.long q1), .second, .val (.long q2), .second, .val (.long q3), .second, .val (.int p4), .val (.long v51), .second, .val (.long v53), .second, .val (.long q2), .second, .val (.ref b56), .val (.int r78), .val (.int (1 : Int32))] [(.int (1 : Int32))])) _
        refine XS.goto X75.here hx rfl (pc0 := 142) (pc' := 146) rfl (hb hby at_142) (by decide) (by decide) ?_
        show Steps p.tables e below (T75.setTop (mkF m 146 #[.val (.long q0), .second, .val (.long q1), .second, .val (.long q2), .second, .val (.long q3), .second, .val (.int p4), .val (.long v51), .second, .val (.long v53), .second, .val (.long q2), .second, .val (.ref b56), .val (.int r78), .val (.int (1 : Int32))] [(.int (1 : Int32))])) _
        exact kt
      obtain ⟨fs, hr, hrun, hended, hW1, hW2, hW3, hsame⟩ := Stand.leaveW (s := s) (vm₁ := T73.vm) X75 hS73 (Nat.le_trans (Nat.le_refl T73.heap.size) (Nat.le_of_eq (congrArg Array.size (Eq.symm (show T75.heap = T73.heap from eq75))))) (v := some (.int (1 : Int32))) (fun h => by rw [Bd.returns] at h; cases h)
      refine ⟨_, _, k82 _ (retN X75 hx (t := .boolean) Bd.returns (by simp) (hb hby at_146) hr), hrun, hended, _, _, rfl, ?_, hW1, hW2, hW3, hsame.mono (by decide) (by decide)⟩
      show Q0 Z q0 q1 q2 q3 p4 xo h0 n0 _ T75.heap _
      rw [eq75]
      exact ⟨rfl, N75⟩
    · have k83 : ∀ tg_, Steps p.tables e below (T75.setTop (mkF m 95 #[.val (.long q0), .second, .val (.long q1), .second, .val (.long q2), .second, .val (.long q3), .second, .val (.int p4), .val (.long v51), .second, .val (.long v53), .second, .val (.long q2), .second, .val (.ref b56), .val (.int r78), .unset] [(.int (lcmpW q2 (0 : Int64)))])) tg_ → Steps p.tables e below (s₁.setTop (entryFrame m #[(.long q0), (.long q1), (.long q2), (.long q3), (.int p4)] maxLocals)) tg_ := by
        intro tg_ kt
        refine k79 tg_ ?_
        refine XS.ifYes X75.here hx rfl (pc0 := 82) (pc' := 91) rfl (hb hby at_82) rfl ((if0 _ _).trans (feq (fun qq_ => hc82_80 ((show ((lcmpW v51 (9223372036854775807 : Int64)) = 0) ↔ (v51 = (9223372036854775807 : Int64)) from lw_eq v51 (9223372036854775807 : Int64)).mp qq_))).2) (by decide) (by decide) ?_
        show Steps p.tables e below (T75.setTop (mkF m 91 #[.val (.long q0), .second, .val (.long q1), .second, .val (.long q2), .second, .val (.long q3), .second, .val (.int p4), .val (.long v51), .second, .val (.long v53), .second, .val (.long q2), .second, .val (.ref b56), .val (.int r78), .unset] [])) _
        refine XS.lload X75.here hx rfl (hb hby at_91) rfl ?_
        show Steps p.tables e below (T75.setTop (mkF m 93 #[.val (.long q0), .second, .val (.long q1), .second, .val (.long q2), .second, .val (.long q3), .second, .val (.int p4), .val (.long v51), .second, .val (.long v53), .second, .val (.long q2), .second, .val (.ref b56), .val (.int r78), .unset] [(.long q2)])) _
        refine XS.lconst X75.here hx rfl (hb hby at_93) ?_
        show Steps p.tables e below (T75.setTop (mkF m 94 #[.val (.long q0), .second, .val (.long q1), .second, .val (.long q2), .second, .val (.long q3), .second, .val (.int p4), .val (.long v51), .second, .val (.long v53), .second, .val (.long q2), .second, .val (.ref b56), .val (.int r78), .unset] [(.long (0 : Int64)), (.long q2)])) _
        refine XS.lcmp X75.here hx rfl (hb hby at_94) rfl ?_
        show Steps p.tables e below (T75.setTop (mkF m 95 #[.val (.long q0), .second, .val (.long q1), .second, .val (.long q2), .second, .val (.long q3), .second, .val (.int p4), .val (.long v51), .second, .val (.long v53), .second, .val (.long q2), .second, .val (.ref b56), .val (.int r78), .unset] [(.int (lcmpW q2 (0 : Int64)))])) _
        exact kt
      by_cases hc95_84 : (0 : Int64) < q2
      · have k85 : ∀ tg_, Steps p.tables e below (T75.setTop (mkF m 107 #[.val (.long q0), .second, .val (.long q1), .second, .val (.long q2), .second, .val (.long q3), .second, .val (.int p4), .val (.long v51), .second, .val (.long v53), .second, .val (.long q2), .second, .val (.ref b56), .val (.int r78), .unset] [(.int (lcmpW v51 ((9223372036854775807 : Int64) - q2)))])) tg_ → Steps p.tables e below (s₁.setTop (entryFrame m #[(.long q0), (.long q1), (.long q2), (.long q3), (.int p4)] maxLocals)) tg_ := by
          intro tg_ kt
          refine k83 tg_ ?_
          refine XS.ifNo X75.here hx rfl (hb hby at_95) rfl ((if0 _ _).trans (tlt ((show (0 < (lcmpW q2 (0 : Int64))) ↔ ((0 : Int64) < q2) from lw_gt q2 (0 : Int64)).mpr hc95_84)).2.2.2) ?_
          show Steps p.tables e below (T75.setTop (mkF m 98 #[.val (.long q0), .second, .val (.long q1), .second, .val (.long q2), .second, .val (.long q3), .second, .val (.int p4), .val (.long v51), .second, .val (.long v53), .second, .val (.long q2), .second, .val (.ref b56), .val (.int r78), .unset] [])) _
          refine XS.lload X75.here hx rfl (hb hby at_98) rfl ?_
          show Steps p.tables e below (T75.setTop (mkF m 100 #[.val (.long q0), .second, .val (.long q1), .second, .val (.long q2), .second, .val (.long q3), .second, .val (.int p4), .val (.long v51), .second, .val (.long v53), .second, .val (.long q2), .second, .val (.ref b56), .val (.int r78), .unset] [(.long v51)])) _
          refine X75.ldc2Long hx hown (mvT hZ (hw _ (List.mem_of_getElem? (i := 0) rfl))) (g := (mkF m 100 #[.val (.long q0), .second, .val (.long q1), .second, .val (.long q2), .second, .val (.long q3), .second, .val (.int p4), .val (.long v51), .second, .val (.long v53), .second, .val (.long q2), .second, .val (.ref b56), .val (.int r78), .unset] [(.long v51)])) rfl (hb hby at_100) _ ?_
          show Steps p.tables e below (T75.setTop (mkF m 103 #[.val (.long q0), .second, .val (.long q1), .second, .val (.long q2), .second, .val (.long q3), .second, .val (.int p4), .val (.long v51), .second, .val (.long v53), .second, .val (.long q2), .second, .val (.ref b56), .val (.int r78), .unset] [(.long (9223372036854775807 : Int64)), (.long v51)])) _
          refine XS.lload X75.here hx rfl (hb hby at_103) rfl ?_
          show Steps p.tables e below (T75.setTop (mkF m 105 #[.val (.long q0), .second, .val (.long q1), .second, .val (.long q2), .second, .val (.long q3), .second, .val (.int p4), .val (.long v51), .second, .val (.long v53), .second, .val (.long q2), .second, .val (.ref b56), .val (.int r78), .unset] [(.long q2), (.long (9223372036854775807 : Int64)), (.long v51)])) _
          refine XS.lsub X75.here hx rfl (hb hby at_105) rfl ?_
          show Steps p.tables e below (T75.setTop (mkF m 106 #[.val (.long q0), .second, .val (.long q1), .second, .val (.long q2), .second, .val (.long q3), .second, .val (.int p4), .val (.long v51), .second, .val (.long v53), .second, .val (.long q2), .second, .val (.ref b56), .val (.int r78), .unset] [(.long ((9223372036854775807 : Int64) - q2)), (.long v51)])) _
          refine XS.lcmp X75.here hx rfl (hb hby at_106) rfl ?_
          show Steps p.tables e below (T75.setTop (mkF m 107 #[.val (.long q0), .second, .val (.long q1), .second, .val (.long q2), .second, .val (.long q3), .second, .val (.int p4), .val (.long v51), .second, .val (.long v53), .second, .val (.long q2), .second, .val (.ref b56), .val (.int r78), .unset] [(.int (lcmpW v51 ((9223372036854775807 : Int64) - q2)))])) _
          exact kt
        by_cases hc107_86 : ((9223372036854775807 : Int64) - q2) < v51
        · have hc138_87 : r78 = (1 : Int32) := (by rw [hr78]; exact (own_law (bal := q2) (by rw [hv51]; exact own_mx _) (by rw [hv53]; exact own_mx _)).2.1 hc82_80 hc95_84 hc107_86)
          have k88 : ∀ tg_, Steps p.tables e below (T75.setTop (mkF m 146 #[.val (.long q0), .second, .val (.long q1), .second, .val (.long q2), .second, .val (.long q3), .second, .val (.int p4), .val (.long v51), .second, .val (.long v53), .second, .val (.long q2), .second, .val (.ref b56), .val (.int r78), .val (.int (1 : Int32))] [(.int (1 : Int32))])) tg_ → Steps p.tables e below (s₁.setTop (entryFrame m #[(.long q0), (.long q1), (.long q2), (.long q3), (.int p4)] maxLocals)) tg_ := by
            intro tg_ kt
            refine k85 tg_ ?_
            refine XS.ifNo X75.here hx rfl (hb hby at_107) rfl ((if0 _ _).trans (tlt ((show (0 < (lcmpW v51 ((9223372036854775807 : Int64) - q2))) ↔ (((9223372036854775807 : Int64) - q2) < v51) from lw_gt v51 ((9223372036854775807 : Int64) - q2)).mpr hc107_86)).2.2.2) ?_
            show Steps p.tables e below (T75.setTop (mkF m 110 #[.val (.long q0), .second, .val (.long q1), .second, .val (.long q2), .second, .val (.long q3), .second, .val (.int p4), .val (.long v51), .second, .val (.long v53), .second, .val (.long q2), .second, .val (.ref b56), .val (.int r78), .unset] [])) _
            refine XS.iconst X75.here hx rfl (hb hby at_110) ?_
            show Steps p.tables e below (T75.setTop (mkF m 111 #[.val (.long q0), .second, .val (.long q1), .second, .val (.long q2), .second, .val (.long q3), .second, .val (.int p4), .val (.long v51), .second, .val (.long v53), .second, .val (.long q2), .second, .val (.ref b56), .val (.int r78), .unset] [(.int (1 : Int32))])) _
            refine XS.istore X75.here hx rfl (hb hby at_111) rfl (l' := #[.val (.long q0), .second, .val (.long q1), .second, .val (.long q2), .second, .val (.long q3), .second, .val (.int p4), .val (.long v51), .second, .val (.long v53), .second, .val (.long q2), .second, .val (.ref b56), .val (.int r78), .val (.int (1 : Int32))]) rfl ?_
            show Steps p.tables e below (T75.setTop (mkF m 113 #[.val (.long q0), .second, .val (.long q1), .second, .val (.long q2), .second, .val (.long q3), .second, .val (.int p4), .val (.long v51), .second, .val (.long v53), .second, .val (.long q2), .second, .val (.ref b56), .val (.int r78), .val (.int (1 : Int32))] [])) _
            refine XS.goto X75.here hx rfl (pc0 := 113) (pc' := 134) rfl (hb hby at_113) (by decide) (by decide) ?_
            show Steps p.tables e below (T75.setTop (mkF m 134 #[.val (.long q0), .second, .val (.long q1), .second, .val (.long q2), .second, .val (.long q3), .second, .val (.int p4), .val (.long v51), .second, .val (.long v53), .second, .val (.long q2), .second, .val (.ref b56), .val (.int r78), .val (.int (1 : Int32))] [])) _
            refine XS.iload X75.here hx rfl (hb hby at_134) rfl ?_
            show Steps p.tables e below (T75.setTop (mkF m 136 #[.val (.long q0), .second, .val (.long q1), .second, .val (.long q2), .second, .val (.long q3), .second, .val (.int p4), .val (.long v51), .second, .val (.long v53), .second, .val (.long q2), .second, .val (.ref b56), .val (.int r78), .val (.int (1 : Int32))] [(.int r78)])) _
            refine XS.iload X75.here hx rfl (hb hby at_136) rfl ?_
            show Steps p.tables e below (T75.setTop (mkF m 138 #[.val (.long q0), .second, .val (.long q1), .second, .val (.long q2), .second, .val (.long q3), .second, .val (.int p4), .val (.long v51), .second, .val (.long v53), .second, .val (.long q2), .second, .val (.ref b56), .val (.int r78), .val (.int (1 : Int32))] [(.int (1 : Int32)), (.int r78)])) _
            refine XS.icmpNo X75.here hx rfl (hb hby at_138) rfl (teq hc138_87).2 ?_
            show Steps p.tables e below (T75.setTop (mkF m 141 #[.val (.long q0), .second, .val (.long q1), .second, .val (.long q2), .second, .val (.long q3), .second, .val (.int p4), .val (.long v51), .second, .val (.long v53), .second, .val (.long q2), .second, .val (.ref b56), .val (.int r78), .val (.int (1 : Int32))] [])) _
            refine XS.iconst X75.here hx rfl (hb hby at_141) ?_
            show Steps p.tables e below (T75.setTop (mkF m 142 #[.val (.long q0), .second, .val (.long q1), .second, .val (.long q2), .second, .val (.long q3), .second, .val (.int p4), .val (.long v51), .second, .val (.long v53), .second, .val (.long q2), .second, .val (.ref b56), .val (.int r78), .val (.int (1 : Int32))] [(.int (1 : Int32))])) _
            refine XS.goto X75.here hx rfl (pc0 := 142) (pc' := 146) rfl (hb hby at_142) (by decide) (by decide) ?_
            show Steps p.tables e below (T75.setTop (mkF m 146 #[.val (.long q0), .second, .val (.long q1), .second, .val (.long q2), .second, .val (.long q3), .second, .val (.int p4), .val (.long v51), .second, .val (.long v53), .second, .val (.long q2), .second, .val (.ref b56), .val (.int r78), .val (.int (1 : Int32))] [(.int (1 : Int32))])) _
            exact kt
          obtain ⟨fs, hr, hrun, hended, hW1, hW2, hW3, hsame⟩ := Stand.leaveW (s := s) (vm₁ := T73.vm) X75 hS73 (Nat.le_trans (Nat.le_refl T73.heap.size) (Nat.le_of_eq (congrArg Array.size (Eq.symm (show T75.heap = T73.heap from eq75))))) (v := some (.int (1 : Int32))) (fun h => by rw [Bd.returns] at h; cases h)
          refine ⟨_, _, k88 _ (retN X75 hx (t := .boolean) Bd.returns (by simp) (hb hby at_146) hr), hrun, hended, _, _, rfl, ?_, hW1, hW2, hW3, hsame.mono (by decide) (by decide)⟩
          show Q0 Z q0 q1 q2 q3 p4 xo h0 n0 _ T75.heap _
          rw [eq75]
          exact ⟨rfl, N75⟩
        · have k89 : ∀ tg_, Steps p.tables e below (T75.setTop (mkF m 124 #[.val (.long q0), .second, .val (.long q1), .second, .val (.long q2), .second, .val (.long q3), .second, .val (.int p4), .val (.long v51), .second, .val (.long v53), .second, .val (.long q2), .second, .val (.ref b56), .val (.int r78), .unset] [(.int (lcmpW (q2 + v51) v53))])) tg_ → Steps p.tables e below (s₁.setTop (entryFrame m #[(.long q0), (.long q1), (.long q2), (.long q3), (.int p4)] maxLocals)) tg_ := by
            intro tg_ kt
            refine k85 tg_ ?_
            refine XS.ifYes X75.here hx rfl (pc0 := 107) (pc' := 116) rfl (hb hby at_107) rfl ((if0 _ _).trans (flt (fun qq_ => hc107_86 ((show (0 < (lcmpW v51 ((9223372036854775807 : Int64) - q2))) ↔ (((9223372036854775807 : Int64) - q2) < v51) from lw_gt v51 ((9223372036854775807 : Int64) - q2)).mp qq_))).2.2.2) (by decide) (by decide) ?_
            show Steps p.tables e below (T75.setTop (mkF m 116 #[.val (.long q0), .second, .val (.long q1), .second, .val (.long q2), .second, .val (.long q3), .second, .val (.int p4), .val (.long v51), .second, .val (.long v53), .second, .val (.long q2), .second, .val (.ref b56), .val (.int r78), .unset] [])) _
            refine XS.lload X75.here hx rfl (hb hby at_116) rfl ?_
            show Steps p.tables e below (T75.setTop (mkF m 118 #[.val (.long q0), .second, .val (.long q1), .second, .val (.long q2), .second, .val (.long q3), .second, .val (.int p4), .val (.long v51), .second, .val (.long v53), .second, .val (.long q2), .second, .val (.ref b56), .val (.int r78), .unset] [(.long q2)])) _
            refine XS.lload X75.here hx rfl (hb hby at_118) rfl ?_
            show Steps p.tables e below (T75.setTop (mkF m 120 #[.val (.long q0), .second, .val (.long q1), .second, .val (.long q2), .second, .val (.long q3), .second, .val (.int p4), .val (.long v51), .second, .val (.long v53), .second, .val (.long q2), .second, .val (.ref b56), .val (.int r78), .unset] [(.long v51), (.long q2)])) _
            refine XS.ladd X75.here hx rfl (hb hby at_120) rfl ?_
            show Steps p.tables e below (T75.setTop (mkF m 121 #[.val (.long q0), .second, .val (.long q1), .second, .val (.long q2), .second, .val (.long q3), .second, .val (.int p4), .val (.long v51), .second, .val (.long v53), .second, .val (.long q2), .second, .val (.ref b56), .val (.int r78), .unset] [(.long (q2 + v51))])) _
            refine XS.lload X75.here hx rfl (hb hby at_121) rfl ?_
            show Steps p.tables e below (T75.setTop (mkF m 123 #[.val (.long q0), .second, .val (.long q1), .second, .val (.long q2), .second, .val (.long q3), .second, .val (.int p4), .val (.long v51), .second, .val (.long v53), .second, .val (.long q2), .second, .val (.ref b56), .val (.int r78), .unset] [(.long v53), (.long (q2 + v51))])) _
            refine XS.lcmp X75.here hx rfl (hb hby at_123) rfl ?_
            show Steps p.tables e below (T75.setTop (mkF m 124 #[.val (.long q0), .second, .val (.long q1), .second, .val (.long q2), .second, .val (.long q3), .second, .val (.int p4), .val (.long v51), .second, .val (.long v53), .second, .val (.long q2), .second, .val (.ref b56), .val (.int r78), .unset] [(.int (lcmpW (q2 + v51) v53))])) _
            exact kt
          by_cases hc124_90 : (q2 + v51) < v53
          · have hc138_91 : r78 = (0 : Int32) := (by rw [hr78]; exact ((own_law (bal := q2) (by rw [hv51]; exact own_mx _) (by rw [hv53]; exact own_mx _)).2.2 hc82_80 (Or.inr hc107_86)).1 hc124_90)
            have k92 : ∀ tg_, Steps p.tables e below (T75.setTop (mkF m 146 #[.val (.long q0), .second, .val (.long q1), .second, .val (.long q2), .second, .val (.long q3), .second, .val (.int p4), .val (.long v51), .second, .val (.long v53), .second, .val (.long q2), .second, .val (.ref b56), .val (.int r78), .val (.int (0 : Int32))] [(.int (1 : Int32))])) tg_ → Steps p.tables e below (s₁.setTop (entryFrame m #[(.long q0), (.long q1), (.long q2), (.long q3), (.int p4)] maxLocals)) tg_ := by
              intro tg_ kt
              refine k89 tg_ ?_
              refine XS.ifYes X75.here hx rfl (pc0 := 124) (pc' := 131) rfl (hb hby at_124) rfl ((if0 _ _).trans (tlt ((show ((lcmpW (q2 + v51) v53) < 0) ↔ ((q2 + v51) < v53) from lw_lt (q2 + v51) v53).mpr hc124_90)).1) (by decide) (by decide) ?_
              show Steps p.tables e below (T75.setTop (mkF m 131 #[.val (.long q0), .second, .val (.long q1), .second, .val (.long q2), .second, .val (.long q3), .second, .val (.int p4), .val (.long v51), .second, .val (.long v53), .second, .val (.long q2), .second, .val (.ref b56), .val (.int r78), .unset] [])) _
              refine XS.iconst X75.here hx rfl (hb hby at_131) ?_
              show Steps p.tables e below (T75.setTop (mkF m 132 #[.val (.long q0), .second, .val (.long q1), .second, .val (.long q2), .second, .val (.long q3), .second, .val (.int p4), .val (.long v51), .second, .val (.long v53), .second, .val (.long q2), .second, .val (.ref b56), .val (.int r78), .unset] [(.int (0 : Int32))])) _
              refine XS.istore X75.here hx rfl (hb hby at_132) rfl (l' := #[.val (.long q0), .second, .val (.long q1), .second, .val (.long q2), .second, .val (.long q3), .second, .val (.int p4), .val (.long v51), .second, .val (.long v53), .second, .val (.long q2), .second, .val (.ref b56), .val (.int r78), .val (.int (0 : Int32))]) rfl ?_
              show Steps p.tables e below (T75.setTop (mkF m 134 #[.val (.long q0), .second, .val (.long q1), .second, .val (.long q2), .second, .val (.long q3), .second, .val (.int p4), .val (.long v51), .second, .val (.long v53), .second, .val (.long q2), .second, .val (.ref b56), .val (.int r78), .val (.int (0 : Int32))] [])) _
              refine XS.iload X75.here hx rfl (hb hby at_134) rfl ?_
              show Steps p.tables e below (T75.setTop (mkF m 136 #[.val (.long q0), .second, .val (.long q1), .second, .val (.long q2), .second, .val (.long q3), .second, .val (.int p4), .val (.long v51), .second, .val (.long v53), .second, .val (.long q2), .second, .val (.ref b56), .val (.int r78), .val (.int (0 : Int32))] [(.int r78)])) _
              refine XS.iload X75.here hx rfl (hb hby at_136) rfl ?_
              show Steps p.tables e below (T75.setTop (mkF m 138 #[.val (.long q0), .second, .val (.long q1), .second, .val (.long q2), .second, .val (.long q3), .second, .val (.int p4), .val (.long v51), .second, .val (.long v53), .second, .val (.long q2), .second, .val (.ref b56), .val (.int r78), .val (.int (0 : Int32))] [(.int (0 : Int32)), (.int r78)])) _
              refine XS.icmpNo X75.here hx rfl (hb hby at_138) rfl (teq hc138_91).2 ?_
              show Steps p.tables e below (T75.setTop (mkF m 141 #[.val (.long q0), .second, .val (.long q1), .second, .val (.long q2), .second, .val (.long q3), .second, .val (.int p4), .val (.long v51), .second, .val (.long v53), .second, .val (.long q2), .second, .val (.ref b56), .val (.int r78), .val (.int (0 : Int32))] [])) _
              refine XS.iconst X75.here hx rfl (hb hby at_141) ?_
              show Steps p.tables e below (T75.setTop (mkF m 142 #[.val (.long q0), .second, .val (.long q1), .second, .val (.long q2), .second, .val (.long q3), .second, .val (.int p4), .val (.long v51), .second, .val (.long v53), .second, .val (.long q2), .second, .val (.ref b56), .val (.int r78), .val (.int (0 : Int32))] [(.int (1 : Int32))])) _
              refine XS.goto X75.here hx rfl (pc0 := 142) (pc' := 146) rfl (hb hby at_142) (by decide) (by decide) ?_
              show Steps p.tables e below (T75.setTop (mkF m 146 #[.val (.long q0), .second, .val (.long q1), .second, .val (.long q2), .second, .val (.long q3), .second, .val (.int p4), .val (.long v51), .second, .val (.long v53), .second, .val (.long q2), .second, .val (.ref b56), .val (.int r78), .val (.int (0 : Int32))] [(.int (1 : Int32))])) _
              exact kt
            obtain ⟨fs, hr, hrun, hended, hW1, hW2, hW3, hsame⟩ := Stand.leaveW (s := s) (vm₁ := T73.vm) X75 hS73 (Nat.le_trans (Nat.le_refl T73.heap.size) (Nat.le_of_eq (congrArg Array.size (Eq.symm (show T75.heap = T73.heap from eq75))))) (v := some (.int (1 : Int32))) (fun h => by rw [Bd.returns] at h; cases h)
            refine ⟨_, _, k92 _ (retN X75 hx (t := .boolean) Bd.returns (by simp) (hb hby at_146) hr), hrun, hended, _, _, rfl, ?_, hW1, hW2, hW3, hsame.mono (by decide) (by decide)⟩
            show Q0 Z q0 q1 q2 q3 p4 xo h0 n0 _ T75.heap _
            rw [eq75]
            exact ⟨rfl, N75⟩
          · have hc138_93 : r78 = (1 : Int32) := (by rw [hr78]; exact ((own_law (bal := q2) (by rw [hv51]; exact own_mx _) (by rw [hv53]; exact own_mx _)).2.2 hc82_80 (Or.inr hc107_86)).2 hc124_90)
            have k94 : ∀ tg_, Steps p.tables e below (T75.setTop (mkF m 146 #[.val (.long q0), .second, .val (.long q1), .second, .val (.long q2), .second, .val (.long q3), .second, .val (.int p4), .val (.long v51), .second, .val (.long v53), .second, .val (.long q2), .second, .val (.ref b56), .val (.int r78), .val (.int (1 : Int32))] [(.int (1 : Int32))])) tg_ → Steps p.tables e below (s₁.setTop (entryFrame m #[(.long q0), (.long q1), (.long q2), (.long q3), (.int p4)] maxLocals)) tg_ := by
              intro tg_ kt
              refine k89 tg_ ?_
              refine XS.ifNo X75.here hx rfl (hb hby at_124) rfl ((if0 _ _).trans (flt (fun qq_ => hc124_90 ((show ((lcmpW (q2 + v51) v53) < 0) ↔ ((q2 + v51) < v53) from lw_lt (q2 + v51) v53).mp qq_))).1) ?_
              show Steps p.tables e below (T75.setTop (mkF m 127 #[.val (.long q0), .second, .val (.long q1), .second, .val (.long q2), .second, .val (.long q3), .second, .val (.int p4), .val (.long v51), .second, .val (.long v53), .second, .val (.long q2), .second, .val (.ref b56), .val (.int r78), .unset] [])) _
              refine XS.iconst X75.here hx rfl (hb hby at_127) ?_
              show Steps p.tables e below (T75.setTop (mkF m 128 #[.val (.long q0), .second, .val (.long q1), .second, .val (.long q2), .second, .val (.long q3), .second, .val (.int p4), .val (.long v51), .second, .val (.long v53), .second, .val (.long q2), .second, .val (.ref b56), .val (.int r78), .unset] [(.int (1 : Int32))])) _
              refine XS.goto X75.here hx rfl (pc0 := 128) (pc' := 132) rfl (hb hby at_128) (by decide) (by decide) ?_
              show Steps p.tables e below (T75.setTop (mkF m 132 #[.val (.long q0), .second, .val (.long q1), .second, .val (.long q2), .second, .val (.long q3), .second, .val (.int p4), .val (.long v51), .second, .val (.long v53), .second, .val (.long q2), .second, .val (.ref b56), .val (.int r78), .unset] [(.int (1 : Int32))])) _
              refine XS.istore X75.here hx rfl (hb hby at_132) rfl (l' := #[.val (.long q0), .second, .val (.long q1), .second, .val (.long q2), .second, .val (.long q3), .second, .val (.int p4), .val (.long v51), .second, .val (.long v53), .second, .val (.long q2), .second, .val (.ref b56), .val (.int r78), .val (.int (1 : Int32))]) rfl ?_
              show Steps p.tables e below (T75.setTop (mkF m 134 #[.val (.long q0), .second, .val (.long q1), .second, .val (.long q2), .second, .val (.long q3), .second, .val (.int p4), .val (.long v51), .second, .val (.long v53), .second, .val (.long q2), .second, .val (.ref b56), .val (.int r78), .val (.int (1 : Int32))] [])) _
              refine XS.iload X75.here hx rfl (hb hby at_134) rfl ?_
              show Steps p.tables e below (T75.setTop (mkF m 136 #[.val (.long q0), .second, .val (.long q1), .second, .val (.long q2), .second, .val (.long q3), .second, .val (.int p4), .val (.long v51), .second, .val (.long v53), .second, .val (.long q2), .second, .val (.ref b56), .val (.int r78), .val (.int (1 : Int32))] [(.int r78)])) _
              refine XS.iload X75.here hx rfl (hb hby at_136) rfl ?_
              show Steps p.tables e below (T75.setTop (mkF m 138 #[.val (.long q0), .second, .val (.long q1), .second, .val (.long q2), .second, .val (.long q3), .second, .val (.int p4), .val (.long v51), .second, .val (.long v53), .second, .val (.long q2), .second, .val (.ref b56), .val (.int r78), .val (.int (1 : Int32))] [(.int (1 : Int32)), (.int r78)])) _
              refine XS.icmpNo X75.here hx rfl (hb hby at_138) rfl (teq hc138_93).2 ?_
              show Steps p.tables e below (T75.setTop (mkF m 141 #[.val (.long q0), .second, .val (.long q1), .second, .val (.long q2), .second, .val (.long q3), .second, .val (.int p4), .val (.long v51), .second, .val (.long v53), .second, .val (.long q2), .second, .val (.ref b56), .val (.int r78), .val (.int (1 : Int32))] [])) _
              refine XS.iconst X75.here hx rfl (hb hby at_141) ?_
              show Steps p.tables e below (T75.setTop (mkF m 142 #[.val (.long q0), .second, .val (.long q1), .second, .val (.long q2), .second, .val (.long q3), .second, .val (.int p4), .val (.long v51), .second, .val (.long v53), .second, .val (.long q2), .second, .val (.ref b56), .val (.int r78), .val (.int (1 : Int32))] [(.int (1 : Int32))])) _
              refine XS.goto X75.here hx rfl (pc0 := 142) (pc' := 146) rfl (hb hby at_142) (by decide) (by decide) ?_
              show Steps p.tables e below (T75.setTop (mkF m 146 #[.val (.long q0), .second, .val (.long q1), .second, .val (.long q2), .second, .val (.long q3), .second, .val (.int p4), .val (.long v51), .second, .val (.long v53), .second, .val (.long q2), .second, .val (.ref b56), .val (.int r78), .val (.int (1 : Int32))] [(.int (1 : Int32))])) _
              exact kt
            obtain ⟨fs, hr, hrun, hended, hW1, hW2, hW3, hsame⟩ := Stand.leaveW (s := s) (vm₁ := T73.vm) X75 hS73 (Nat.le_trans (Nat.le_refl T73.heap.size) (Nat.le_of_eq (congrArg Array.size (Eq.symm (show T75.heap = T73.heap from eq75))))) (v := some (.int (1 : Int32))) (fun h => by rw [Bd.returns] at h; cases h)
            refine ⟨_, _, k94 _ (retN X75 hx (t := .boolean) Bd.returns (by simp) (hb hby at_146) hr), hrun, hended, _, _, rfl, ?_, hW1, hW2, hW3, hsame.mono (by decide) (by decide)⟩
            show Q0 Z q0 q1 q2 q3 p4 xo h0 n0 _ T75.heap _
            rw [eq75]
            exact ⟨rfl, N75⟩
      · have k95 : ∀ tg_, Steps p.tables e below (T75.setTop (mkF m 124 #[.val (.long q0), .second, .val (.long q1), .second, .val (.long q2), .second, .val (.long q3), .second, .val (.int p4), .val (.long v51), .second, .val (.long v53), .second, .val (.long q2), .second, .val (.ref b56), .val (.int r78), .unset] [(.int (lcmpW (q2 + v51) v53))])) tg_ → Steps p.tables e below (s₁.setTop (entryFrame m #[(.long q0), (.long q1), (.long q2), (.long q3), (.int p4)] maxLocals)) tg_ := by
          intro tg_ kt
          refine k83 tg_ ?_
          refine XS.ifYes X75.here hx rfl (pc0 := 95) (pc' := 116) rfl (hb hby at_95) rfl ((if0 _ _).trans (flt (fun qq_ => hc95_84 ((show (0 < (lcmpW q2 (0 : Int64))) ↔ ((0 : Int64) < q2) from lw_gt q2 (0 : Int64)).mp qq_))).2.2.2) (by decide) (by decide) ?_
          show Steps p.tables e below (T75.setTop (mkF m 116 #[.val (.long q0), .second, .val (.long q1), .second, .val (.long q2), .second, .val (.long q3), .second, .val (.int p4), .val (.long v51), .second, .val (.long v53), .second, .val (.long q2), .second, .val (.ref b56), .val (.int r78), .unset] [])) _
          refine XS.lload X75.here hx rfl (hb hby at_116) rfl ?_
          show Steps p.tables e below (T75.setTop (mkF m 118 #[.val (.long q0), .second, .val (.long q1), .second, .val (.long q2), .second, .val (.long q3), .second, .val (.int p4), .val (.long v51), .second, .val (.long v53), .second, .val (.long q2), .second, .val (.ref b56), .val (.int r78), .unset] [(.long q2)])) _
          refine XS.lload X75.here hx rfl (hb hby at_118) rfl ?_
          show Steps p.tables e below (T75.setTop (mkF m 120 #[.val (.long q0), .second, .val (.long q1), .second, .val (.long q2), .second, .val (.long q3), .second, .val (.int p4), .val (.long v51), .second, .val (.long v53), .second, .val (.long q2), .second, .val (.ref b56), .val (.int r78), .unset] [(.long v51), (.long q2)])) _
          refine XS.ladd X75.here hx rfl (hb hby at_120) rfl ?_
          show Steps p.tables e below (T75.setTop (mkF m 121 #[.val (.long q0), .second, .val (.long q1), .second, .val (.long q2), .second, .val (.long q3), .second, .val (.int p4), .val (.long v51), .second, .val (.long v53), .second, .val (.long q2), .second, .val (.ref b56), .val (.int r78), .unset] [(.long (q2 + v51))])) _
          refine XS.lload X75.here hx rfl (hb hby at_121) rfl ?_
          show Steps p.tables e below (T75.setTop (mkF m 123 #[.val (.long q0), .second, .val (.long q1), .second, .val (.long q2), .second, .val (.long q3), .second, .val (.int p4), .val (.long v51), .second, .val (.long v53), .second, .val (.long q2), .second, .val (.ref b56), .val (.int r78), .unset] [(.long v53), (.long (q2 + v51))])) _
          refine XS.lcmp X75.here hx rfl (hb hby at_123) rfl ?_
          show Steps p.tables e below (T75.setTop (mkF m 124 #[.val (.long q0), .second, .val (.long q1), .second, .val (.long q2), .second, .val (.long q3), .second, .val (.int p4), .val (.long v51), .second, .val (.long v53), .second, .val (.long q2), .second, .val (.ref b56), .val (.int r78), .unset] [(.int (lcmpW (q2 + v51) v53))])) _
          exact kt
        by_cases hc124_96 : (q2 + v51) < v53
        · have hc138_97 : r78 = (0 : Int32) := (by rw [hr78]; exact ((own_law (bal := q2) (by rw [hv51]; exact own_mx _) (by rw [hv53]; exact own_mx _)).2.2 hc82_80 (Or.inl hc95_84)).1 hc124_96)
          have k98 : ∀ tg_, Steps p.tables e below (T75.setTop (mkF m 146 #[.val (.long q0), .second, .val (.long q1), .second, .val (.long q2), .second, .val (.long q3), .second, .val (.int p4), .val (.long v51), .second, .val (.long v53), .second, .val (.long q2), .second, .val (.ref b56), .val (.int r78), .val (.int (0 : Int32))] [(.int (1 : Int32))])) tg_ → Steps p.tables e below (s₁.setTop (entryFrame m #[(.long q0), (.long q1), (.long q2), (.long q3), (.int p4)] maxLocals)) tg_ := by
            intro tg_ kt
            refine k95 tg_ ?_
            refine XS.ifYes X75.here hx rfl (pc0 := 124) (pc' := 131) rfl (hb hby at_124) rfl ((if0 _ _).trans (tlt ((show ((lcmpW (q2 + v51) v53) < 0) ↔ ((q2 + v51) < v53) from lw_lt (q2 + v51) v53).mpr hc124_96)).1) (by decide) (by decide) ?_
            show Steps p.tables e below (T75.setTop (mkF m 131 #[.val (.long q0), .second, .val (.long q1), .second, .val (.long q2), .second, .val (.long q3), .second, .val (.int p4), .val (.long v51), .second, .val (.long v53), .second, .val (.long q2), .second, .val (.ref b56), .val (.int r78), .unset] [])) _
            refine XS.iconst X75.here hx rfl (hb hby at_131) ?_
            show Steps p.tables e below (T75.setTop (mkF m 132 #[.val (.long q0), .second, .val (.long q1), .second, .val (.long q2), .second, .val (.long q3), .second, .val (.int p4), .val (.long v51), .second, .val (.long v53), .second, .val (.long q2), .second, .val (.ref b56), .val (.int r78), .unset] [(.int (0 : Int32))])) _
            refine XS.istore X75.here hx rfl (hb hby at_132) rfl (l' := #[.val (.long q0), .second, .val (.long q1), .second, .val (.long q2), .second, .val (.long q3), .second, .val (.int p4), .val (.long v51), .second, .val (.long v53), .second, .val (.long q2), .second, .val (.ref b56), .val (.int r78), .val (.int (0 : Int32))]) rfl ?_
            show Steps p.tables e below (T75.setTop (mkF m 134 #[.val (.long q0), .second, .val (.long q1), .second, .val (.long q2), .second, .val (.long q3), .second, .val (.int p4), .val (.long v51), .second, .val (.long v53), .second, .val (.long q2), .second, .val (.ref b56), .val (.int r78), .val (.int (0 : Int32))] [])) _
            refine XS.iload X75.here hx rfl (hb hby at_134) rfl ?_
            show Steps p.tables e below (T75.setTop (mkF m 136 #[.val (.long q0), .second, .val (.long q1), .second, .val (.long q2), .second, .val (.long q3), .second, .val (.int p4), .val (.long v51), .second, .val (.long v53), .second, .val (.long q2), .second, .val (.ref b56), .val (.int r78), .val (.int (0 : Int32))] [(.int r78)])) _
            refine XS.iload X75.here hx rfl (hb hby at_136) rfl ?_
            show Steps p.tables e below (T75.setTop (mkF m 138 #[.val (.long q0), .second, .val (.long q1), .second, .val (.long q2), .second, .val (.long q3), .second, .val (.int p4), .val (.long v51), .second, .val (.long v53), .second, .val (.long q2), .second, .val (.ref b56), .val (.int r78), .val (.int (0 : Int32))] [(.int (0 : Int32)), (.int r78)])) _
            refine XS.icmpNo X75.here hx rfl (hb hby at_138) rfl (teq hc138_97).2 ?_
            show Steps p.tables e below (T75.setTop (mkF m 141 #[.val (.long q0), .second, .val (.long q1), .second, .val (.long q2), .second, .val (.long q3), .second, .val (.int p4), .val (.long v51), .second, .val (.long v53), .second, .val (.long q2), .second, .val (.ref b56), .val (.int r78), .val (.int (0 : Int32))] [])) _
            refine XS.iconst X75.here hx rfl (hb hby at_141) ?_
            show Steps p.tables e below (T75.setTop (mkF m 142 #[.val (.long q0), .second, .val (.long q1), .second, .val (.long q2), .second, .val (.long q3), .second, .val (.int p4), .val (.long v51), .second, .val (.long v53), .second, .val (.long q2), .second, .val (.ref b56), .val (.int r78), .val (.int (0 : Int32))] [(.int (1 : Int32))])) _
            refine XS.goto X75.here hx rfl (pc0 := 142) (pc' := 146) rfl (hb hby at_142) (by decide) (by decide) ?_
            show Steps p.tables e below (T75.setTop (mkF m 146 #[.val (.long q0), .second, .val (.long q1), .second, .val (.long q2), .second, .val (.long q3), .second, .val (.int p4), .val (.long v51), .second, .val (.long v53), .second, .val (.long q2), .second, .val (.ref b56), .val (.int r78), .val (.int (0 : Int32))] [(.int (1 : Int32))])) _
            exact kt
          obtain ⟨fs, hr, hrun, hended, hW1, hW2, hW3, hsame⟩ := Stand.leaveW (s := s) (vm₁ := T73.vm) X75 hS73 (Nat.le_trans (Nat.le_refl T73.heap.size) (Nat.le_of_eq (congrArg Array.size (Eq.symm (show T75.heap = T73.heap from eq75))))) (v := some (.int (1 : Int32))) (fun h => by rw [Bd.returns] at h; cases h)
          refine ⟨_, _, k98 _ (retN X75 hx (t := .boolean) Bd.returns (by simp) (hb hby at_146) hr), hrun, hended, _, _, rfl, ?_, hW1, hW2, hW3, hsame.mono (by decide) (by decide)⟩
          show Q0 Z q0 q1 q2 q3 p4 xo h0 n0 _ T75.heap _
          rw [eq75]
          exact ⟨rfl, N75⟩
        · have hc138_99 : r78 = (1 : Int32) := (by rw [hr78]; exact ((own_law (bal := q2) (by rw [hv51]; exact own_mx _) (by rw [hv53]; exact own_mx _)).2.2 hc82_80 (Or.inl hc95_84)).2 hc124_96)
          have k100 : ∀ tg_, Steps p.tables e below (T75.setTop (mkF m 146 #[.val (.long q0), .second, .val (.long q1), .second, .val (.long q2), .second, .val (.long q3), .second, .val (.int p4), .val (.long v51), .second, .val (.long v53), .second, .val (.long q2), .second, .val (.ref b56), .val (.int r78), .val (.int (1 : Int32))] [(.int (1 : Int32))])) tg_ → Steps p.tables e below (s₁.setTop (entryFrame m #[(.long q0), (.long q1), (.long q2), (.long q3), (.int p4)] maxLocals)) tg_ := by
            intro tg_ kt
            refine k95 tg_ ?_
            refine XS.ifNo X75.here hx rfl (hb hby at_124) rfl ((if0 _ _).trans (flt (fun qq_ => hc124_96 ((show ((lcmpW (q2 + v51) v53) < 0) ↔ ((q2 + v51) < v53) from lw_lt (q2 + v51) v53).mp qq_))).1) ?_
            show Steps p.tables e below (T75.setTop (mkF m 127 #[.val (.long q0), .second, .val (.long q1), .second, .val (.long q2), .second, .val (.long q3), .second, .val (.int p4), .val (.long v51), .second, .val (.long v53), .second, .val (.long q2), .second, .val (.ref b56), .val (.int r78), .unset] [])) _
            refine XS.iconst X75.here hx rfl (hb hby at_127) ?_
            show Steps p.tables e below (T75.setTop (mkF m 128 #[.val (.long q0), .second, .val (.long q1), .second, .val (.long q2), .second, .val (.long q3), .second, .val (.int p4), .val (.long v51), .second, .val (.long v53), .second, .val (.long q2), .second, .val (.ref b56), .val (.int r78), .unset] [(.int (1 : Int32))])) _
            refine XS.goto X75.here hx rfl (pc0 := 128) (pc' := 132) rfl (hb hby at_128) (by decide) (by decide) ?_
            show Steps p.tables e below (T75.setTop (mkF m 132 #[.val (.long q0), .second, .val (.long q1), .second, .val (.long q2), .second, .val (.long q3), .second, .val (.int p4), .val (.long v51), .second, .val (.long v53), .second, .val (.long q2), .second, .val (.ref b56), .val (.int r78), .unset] [(.int (1 : Int32))])) _
            refine XS.istore X75.here hx rfl (hb hby at_132) rfl (l' := #[.val (.long q0), .second, .val (.long q1), .second, .val (.long q2), .second, .val (.long q3), .second, .val (.int p4), .val (.long v51), .second, .val (.long v53), .second, .val (.long q2), .second, .val (.ref b56), .val (.int r78), .val (.int (1 : Int32))]) rfl ?_
            show Steps p.tables e below (T75.setTop (mkF m 134 #[.val (.long q0), .second, .val (.long q1), .second, .val (.long q2), .second, .val (.long q3), .second, .val (.int p4), .val (.long v51), .second, .val (.long v53), .second, .val (.long q2), .second, .val (.ref b56), .val (.int r78), .val (.int (1 : Int32))] [])) _
            refine XS.iload X75.here hx rfl (hb hby at_134) rfl ?_
            show Steps p.tables e below (T75.setTop (mkF m 136 #[.val (.long q0), .second, .val (.long q1), .second, .val (.long q2), .second, .val (.long q3), .second, .val (.int p4), .val (.long v51), .second, .val (.long v53), .second, .val (.long q2), .second, .val (.ref b56), .val (.int r78), .val (.int (1 : Int32))] [(.int r78)])) _
            refine XS.iload X75.here hx rfl (hb hby at_136) rfl ?_
            show Steps p.tables e below (T75.setTop (mkF m 138 #[.val (.long q0), .second, .val (.long q1), .second, .val (.long q2), .second, .val (.long q3), .second, .val (.int p4), .val (.long v51), .second, .val (.long v53), .second, .val (.long q2), .second, .val (.ref b56), .val (.int r78), .val (.int (1 : Int32))] [(.int (1 : Int32)), (.int r78)])) _
            refine XS.icmpNo X75.here hx rfl (hb hby at_138) rfl (teq hc138_99).2 ?_
            show Steps p.tables e below (T75.setTop (mkF m 141 #[.val (.long q0), .second, .val (.long q1), .second, .val (.long q2), .second, .val (.long q3), .second, .val (.int p4), .val (.long v51), .second, .val (.long v53), .second, .val (.long q2), .second, .val (.ref b56), .val (.int r78), .val (.int (1 : Int32))] [])) _
            refine XS.iconst X75.here hx rfl (hb hby at_141) ?_
            show Steps p.tables e below (T75.setTop (mkF m 142 #[.val (.long q0), .second, .val (.long q1), .second, .val (.long q2), .second, .val (.long q3), .second, .val (.int p4), .val (.long v51), .second, .val (.long v53), .second, .val (.long q2), .second, .val (.ref b56), .val (.int r78), .val (.int (1 : Int32))] [(.int (1 : Int32))])) _
            refine XS.goto X75.here hx rfl (pc0 := 142) (pc' := 146) rfl (hb hby at_142) (by decide) (by decide) ?_
            show Steps p.tables e below (T75.setTop (mkF m 146 #[.val (.long q0), .second, .val (.long q1), .second, .val (.long q2), .second, .val (.long q3), .second, .val (.int p4), .val (.long v51), .second, .val (.long v53), .second, .val (.long q2), .second, .val (.ref b56), .val (.int r78), .val (.int (1 : Int32))] [(.int (1 : Int32))])) _
            exact kt
          obtain ⟨fs, hr, hrun, hended, hW1, hW2, hW3, hsame⟩ := Stand.leaveW (s := s) (vm₁ := T73.vm) X75 hS73 (Nat.le_trans (Nat.le_refl T73.heap.size) (Nat.le_of_eq (congrArg Array.size (Eq.symm (show T75.heap = T73.heap from eq75))))) (v := some (.int (1 : Int32))) (fun h => by rw [Bd.returns] at h; cases h)
          refine ⟨_, _, k100 _ (retN X75 hx (t := .boolean) Bd.returns (by simp) (hb hby at_146) hr), hrun, hended, _, _, rfl, ?_, hW1, hW2, hW3, hsame.mono (by decide) (by decide)⟩
          show Q0 Z q0 q1 q2 q3 p4 xo h0 n0 _ T75.heap _
          rw [eq75]
          exact ⟨rfl, N75⟩
  · have k101 : ∀ tg_, Steps p.tables e below (s₁.setTop (mkF m 35 #[.val (.long q0), .second, .val (.long q1), .second, .val (.long q2), .second, .val (.long q3), .second, .val (.int p4), .val (.long v51), .second, .val (.long v53), .second, .val (.long q2), .second, .unset, .unset, .unset] [(.long (((((p4.toUInt32 >>> ((1 : Int32) &&& 31).toUInt32).toInt32) % (3 : Int32)) - (1 : Int32)).toInt64))])) tg_ → Steps p.tables e below (s₁.setTop (entryFrame m #[(.long q0), (.long q1), (.long q2), (.long q3), (.int p4)] maxLocals)) tg_ := by
      intro tg_ kt
      refine k54 tg_ ?_
      refine XS.ifNo X0.here hx rfl (hb hby at_23) rfl ((if0 _ _).trans (feq hc23_55).1) ?_
      show Steps p.tables e below (s₁.setTop (mkF m 26 #[.val (.long q0), .second, .val (.long q1), .second, .val (.long q2), .second, .val (.long q3), .second, .val (.int p4), .val (.long v51), .second, .val (.long v53), .second, .val (.long q2), .second, .unset, .unset, .unset] [])) _
      refine XS.iload X0.here hx rfl (hb hby at_26) rfl ?_
      show Steps p.tables e below (s₁.setTop (mkF m 28 #[.val (.long q0), .second, .val (.long q1), .second, .val (.long q2), .second, .val (.long q3), .second, .val (.int p4), .val (.long v51), .second, .val (.long v53), .second, .val (.long q2), .second, .unset, .unset, .unset] [(.int p4)])) _
      refine XS.iconst X0.here hx rfl (hb hby at_28) ?_
      show Steps p.tables e below (s₁.setTop (mkF m 29 #[.val (.long q0), .second, .val (.long q1), .second, .val (.long q2), .second, .val (.long q3), .second, .val (.int p4), .val (.long v51), .second, .val (.long v53), .second, .val (.long q2), .second, .unset, .unset, .unset] [(.int (1 : Int32)), (.int p4)])) _
      refine XS.iushr X0.here hx rfl (hb hby at_29) rfl ?_
      show Steps p.tables e below (s₁.setTop (mkF m 30 #[.val (.long q0), .second, .val (.long q1), .second, .val (.long q2), .second, .val (.long q3), .second, .val (.int p4), .val (.long v51), .second, .val (.long v53), .second, .val (.long q2), .second, .unset, .unset, .unset] [(.int ((p4.toUInt32 >>> ((1 : Int32) &&& 31).toUInt32).toInt32))])) _
      refine XS.iconst X0.here hx rfl (hb hby at_30) ?_
      show Steps p.tables e below (s₁.setTop (mkF m 31 #[.val (.long q0), .second, .val (.long q1), .second, .val (.long q2), .second, .val (.long q3), .second, .val (.int p4), .val (.long v51), .second, .val (.long v53), .second, .val (.long q2), .second, .unset, .unset, .unset] [(.int (3 : Int32)), (.int ((p4.toUInt32 >>> ((1 : Int32) &&& 31).toUInt32).toInt32))])) _
      refine iremM X0 hx rfl (hb hby at_31) rfl (by decide) ?_
      show Steps p.tables e below (s₁.setTop (mkF m 32 #[.val (.long q0), .second, .val (.long q1), .second, .val (.long q2), .second, .val (.long q3), .second, .val (.int p4), .val (.long v51), .second, .val (.long v53), .second, .val (.long q2), .second, .unset, .unset, .unset] [(.int (((p4.toUInt32 >>> ((1 : Int32) &&& 31).toUInt32).toInt32) % (3 : Int32)))])) _
      refine XS.iconst X0.here hx rfl (hb hby at_32) ?_
      show Steps p.tables e below (s₁.setTop (mkF m 33 #[.val (.long q0), .second, .val (.long q1), .second, .val (.long q2), .second, .val (.long q3), .second, .val (.int p4), .val (.long v51), .second, .val (.long v53), .second, .val (.long q2), .second, .unset, .unset, .unset] [(.int (1 : Int32)), (.int (((p4.toUInt32 >>> ((1 : Int32) &&& 31).toUInt32).toInt32) % (3 : Int32)))])) _
      refine XS.isub X0.here hx rfl (hb hby at_33) rfl ?_
      show Steps p.tables e below (s₁.setTop (mkF m 34 #[.val (.long q0), .second, .val (.long q1), .second, .val (.long q2), .second, .val (.long q3), .second, .val (.int p4), .val (.long v51), .second, .val (.long v53), .second, .val (.long q2), .second, .unset, .unset, .unset] [(.int ((((p4.toUInt32 >>> ((1 : Int32) &&& 31).toUInt32).toInt32) % (3 : Int32)) - (1 : Int32)))])) _
      refine XS.i2l X0.here hx rfl (hb hby at_34) rfl ?_
      show Steps p.tables e below (s₁.setTop (mkF m 35 #[.val (.long q0), .second, .val (.long q1), .second, .val (.long q2), .second, .val (.long q3), .second, .val (.int p4), .val (.long v51), .second, .val (.long v53), .second, .val (.long q2), .second, .unset, .unset, .unset] [(.long (((((p4.toUInt32 >>> ((1 : Int32) &&& 31).toUInt32).toInt32) % (3 : Int32)) - (1 : Int32)).toInt64))])) _
      exact kt
    obtain ⟨v102, hv102⟩ : ∃ z : Int64, z = (((((p4.toUInt32 >>> ((1 : Int32) &&& 31).toUInt32).toInt32) % (3 : Int32)) - (1 : Int32)).toInt64) := ⟨_, rfl⟩
    rw [← hv102] at k101
    have k103 : ∀ tg_, Steps p.tables e below (s₁.setTop (mkF m 45 #[.val (.long q0), .second, .val (.long q1), .second, .val (.long q2), .second, .val (.long q3), .second, .val (.int p4), .val (.long v51), .second, .val (.long v53), .second, .val (.long q2), .second, .val (.long v102), .second, .unset] [(.long ((v53 - v51) + v102))])) tg_ → Steps p.tables e below (s₁.setTop (entryFrame m #[(.long q0), (.long q1), (.long q2), (.long q3), (.int p4)] maxLocals)) tg_ := by
      intro tg_ kt
      refine k101 tg_ ?_
      refine XS.lstore X0.here hx rfl (hb hby at_35) rfl (l' := #[.val (.long q0), .second, .val (.long q1), .second, .val (.long q2), .second, .val (.long q3), .second, .val (.int p4), .val (.long v51), .second, .val (.long v53), .second, .val (.long q2), .second, .val (.long v102), .second, .unset]) rfl ?_
      show Steps p.tables e below (s₁.setTop (mkF m 37 #[.val (.long q0), .second, .val (.long q1), .second, .val (.long q2), .second, .val (.long q3), .second, .val (.int p4), .val (.long v51), .second, .val (.long v53), .second, .val (.long q2), .second, .val (.long v102), .second, .unset] [])) _
      refine XS.lload X0.here hx rfl (hb hby at_37) rfl ?_
      show Steps p.tables e below (s₁.setTop (mkF m 39 #[.val (.long q0), .second, .val (.long q1), .second, .val (.long q2), .second, .val (.long q3), .second, .val (.int p4), .val (.long v51), .second, .val (.long v53), .second, .val (.long q2), .second, .val (.long v102), .second, .unset] [(.long v53)])) _
      refine XS.lload X0.here hx rfl (hb hby at_39) rfl ?_
      show Steps p.tables e below (s₁.setTop (mkF m 41 #[.val (.long q0), .second, .val (.long q1), .second, .val (.long q2), .second, .val (.long q3), .second, .val (.int p4), .val (.long v51), .second, .val (.long v53), .second, .val (.long q2), .second, .val (.long v102), .second, .unset] [(.long v51), (.long v53)])) _
      refine XS.lsub X0.here hx rfl (hb hby at_41) rfl ?_
      show Steps p.tables e below (s₁.setTop (mkF m 42 #[.val (.long q0), .second, .val (.long q1), .second, .val (.long q2), .second, .val (.long q3), .second, .val (.int p4), .val (.long v51), .second, .val (.long v53), .second, .val (.long q2), .second, .val (.long v102), .second, .unset] [(.long (v53 - v51))])) _
      refine XS.lload X0.here hx rfl (hb hby at_42) rfl ?_
      show Steps p.tables e below (s₁.setTop (mkF m 44 #[.val (.long q0), .second, .val (.long q1), .second, .val (.long q2), .second, .val (.long q3), .second, .val (.int p4), .val (.long v51), .second, .val (.long v53), .second, .val (.long q2), .second, .val (.long v102), .second, .unset] [(.long v102), (.long (v53 - v51))])) _
      refine XS.ladd X0.here hx rfl (hb hby at_44) rfl ?_
      show Steps p.tables e below (s₁.setTop (mkF m 45 #[.val (.long q0), .second, .val (.long q1), .second, .val (.long q2), .second, .val (.long q3), .second, .val (.int p4), .val (.long v51), .second, .val (.long v53), .second, .val (.long q2), .second, .val (.long v102), .second, .unset] [(.long ((v53 - v51) + v102))])) _
      exact kt
    obtain ⟨v104, hv104⟩ : ∃ z : Int64, z = ((v53 - v51) + v102) := ⟨_, rfl⟩
    rw [← hv104] at k103
    obtain ⟨T105, h105, X105, e105, E105, A105, D105, -, st105⟩ := newO X0 hx hZ hown (hw _ (List.mem_of_getElem? (i := 1) rfl)) (hw _ (List.mem_of_getElem? (i := 2) rfl)) (hw _ (List.mem_of_getElem? (i := 3) rfl)) e0 (g := (mkF m 47 #[.val (.long q0), .second, .val (.long q1), .second, .val (.long q2), .second, .val (.long q3), .second, .val (.int p4), .val (.long v51), .second, .val (.long v53), .second, .val (.long v104), .second, .val (.long v102), .second, .unset] [])) rfl (hb hby at_47) (by decide) (by decide)
    obtain ⟨b105, g105⟩ : ∃ z, z = h0.size := ⟨_, rfl⟩
    rw [← g105] at A105 D105 st105
    have ne_xo_b105 : xo ≠ b105 := Nat.ne_of_lt (Nat.lt_of_lt_of_le (E_xo).lt (Nat.le_of_eq g105.symm))
    have ge_b105 : n0 ≤ b105 := Nat.le_trans Z0 (Nat.le_of_eq g105.symm)
    have F106 : Fld Z h105 b105 "com/example/tidegate/tidegate/model/Account" "participant" "Ljava/lang/String;" .null := D105 (Or.inr (hw _ (List.mem_of_getElem? (i := 45) rfl))) (ty := (.object "java/lang/String")) (by decide)
    have F107 : Fld Z h105 b105 "com/example/tidegate/tidegate/model/Account" "balance" "J" (.long (0 : Int64)) := D105 (Or.inr (hw _ (List.mem_of_getElem? (i := 47) rfl))) (ty := .long) (by decide)
    have F108 : Fld Z h105 b105 "com/example/tidegate/tidegate/model/Account" "credit" "J" (.long (0 : Int64)) := D105 (Or.inr (hw _ (List.mem_of_getElem? (i := 49) rfl))) (ty := .long) (by decide)
    have F109 : Fld Z h105 b105 "com/example/tidegate/tidegate/model/Account" "cost" "Ljava/util/OptionalLong;" .null := D105 (Or.inr (hw _ (List.mem_of_getElem? (i := 51) rfl))) (ty := (.object "java/util/OptionalLong")) (by decide)
    have k110 : ∀ tg_, Steps p.tables e below (T105.setTop (mkF m 51 #[.val (.long q0), .second, .val (.long q1), .second, .val (.long q2), .second, .val (.long q3), .second, .val (.int p4), .val (.long v51), .second, .val (.long v53), .second, .val (.long v104), .second, .val (.long v102), .second, .unset] [(.ref b105), (.ref b105)])) tg_ → Steps p.tables e below (s₁.setTop (entryFrame m #[(.long q0), (.long q1), (.long q2), (.long q3), (.int p4)] maxLocals)) tg_ := by
      intro tg_ kt
      refine k103 tg_ ?_
      refine XS.lstore X0.here hx rfl (hb hby at_45) rfl (l' := #[.val (.long q0), .second, .val (.long q1), .second, .val (.long q2), .second, .val (.long q3), .second, .val (.int p4), .val (.long v51), .second, .val (.long v53), .second, .val (.long v104), .second, .val (.long v102), .second, .unset]) rfl ?_
      show Steps p.tables e below (s₁.setTop (mkF m 47 #[.val (.long q0), .second, .val (.long q1), .second, .val (.long q2), .second, .val (.long q3), .second, .val (.int p4), .val (.long v51), .second, .val (.long v53), .second, .val (.long v104), .second, .val (.long v102), .second, .unset] [])) _
      refine st105 _ ?_
      show Steps p.tables e below (T105.setTop (mkF m 50 #[.val (.long q0), .second, .val (.long q1), .second, .val (.long q2), .second, .val (.long q3), .second, .val (.int p4), .val (.long v51), .second, .val (.long v53), .second, .val (.long v104), .second, .val (.long v102), .second, .unset] [(.ref b105)])) _
      refine XS.dup X105.here hx rfl (hb hby at_50) rfl rfl ?_
      show Steps p.tables e below (T105.setTop (mkF m 51 #[.val (.long q0), .second, .val (.long q1), .second, .val (.long q2), .second, .val (.long q3), .second, .val (.int p4), .val (.long v51), .second, .val (.long v53), .second, .val (.long v104), .second, .val (.long v102), .second, .unset] [(.ref b105), (.ref b105)])) _
      exact kt
    have f111 := (Nat.le_trans hY0 ((Keep.refl _ []).ext E105).1)
    obtain ⟨b112, T112, h112, k112, X112, e112, E112, hS112, hk112, hZ, hown, st112⟩ := ldcS (s := s) (vm0 := s.vm) X105 hx hZ hown (hw _ (List.mem_of_getElem? (i := 4) rfl)) (fun d hd => hw d (strW d hd)) e105 hS0 f111 (g := (mkF m 51 #[.val (.long q0), .second, .val (.long q1), .second, .val (.long q2), .second, .val (.long q3), .second, .val (.int p4), .val (.long v51), .second, .val (.long v53), .second, .val (.long v104), .second, .val (.long v102), .second, .unset] [(.ref b105), (.ref b105)])) rfl (hb hby at_51) (n := 4) (by decide) (by decide) (by decide) (by decide)
    replace X112 : Stand p l e room_1 (s.setVm T112.vm) m #[(.long q0), (.long q1), (.long q2), (.long q3), (.int p4)] below meth c T112 _ 3 12 := X112
    have f113 := (Nat.le_trans (Nat.le_trans Z0 ((Keep.refl _ []).ext E105).1) ((Keep.refl _ []).ext E112).1)
    have f114 := (A105.keep ((Keep.refl _ []).ext E112))
    have f115 := ((E_xo.keep ((Keep.refl _ []).ext E105)).keep ((Keep.refl _ []).ext E112))
    have f116 := (F106.keep ((Keep.refl _ []).ext E112) nin0)
    have f117 := (F107.keep ((Keep.refl _ []).ext E112) nin0)
    have f118 := (F108.keep ((Keep.refl _ []).ext E112) nin0)
    have f119 := (F109.keep ((Keep.refl _ []).ext E112) nin0)
    have f120 := ((F_xo.keep ((Keep.refl _ []).ext E105) nin0).keep ((Keep.refl _ []).ext E112) nin0)
    have f121 := (own_Sta.keep (own_Sta.keep S_xo ((Keep.refl _ []).ext E105) (fun _ q => nomatch q)) ((Keep.refl _ []).ext E112) (fun _ q => nomatch q))
    have k123 : ∀ tg_, Steps p.tables e below (T112.setTop (mkF m 60 #[.val (.long q0), .second, .val (.long q1), .second, .val (.long q2), .second, .val (.long q3), .second, .val (.int p4), .val (.long v51), .second, .val (.long v53), .second, .val (.long v104), .second, .val (.long v102), .second, .unset] [(.long v51), (.long (q0 &&& (9223372036854775807 : Int64))), (.ref b112), (.ref b105), (.ref b105)])) tg_ → Steps p.tables e below (s₁.setTop (entryFrame m #[(.long q0), (.long q1), (.long q2), (.long q3), (.int p4)] maxLocals)) tg_ := by
      intro tg_ kt
      refine k110 tg_ ?_
      refine st112 _ ?_
      show Steps p.tables e below (T112.setTop (mkF m 53 #[.val (.long q0), .second, .val (.long q1), .second, .val (.long q2), .second, .val (.long q3), .second, .val (.int p4), .val (.long v51), .second, .val (.long v53), .second, .val (.long v104), .second, .val (.long v102), .second, .unset] [(.ref b112), (.ref b105), (.ref b105)])) _
      refine XS.lloadN X112.here hx rfl (hb hby at_53) rfl ?_
      show Steps p.tables e below (T112.setTop (mkF m 54 #[.val (.long q0), .second, .val (.long q1), .second, .val (.long q2), .second, .val (.long q3), .second, .val (.int p4), .val (.long v51), .second, .val (.long v53), .second, .val (.long v104), .second, .val (.long v102), .second, .unset] [(.long q0), (.ref b112), (.ref b105), (.ref b105)])) _
      refine X112.ldc2Long hx hown (mvT hZ (hw _ (List.mem_of_getElem? (i := 0) rfl))) (g := (mkF m 54 #[.val (.long q0), .second, .val (.long q1), .second, .val (.long q2), .second, .val (.long q3), .second, .val (.int p4), .val (.long v51), .second, .val (.long v53), .second, .val (.long v104), .second, .val (.long v102), .second, .unset] [(.long q0), (.ref b112), (.ref b105), (.ref b105)])) rfl (hb hby at_54) _ ?_
      show Steps p.tables e below (T112.setTop (mkF m 57 #[.val (.long q0), .second, .val (.long q1), .second, .val (.long q2), .second, .val (.long q3), .second, .val (.int p4), .val (.long v51), .second, .val (.long v53), .second, .val (.long v104), .second, .val (.long v102), .second, .unset] [(.long (9223372036854775807 : Int64)), (.long q0), (.ref b112), (.ref b105), (.ref b105)])) _
      refine XS.land X112.here hx rfl (hb hby at_57) rfl ?_
      show Steps p.tables e below (T112.setTop (mkF m 58 #[.val (.long q0), .second, .val (.long q1), .second, .val (.long q2), .second, .val (.long q3), .second, .val (.int p4), .val (.long v51), .second, .val (.long v53), .second, .val (.long v104), .second, .val (.long v102), .second, .unset] [(.long (q0 &&& (9223372036854775807 : Int64))), (.ref b112), (.ref b105), (.ref b105)])) _
      refine XS.lload X112.here hx rfl (hb hby at_58) rfl ?_
      show Steps p.tables e below (T112.setTop (mkF m 60 #[.val (.long q0), .second, .val (.long q1), .second, .val (.long q2), .second, .val (.long q3), .second, .val (.int p4), .val (.long v51), .second, .val (.long v53), .second, .val (.long v104), .second, .val (.long v102), .second, .unset] [(.long v51), (.long (q0 &&& (9223372036854775807 : Int64))), (.ref b112), (.ref b105), (.ref b105)])) _
      exact kt
    obtain ⟨_, _, ⟨T122, L122, kc122, nc122⟩, -, X122, hs122, gr122, ⟨Lc122, hQ122, l122, y122, z122⟩, st122⟩ := X112.specialBackS hx (y := (⟨"com/example/tidegate/tidegate/model/Account", "<init>", "(Ljava/lang/String;JJ)V"⟩ : MethodName)) rfl hown (mvT hZ (hw _ (List.mem_of_getElem? (i := 12) rfl))) (mvT hZ (hw _ (List.mem_of_getElem? (i := 13) rfl))) (mvT hZ (hw _ (List.mem_of_getElem? (i := 14) rfl))) (by decide) (backOfS (W := 1) (rm1 l Z a0 hw [] b105 b112 (q0 &&& (9223372036854775807 : Int64)) v51 xo h112 n0 f113 f114 f115 f116 f117 f118 f119 f120 f121 ge_b105 ne_xo_b105 (own_nn _) (by rw [hv51]; exact own_nn _)) hZ (hw _ (List.mem_of_getElem? (i := 14) rfl)) (hw _ (List.mem_of_getElem? (i := 3) rfl)) (by decide) (by decide)) (g := (mkF m 60 #[.val (.long q0), .second, .val (.long q1), .second, .val (.long q2), .second, .val (.long q3), .second, .val (.int p4), .val (.long v51), .second, .val (.long v53), .second, .val (.long v104), .second, .val (.long v102), .second, .unset] [(.long v51), (.long (q0 &&& (9223372036854775807 : Int64))), (.ref b112), (.ref b105), (.ref b105)])) rfl (by rw [hml]; rfl) (Steps.refl _) (a := b105) (argsL := [(.ref b112), (.long (q0 &&& (9223372036854775807 : Int64))), (.long v51)]) (rest := [(.ref b105)]) (lenOf pd_0 rfl) rfl (by show 2 * 0 + _ ≤ _; exact Nat.le_of_eq rfl) (hb hby at_60) (fun _ _ => ⟨rfl, e112, (by decide : 3 + 4 ≤ _), (by decide : 12 + 68 ≤ _)⟩)
    dsimp only [Pt.U, Pt.locs, Pt.cells, Pt.slots] at X122 l122 y122 z122 st122 hQ122 hs122 gr122
    rw [l122, y122, z122] at X122
    obtain ⟨X122, hS122, hZ, hown⟩ := rebS (s := s) (vm0 := T112.vm) (vm1 := T122.vm) hS112 (Nat.le_trans hk112 (Nat.le_of_eq (congrArg Array.size (Eq.symm (show T112.heap = h112 from e112))))) X122 hs122 gr122 hZ hown
    replace X122 : Stand p l e room_1 (s.setVm T122.vm) m #[(.long q0), (.long q1), (.long q2), (.long q3), (.int p4)] below meth c T122 _ 7 80 := X122
    obtain ⟨rfl, Nq122, oK122, oFacredit122⟩ := hQ122
    have N122 := Fr.app N0 Nq122
    have f125 := (f114.keep oK122)
    obtain ⟨cq124, kq124, q124a, q124b, q124c⟩ := isOf hZ rfl f125
    obtain ⟨_, _, ⟨T124, L124, kc124, nc124⟩, -, X124, ⟨Lc124, hQ124, l124, y124, z124⟩, st124⟩ := X122.virtualBack hx (y := (⟨"com/example/tidegate/tidegate/model/Account", "canFund", "(JJ)Z"⟩ : MethodName)) (z := (⟨"com/example/tidegate/tidegate/model/Account", "canFund", "(JJ)Z"⟩ : MethodName)) hown (mvT hZ (hw _ (List.mem_of_getElem? (i := 52) rfl))) (mvT hZ (hw _ (List.mem_of_getElem? (i := 53) rfl))) (notFace_of_selects (args := #[]) (mvT hZ (hw _ (List.mem_of_getElem? (i := 55) rfl)))) (mvT hZ (hw _ (List.mem_of_getElem? (i := 55) rfl))) (mvT hZ (hw _ (List.mem_of_getElem? (i := 54) rfl))) (by decide) (backOf (W := 0) (rmcf l Z a0 hw [] b105 v104 v53 v51 T122.heap n0 oFacredit122) hZ (hw _ (List.mem_of_getElem? (i := 56) rfl)) (hw _ (List.mem_of_getElem? (i := 3) rfl)) (by decide) (by decide)) q124a q124c (g := (mkF m 71 #[.val (.long q0), .second, .val (.long q1), .second, .val (.long q2), .second, .val (.long q3), .second, .val (.int p4), .val (.long v51), .second, .val (.long v53), .second, .val (.long v104), .second, .val (.ref b105), .unset, .unset] [(.long v53), (.long v104), (.ref b105)])) rfl (by rw [hml]; rfl) (Steps.refl _) (argsL := [(.long v104), (.long v53)]) (rest := []) (lenOf pd_6 rfl) rfl (by show 2 * 0 + _ ≤ _; exact Nat.le_of_eq rfl) (hb hby at_71) (fun _ _ => ⟨rfl, rfl, (by decide : 7 + 0 ≤ _), (by decide : 80 + 0 ≤ _)⟩)
    dsimp only [Pt.U, Pt.locs, Pt.cells, Pt.slots] at X124 l124 y124 z124 st124 hQ124
    rw [l124, y124, z124] at X124
    replace X124 : Stand p l e room_1 (s.setVm T122.vm) m #[(.long q0), (.long q1), (.long q2), (.long q3), (.int p4)] below meth c T124 _ 7 80 := X124
    obtain ⟨rfl, Nq124, eq124⟩ := hQ124
    have N124 := Fr.app N122 Nq124
    have k126 : ∀ tg_, Steps p.tables e below (T124.setTop (mkF m 74 #[.val (.long q0), .second, .val (.long q1), .second, .val (.long q2), .second, .val (.long q3), .second, .val (.int p4), .val (.long v51), .second, .val (.long v53), .second, .val (.long v104), .second, .val (.ref b105), .unset, .unset] [(.int (own_cf v104 v53 v51))])) tg_ → Steps p.tables e below (s₁.setTop (entryFrame m #[(.long q0), (.long q1), (.long q2), (.long q3), (.int p4)] maxLocals)) tg_ := by
      intro tg_ kt
      refine k123 tg_ ?_
      refine st122.trans ?_
      show Steps p.tables e below (T122.setTop (mkF m 63 #[.val (.long q0), .second, .val (.long q1), .second, .val (.long q2), .second, .val (.long q3), .second, .val (.int p4), .val (.long v51), .second, .val (.long v53), .second, .val (.long v104), .second, .val (.long v102), .second, .unset] [(.ref b105)])) _
      refine XS.astore X122.here hx rfl (hb hby at_63) rfl rfl (l' := #[.val (.long q0), .second, .val (.long q1), .second, .val (.long q2), .second, .val (.long q3), .second, .val (.int p4), .val (.long v51), .second, .val (.long v53), .second, .val (.long v104), .second, .val (.ref b105), .unset, .unset]) rfl ?_
      show Steps p.tables e below (T122.setTop (mkF m 65 #[.val (.long q0), .second, .val (.long q1), .second, .val (.long q2), .second, .val (.long q3), .second, .val (.int p4), .val (.long v51), .second, .val (.long v53), .second, .val (.long v104), .second, .val (.ref b105), .unset, .unset] [])) _
      refine XS.aload X122.here hx rfl (hb hby at_65) rfl rfl ?_
      show Steps p.tables e below (T122.setTop (mkF m 67 #[.val (.long q0), .second, .val (.long q1), .second, .val (.long q2), .second, .val (.long q3), .second, .val (.int p4), .val (.long v51), .second, .val (.long v53), .second, .val (.long v104), .second, .val (.ref b105), .unset, .unset] [(.ref b105)])) _
      refine XS.lload X122.here hx rfl (hb hby at_67) rfl ?_
      show Steps p.tables e below (T122.setTop (mkF m 69 #[.val (.long q0), .second, .val (.long q1), .second, .val (.long q2), .second, .val (.long q3), .second, .val (.int p4), .val (.long v51), .second, .val (.long v53), .second, .val (.long v104), .second, .val (.ref b105), .unset, .unset] [(.long v104), (.ref b105)])) _
      refine XS.lload X122.here hx rfl (hb hby at_69) rfl ?_
      show Steps p.tables e below (T122.setTop (mkF m 71 #[.val (.long q0), .second, .val (.long q1), .second, .val (.long q2), .second, .val (.long q3), .second, .val (.int p4), .val (.long v51), .second, .val (.long v53), .second, .val (.long v104), .second, .val (.ref b105), .unset, .unset] [(.long v53), (.long v104), (.ref b105)])) _
      refine st124.trans ?_
      show Steps p.tables e below (T124.setTop (mkF m 74 #[.val (.long q0), .second, .val (.long q1), .second, .val (.long q2), .second, .val (.long q3), .second, .val (.int p4), .val (.long v51), .second, .val (.long v53), .second, .val (.long v104), .second, .val (.ref b105), .unset, .unset] [(.int (own_cf v104 v53 v51))])) _
      exact kt
    obtain ⟨r127, hr127⟩ : ∃ z : Int32, z = (own_cf v104 v53 v51) := ⟨_, rfl⟩
    rw [← hr127] at k126
    have k128 : ∀ tg_, Steps p.tables e below (T124.setTop (mkF m 82 #[.val (.long q0), .second, .val (.long q1), .second, .val (.long q2), .second, .val (.long q3), .second, .val (.int p4), .val (.long v51), .second, .val (.long v53), .second, .val (.long v104), .second, .val (.ref b105), .val (.int r127), .unset] [(.int (lcmpW v51 (9223372036854775807 : Int64)))])) tg_ → Steps p.tables e below (s₁.setTop (entryFrame m #[(.long q0), (.long q1), (.long q2), (.long q3), (.int p4)] maxLocals)) tg_ := by
      intro tg_ kt
      refine k126 tg_ ?_
      show Steps p.tables e below (T124.setTop (mkF m 74 #[.val (.long q0), .second, .val (.long q1), .second, .val (.long q2), .second, .val (.long q3), .second, .val (.int p4), .val (.long v51), .second, .val (.long v53), .second, .val (.long v104), .second, .val (.ref b105), .unset, .unset] [(.int r127)])) _
      refine XS.istore X124.here hx rfl (hb hby at_74) rfl (l' := #[.val (.long q0), .second, .val (.long q1), .second, .val (.long q2), .second, .val (.long q3), .second, .val (.int p4), .val (.long v51), .second, .val (.long v53), .second, .val (.long v104), .second, .val (.ref b105), .val (.int r127), .unset]) rfl ?_
      show Steps p.tables e below (T124.setTop (mkF m 76 #[.val (.long q0), .second, .val (.long q1), .second, .val (.long q2), .second, .val (.long q3), .second, .val (.int p4), .val (.long v51), .second, .val (.long v53), .second, .val (.long v104), .second, .val (.ref b105), .val (.int r127), .unset] [])) _
      refine XS.lload X124.here hx rfl (hb hby at_76) rfl ?_
      show Steps p.tables e below (T124.setTop (mkF m 78 #[.val (.long q0), .second, .val (.long q1), .second, .val (.long q2), .second, .val (.long q3), .second, .val (.int p4), .val (.long v51), .second, .val (.long v53), .second, .val (.long v104), .second, .val (.ref b105), .val (.int r127), .unset] [(.long v51)])) _
      refine X124.ldc2Long hx hown (mvT hZ (hw _ (List.mem_of_getElem? (i := 0) rfl))) (g := (mkF m 78 #[.val (.long q0), .second, .val (.long q1), .second, .val (.long q2), .second, .val (.long q3), .second, .val (.int p4), .val (.long v51), .second, .val (.long v53), .second, .val (.long v104), .second, .val (.ref b105), .val (.int r127), .unset] [(.long v51)])) rfl (hb hby at_78) _ ?_
      show Steps p.tables e below (T124.setTop (mkF m 81 #[.val (.long q0), .second, .val (.long q1), .second, .val (.long q2), .second, .val (.long q3), .second, .val (.int p4), .val (.long v51), .second, .val (.long v53), .second, .val (.long v104), .second, .val (.ref b105), .val (.int r127), .unset] [(.long (9223372036854775807 : Int64)), (.long v51)])) _
      refine XS.lcmp X124.here hx rfl (hb hby at_81) rfl ?_
      show Steps p.tables e below (T124.setTop (mkF m 82 #[.val (.long q0), .second, .val (.long q1), .second, .val (.long q2), .second, .val (.long q3), .second, .val (.int p4), .val (.long v51), .second, .val (.long v53), .second, .val (.long v104), .second, .val (.ref b105), .val (.int r127), .unset] [(.int (lcmpW v51 (9223372036854775807 : Int64)))])) _
      exact kt
    by_cases hc82_129 : v51 = (9223372036854775807 : Int64)
    · have hc138_130 : r127 = (1 : Int32) := (by rw [hr127]; exact (own_law (bal := v104) (by rw [hv51]; exact own_mx _) (by rw [hv53]; exact own_mx _)).1 hc82_129)
      have k131 : ∀ tg_, Steps p.tables e below (T124.setTop (mkF m 146 #[.val (.long q0), .second, .val (.long q1), .second, .val (.long q2), .second, .val (.long q3), .second, .val (.int p4), .val (.long v51), .second, .val (.long v53), .second, .val (.long v104), .second, .val (.ref b105), .val (.int r127), .val (.int (1 : Int32))] [(.int (1 : Int32))])) tg_ → Steps p.tables e below (s₁.setTop (entryFrame m #[(.long q0), (.long q1), (.long q2), (.long q3), (.int p4)] maxLocals)) tg_ := by
        intro tg_ kt
        refine k128 tg_ ?_
        refine XS.ifNo X124.here hx rfl (hb hby at_82) rfl ((if0 _ _).trans (teq ((show ((lcmpW v51 (9223372036854775807 : Int64)) = 0) ↔ (v51 = (9223372036854775807 : Int64)) from lw_eq v51 (9223372036854775807 : Int64)).mpr hc82_129)).2) ?_
        show Steps p.tables e below (T124.setTop (mkF m 85 #[.val (.long q0), .second, .val (.long q1), .second, .val (.long q2), .second, .val (.long q3), .second, .val (.int p4), .val (.long v51), .second, .val (.long v53), .second, .val (.long v104), .second, .val (.ref b105), .val (.int r127), .unset] [])) _
        refine XS.iconst X124.here hx rfl (hb hby at_85) ?_
        show Steps p.tables e below (T124.setTop (mkF m 86 #[.val (.long q0), .second, .val (.long q1), .second, .val (.long q2), .second, .val (.long q3), .second, .val (.int p4), .val (.long v51), .second, .val (.long v53), .second, .val (.long v104), .second, .val (.ref b105), .val (.int r127), .unset] [(.int (1 : Int32))])) _
        refine XS.istore X124.here hx rfl (hb hby at_86) rfl (l' := #[.val (.long q0), .second, .val (.long q1), .second, .val (.long q2), .second, .val (.long q3), .second, .val (.int p4), .val (.long v51), .second, .val (.long v53), .second, .val (.long v104), .second, .val (.ref b105), .val (.int r127), .val (.int (1 : Int32))]) rfl ?_
        show Steps p.tables e below (T124.setTop (mkF m 88 #[.val (.long q0), .second, .val (.long q1), .second, .val (.long q2), .second, .val (.long q3), .second, .val (.int p4), .val (.long v51), .second, .val (.long v53), .second, .val (.long v104), .second, .val (.ref b105), .val (.int r127), .val (.int (1 : Int32))] [])) _
        refine XS.goto X124.here hx rfl (pc0 := 88) (pc' := 134) rfl (hb hby at_88) (by decide) (by decide) ?_
        show Steps p.tables e below (T124.setTop (mkF m 134 #[.val (.long q0), .second, .val (.long q1), .second, .val (.long q2), .second, .val (.long q3), .second, .val (.int p4), .val (.long v51), .second, .val (.long v53), .second, .val (.long v104), .second, .val (.ref b105), .val (.int r127), .val (.int (1 : Int32))] [])) _
        refine XS.iload X124.here hx rfl (hb hby at_134) rfl ?_
        show Steps p.tables e below (T124.setTop (mkF m 136 #[.val (.long q0), .second, .val (.long q1), .second, .val (.long q2), .second, .val (.long q3), .second, .val (.int p4), .val (.long v51), .second, .val (.long v53), .second, .val (.long v104), .second, .val (.ref b105), .val (.int r127), .val (.int (1 : Int32))] [(.int r127)])) _
        refine XS.iload X124.here hx rfl (hb hby at_136) rfl ?_
        show Steps p.tables e below (T124.setTop (mkF m 138 #[.val (.long q0), .second, .val (.long q1), .second, .val (.long q2), .second, .val (.long q3), .second, .val (.int p4), .val (.long v51), .second, .val (.long v53), .second, .val (.long v104), .second, .val (.ref b105), .val (.int r127), .val (.int (1 : Int32))] [(.int (1 : Int32)), (.int r127)])) _
        refine XS.icmpNo X124.here hx rfl (hb hby at_138) rfl (teq hc138_130).2 ?_
        show Steps p.tables e below (T124.setTop (mkF m 141 #[.val (.long q0), .second, .val (.long q1), .second, .val (.long q2), .second, .val (.long q3), .second, .val (.int p4), .val (.long v51), .second, .val (.long v53), .second, .val (.long v104), .second, .val (.ref b105), .val (.int r127), .val (.int (1 : Int32))] [])) _
        refine XS.iconst X124.here hx rfl (hb hby at_141) ?_
        show Steps p.tables e below (T124.setTop (mkF m 142 #[.val (.long q0), .second, .val (.long q1), .second, .val (.long q2), .second, .val (.long q3), .second, .val (.int p4), .val (.long v51), .second, .val (.long v53), .second, .val (.long v104), .second, .val (.ref b105), .val (.int r127), .val (.int (1 : Int32))] [(.int (1 : Int32))])) _
        refine XS.goto X124.here hx rfl (pc0 := 142) (pc' := 146) rfl (hb hby at_142) (by decide) (by decide) ?_
        show Steps p.tables e below (T124.setTop (mkF m 146 #[.val (.long q0), .second, .val (.long q1), .second, .val (.long q2), .second, .val (.long q3), .second, .val (.int p4), .val (.long v51), .second, .val (.long v53), .second, .val (.long v104), .second, .val (.ref b105), .val (.int r127), .val (.int (1 : Int32))] [(.int (1 : Int32))])) _
        exact kt
      obtain ⟨fs, hr, hrun, hended, hW1, hW2, hW3, hsame⟩ := Stand.leaveW (s := s) (vm₁ := T122.vm) X124 hS122 (Nat.le_trans (Nat.le_refl T122.heap.size) (Nat.le_of_eq (congrArg Array.size (Eq.symm (show T124.heap = T122.heap from eq124))))) (v := some (.int (1 : Int32))) (fun h => by rw [Bd.returns] at h; cases h)
      refine ⟨_, _, k131 _ (retN X124 hx (t := .boolean) Bd.returns (by simp) (hb hby at_146) hr), hrun, hended, _, _, rfl, ?_, hW1, hW2, hW3, hsame.mono (by decide) (by decide)⟩
      show Q0 Z q0 q1 q2 q3 p4 xo h0 n0 _ T124.heap _
      rw [eq124]
      exact ⟨rfl, N124⟩
    · have k132 : ∀ tg_, Steps p.tables e below (T124.setTop (mkF m 95 #[.val (.long q0), .second, .val (.long q1), .second, .val (.long q2), .second, .val (.long q3), .second, .val (.int p4), .val (.long v51), .second, .val (.long v53), .second, .val (.long v104), .second, .val (.ref b105), .val (.int r127), .unset] [(.int (lcmpW v104 (0 : Int64)))])) tg_ → Steps p.tables e below (s₁.setTop (entryFrame m #[(.long q0), (.long q1), (.long q2), (.long q3), (.int p4)] maxLocals)) tg_ := by
        intro tg_ kt
        refine k128 tg_ ?_
        refine XS.ifYes X124.here hx rfl (pc0 := 82) (pc' := 91) rfl (hb hby at_82) rfl ((if0 _ _).trans (feq (fun qq_ => hc82_129 ((show ((lcmpW v51 (9223372036854775807 : Int64)) = 0) ↔ (v51 = (9223372036854775807 : Int64)) from lw_eq v51 (9223372036854775807 : Int64)).mp qq_))).2) (by decide) (by decide) ?_
        show Steps p.tables e below (T124.setTop (mkF m 91 #[.val (.long q0), .second, .val (.long q1), .second, .val (.long q2), .second, .val (.long q3), .second, .val (.int p4), .val (.long v51), .second, .val (.long v53), .second, .val (.long v104), .second, .val (.ref b105), .val (.int r127), .unset] [])) _
        refine XS.lload X124.here hx rfl (hb hby at_91) rfl ?_
        show Steps p.tables e below (T124.setTop (mkF m 93 #[.val (.long q0), .second, .val (.long q1), .second, .val (.long q2), .second, .val (.long q3), .second, .val (.int p4), .val (.long v51), .second, .val (.long v53), .second, .val (.long v104), .second, .val (.ref b105), .val (.int r127), .unset] [(.long v104)])) _
        refine XS.lconst X124.here hx rfl (hb hby at_93) ?_
        show Steps p.tables e below (T124.setTop (mkF m 94 #[.val (.long q0), .second, .val (.long q1), .second, .val (.long q2), .second, .val (.long q3), .second, .val (.int p4), .val (.long v51), .second, .val (.long v53), .second, .val (.long v104), .second, .val (.ref b105), .val (.int r127), .unset] [(.long (0 : Int64)), (.long v104)])) _
        refine XS.lcmp X124.here hx rfl (hb hby at_94) rfl ?_
        show Steps p.tables e below (T124.setTop (mkF m 95 #[.val (.long q0), .second, .val (.long q1), .second, .val (.long q2), .second, .val (.long q3), .second, .val (.int p4), .val (.long v51), .second, .val (.long v53), .second, .val (.long v104), .second, .val (.ref b105), .val (.int r127), .unset] [(.int (lcmpW v104 (0 : Int64)))])) _
        exact kt
      by_cases hc95_133 : (0 : Int64) < v104
      · have k134 : ∀ tg_, Steps p.tables e below (T124.setTop (mkF m 107 #[.val (.long q0), .second, .val (.long q1), .second, .val (.long q2), .second, .val (.long q3), .second, .val (.int p4), .val (.long v51), .second, .val (.long v53), .second, .val (.long v104), .second, .val (.ref b105), .val (.int r127), .unset] [(.int (lcmpW v51 ((9223372036854775807 : Int64) - v104)))])) tg_ → Steps p.tables e below (s₁.setTop (entryFrame m #[(.long q0), (.long q1), (.long q2), (.long q3), (.int p4)] maxLocals)) tg_ := by
          intro tg_ kt
          refine k132 tg_ ?_
          refine XS.ifNo X124.here hx rfl (hb hby at_95) rfl ((if0 _ _).trans (tlt ((show (0 < (lcmpW v104 (0 : Int64))) ↔ ((0 : Int64) < v104) from lw_gt v104 (0 : Int64)).mpr hc95_133)).2.2.2) ?_
          show Steps p.tables e below (T124.setTop (mkF m 98 #[.val (.long q0), .second, .val (.long q1), .second, .val (.long q2), .second, .val (.long q3), .second, .val (.int p4), .val (.long v51), .second, .val (.long v53), .second, .val (.long v104), .second, .val (.ref b105), .val (.int r127), .unset] [])) _
          refine XS.lload X124.here hx rfl (hb hby at_98) rfl ?_
          show Steps p.tables e below (T124.setTop (mkF m 100 #[.val (.long q0), .second, .val (.long q1), .second, .val (.long q2), .second, .val (.long q3), .second, .val (.int p4), .val (.long v51), .second, .val (.long v53), .second, .val (.long v104), .second, .val (.ref b105), .val (.int r127), .unset] [(.long v51)])) _
          refine X124.ldc2Long hx hown (mvT hZ (hw _ (List.mem_of_getElem? (i := 0) rfl))) (g := (mkF m 100 #[.val (.long q0), .second, .val (.long q1), .second, .val (.long q2), .second, .val (.long q3), .second, .val (.int p4), .val (.long v51), .second, .val (.long v53), .second, .val (.long v104), .second, .val (.ref b105), .val (.int r127), .unset] [(.long v51)])) rfl (hb hby at_100) _ ?_
          show Steps p.tables e below (T124.setTop (mkF m 103 #[.val (.long q0), .second, .val (.long q1), .second, .val (.long q2), .second, .val (.long q3), .second, .val (.int p4), .val (.long v51), .second, .val (.long v53), .second, .val (.long v104), .second, .val (.ref b105), .val (.int r127), .unset] [(.long (9223372036854775807 : Int64)), (.long v51)])) _
          refine XS.lload X124.here hx rfl (hb hby at_103) rfl ?_
          show Steps p.tables e below (T124.setTop (mkF m 105 #[.val (.long q0), .second, .val (.long q1), .second, .val (.long q2), .second, .val (.long q3), .second, .val (.int p4), .val (.long v51), .second, .val (.long v53), .second, .val (.long v104), .second, .val (.ref b105), .val (.int r127), .unset] [(.long v104), (.long (9223372036854775807 : Int64)), (.long v51)])) _
          refine XS.lsub X124.here hx rfl (hb hby at_105) rfl ?_
          show Steps p.tables e below (T124.setTop (mkF m 106 #[.val (.long q0), .second, .val (.long q1), .second, .val (.long q2), .second, .val (.long q3), .second, .val (.int p4), .val (.long v51), .second, .val (.long v53), .second, .val (.long v104), .second, .val (.ref b105), .val (.int r127), .unset] [(.long ((9223372036854775807 : Int64) - v104)), (.long v51)])) _
          refine XS.lcmp X124.here hx rfl (hb hby at_106) rfl ?_
          show Steps p.tables e below (T124.setTop (mkF m 107 #[.val (.long q0), .second, .val (.long q1), .second, .val (.long q2), .second, .val (.long q3), .second, .val (.int p4), .val (.long v51), .second, .val (.long v53), .second, .val (.long v104), .second, .val (.ref b105), .val (.int r127), .unset] [(.int (lcmpW v51 ((9223372036854775807 : Int64) - v104)))])) _
          exact kt
        by_cases hc107_135 : ((9223372036854775807 : Int64) - v104) < v51
        · have hc138_136 : r127 = (1 : Int32) := (by rw [hr127]; exact (own_law (bal := v104) (by rw [hv51]; exact own_mx _) (by rw [hv53]; exact own_mx _)).2.1 hc82_129 hc95_133 hc107_135)
          have k137 : ∀ tg_, Steps p.tables e below (T124.setTop (mkF m 146 #[.val (.long q0), .second, .val (.long q1), .second, .val (.long q2), .second, .val (.long q3), .second, .val (.int p4), .val (.long v51), .second, .val (.long v53), .second, .val (.long v104), .second, .val (.ref b105), .val (.int r127), .val (.int (1 : Int32))] [(.int (1 : Int32))])) tg_ → Steps p.tables e below (s₁.setTop (entryFrame m #[(.long q0), (.long q1), (.long q2), (.long q3), (.int p4)] maxLocals)) tg_ := by
            intro tg_ kt
            refine k134 tg_ ?_
            refine XS.ifNo X124.here hx rfl (hb hby at_107) rfl ((if0 _ _).trans (tlt ((show (0 < (lcmpW v51 ((9223372036854775807 : Int64) - v104))) ↔ (((9223372036854775807 : Int64) - v104) < v51) from lw_gt v51 ((9223372036854775807 : Int64) - v104)).mpr hc107_135)).2.2.2) ?_
            show Steps p.tables e below (T124.setTop (mkF m 110 #[.val (.long q0), .second, .val (.long q1), .second, .val (.long q2), .second, .val (.long q3), .second, .val (.int p4), .val (.long v51), .second, .val (.long v53), .second, .val (.long v104), .second, .val (.ref b105), .val (.int r127), .unset] [])) _
            refine XS.iconst X124.here hx rfl (hb hby at_110) ?_
            show Steps p.tables e below (T124.setTop (mkF m 111 #[.val (.long q0), .second, .val (.long q1), .second, .val (.long q2), .second, .val (.long q3), .second, .val (.int p4), .val (.long v51), .second, .val (.long v53), .second, .val (.long v104), .second, .val (.ref b105), .val (.int r127), .unset] [(.int (1 : Int32))])) _
            refine XS.istore X124.here hx rfl (hb hby at_111) rfl (l' := #[.val (.long q0), .second, .val (.long q1), .second, .val (.long q2), .second, .val (.long q3), .second, .val (.int p4), .val (.long v51), .second, .val (.long v53), .second, .val (.long v104), .second, .val (.ref b105), .val (.int r127), .val (.int (1 : Int32))]) rfl ?_
            show Steps p.tables e below (T124.setTop (mkF m 113 #[.val (.long q0), .second, .val (.long q1), .second, .val (.long q2), .second, .val (.long q3), .second, .val (.int p4), .val (.long v51), .second, .val (.long v53), .second, .val (.long v104), .second, .val (.ref b105), .val (.int r127), .val (.int (1 : Int32))] [])) _
            refine XS.goto X124.here hx rfl (pc0 := 113) (pc' := 134) rfl (hb hby at_113) (by decide) (by decide) ?_
            show Steps p.tables e below (T124.setTop (mkF m 134 #[.val (.long q0), .second, .val (.long q1), .second, .val (.long q2), .second, .val (.long q3), .second, .val (.int p4), .val (.long v51), .second, .val (.long v53), .second, .val (.long v104), .second, .val (.ref b105), .val (.int r127), .val (.int (1 : Int32))] [])) _
            refine XS.iload X124.here hx rfl (hb hby at_134) rfl ?_
            show Steps p.tables e below (T124.setTop (mkF m 136 #[.val (.long q0), .second, .val (.long q1), .second, .val (.long q2), .second, .val (.long q3), .second, .val (.int p4), .val (.long v51), .second, .val (.long v53), .second, .val (.long v104), .second, .val (.ref b105), .val (.int r127), .val (.int (1 : Int32))] [(.int r127)])) _
            refine XS.iload X124.here hx rfl (hb hby at_136) rfl ?_
            show Steps p.tables e below (T124.setTop (mkF m 138 #[.val (.long q0), .second, .val (.long q1), .second, .val (.long q2), .second, .val (.long q3), .second, .val (.int p4), .val (.long v51), .second, .val (.long v53), .second, .val (.long v104), .second, .val (.ref b105), .val (.int r127), .val (.int (1 : Int32))] [(.int (1 : Int32)), (.int r127)])) _
            refine XS.icmpNo X124.here hx rfl (hb hby at_138) rfl (teq hc138_136).2 ?_
            show Steps p.tables e below (T124.setTop (mkF m 141 #[.val (.long q0), .second, .val (.long q1), .second, .val (.long q2), .second, .val (.long q3), .second, .val (.int p4), .val (.long v51), .second, .val (.long v53), .second, .val (.long v104), .second, .val (.ref b105), .val (.int r127), .val (.int (1 : Int32))] [])) _
            refine XS.iconst X124.here hx rfl (hb hby at_141) ?_
            show Steps p.tables e below (T124.setTop (mkF m 142 #[.val (.long q0), .second, .val (.long q1), .second, .val (.long q2), .second, .val (.long q3), .second, .val (.int p4), .val (.long v51), .second, .val (.long v53), .second, .val (.long v104), .second, .val (.ref b105), .val (.int r127), .val (.int (1 : Int32))] [(.int (1 : Int32))])) _
            refine XS.goto X124.here hx rfl (pc0 := 142) (pc' := 146) rfl (hb hby at_142) (by decide) (by decide) ?_
            show Steps p.tables e below (T124.setTop (mkF m 146 #[.val (.long q0), .second, .val (.long q1), .second, .val (.long q2), .second, .val (.long q3), .second, .val (.int p4), .val (.long v51), .second, .val (.long v53), .second, .val (.long v104), .second, .val (.ref b105), .val (.int r127), .val (.int (1 : Int32))] [(.int (1 : Int32))])) _
            exact kt
          obtain ⟨fs, hr, hrun, hended, hW1, hW2, hW3, hsame⟩ := Stand.leaveW (s := s) (vm₁ := T122.vm) X124 hS122 (Nat.le_trans (Nat.le_refl T122.heap.size) (Nat.le_of_eq (congrArg Array.size (Eq.symm (show T124.heap = T122.heap from eq124))))) (v := some (.int (1 : Int32))) (fun h => by rw [Bd.returns] at h; cases h)
          refine ⟨_, _, k137 _ (retN X124 hx (t := .boolean) Bd.returns (by simp) (hb hby at_146) hr), hrun, hended, _, _, rfl, ?_, hW1, hW2, hW3, hsame.mono (by decide) (by decide)⟩
          show Q0 Z q0 q1 q2 q3 p4 xo h0 n0 _ T124.heap _
          rw [eq124]
          exact ⟨rfl, N124⟩
        · have k138 : ∀ tg_, Steps p.tables e below (T124.setTop (mkF m 124 #[.val (.long q0), .second, .val (.long q1), .second, .val (.long q2), .second, .val (.long q3), .second, .val (.int p4), .val (.long v51), .second, .val (.long v53), .second, .val (.long v104), .second, .val (.ref b105), .val (.int r127), .unset] [(.int (lcmpW (v104 + v51) v53))])) tg_ → Steps p.tables e below (s₁.setTop (entryFrame m #[(.long q0), (.long q1), (.long q2), (.long q3), (.int p4)] maxLocals)) tg_ := by
            intro tg_ kt
            refine k134 tg_ ?_
            refine XS.ifYes X124.here hx rfl (pc0 := 107) (pc' := 116) rfl (hb hby at_107) rfl ((if0 _ _).trans (flt (fun qq_ => hc107_135 ((show (0 < (lcmpW v51 ((9223372036854775807 : Int64) - v104))) ↔ (((9223372036854775807 : Int64) - v104) < v51) from lw_gt v51 ((9223372036854775807 : Int64) - v104)).mp qq_))).2.2.2) (by decide) (by decide) ?_
            show Steps p.tables e below (T124.setTop (mkF m 116 #[.val (.long q0), .second, .val (.long q1), .second, .val (.long q2), .second, .val (.long q3), .second, .val (.int p4), .val (.long v51), .second, .val (.long v53), .second, .val (.long v104), .second, .val (.ref b105), .val (.int r127), .unset] [])) _
            refine XS.lload X124.here hx rfl (hb hby at_116) rfl ?_
            show Steps p.tables e below (T124.setTop (mkF m 118 #[.val (.long q0), .second, .val (.long q1), .second, .val (.long q2), .second, .val (.long q3), .second, .val (.int p4), .val (.long v51), .second, .val (.long v53), .second, .val (.long v104), .second, .val (.ref b105), .val (.int r127), .unset] [(.long v104)])) _
            refine XS.lload X124.here hx rfl (hb hby at_118) rfl ?_
            show Steps p.tables e below (T124.setTop (mkF m 120 #[.val (.long q0), .second, .val (.long q1), .second, .val (.long q2), .second, .val (.long q3), .second, .val (.int p4), .val (.long v51), .second, .val (.long v53), .second, .val (.long v104), .second, .val (.ref b105), .val (.int r127), .unset] [(.long v51), (.long v104)])) _
            refine XS.ladd X124.here hx rfl (hb hby at_120) rfl ?_
            show Steps p.tables e below (T124.setTop (mkF m 121 #[.val (.long q0), .second, .val (.long q1), .second, .val (.long q2), .second, .val (.long q3), .second, .val (.int p4), .val (.long v51), .second, .val (.long v53), .second, .val (.long v104), .second, .val (.ref b105), .val (.int r127), .unset] [(.long (v104 + v51))])) _
            refine XS.lload X124.here hx rfl (hb hby at_121) rfl ?_
            show Steps p.tables e below (T124.setTop (mkF m 123 #[.val (.long q0), .second, .val (.long q1), .second, .val (.long q2), .second, .val (.long q3), .second, .val (.int p4), .val (.long v51), .second, .val (.long v53), .second, .val (.long v104), .second, .val (.ref b105), .val (.int r127), .unset] [(.long v53), (.long (v104 + v51))])) _
            refine XS.lcmp X124.here hx rfl (hb hby at_123) rfl ?_
            show Steps p.tables e below (T124.setTop (mkF m 124 #[.val (.long q0), .second, .val (.long q1), .second, .val (.long q2), .second, .val (.long q3), .second, .val (.int p4), .val (.long v51), .second, .val (.long v53), .second, .val (.long v104), .second, .val (.ref b105), .val (.int r127), .unset] [(.int (lcmpW (v104 + v51) v53))])) _
            exact kt
          by_cases hc124_139 : (v104 + v51) < v53
          · have hc138_140 : r127 = (0 : Int32) := (by rw [hr127]; exact ((own_law (bal := v104) (by rw [hv51]; exact own_mx _) (by rw [hv53]; exact own_mx _)).2.2 hc82_129 (Or.inr hc107_135)).1 hc124_139)
            have k141 : ∀ tg_, Steps p.tables e below (T124.setTop (mkF m 146 #[.val (.long q0), .second, .val (.long q1), .second, .val (.long q2), .second, .val (.long q3), .second, .val (.int p4), .val (.long v51), .second, .val (.long v53), .second, .val (.long v104), .second, .val (.ref b105), .val (.int r127), .val (.int (0 : Int32))] [(.int (1 : Int32))])) tg_ → Steps p.tables e below (s₁.setTop (entryFrame m #[(.long q0), (.long q1), (.long q2), (.long q3), (.int p4)] maxLocals)) tg_ := by
              intro tg_ kt
              refine k138 tg_ ?_
              refine XS.ifYes X124.here hx rfl (pc0 := 124) (pc' := 131) rfl (hb hby at_124) rfl ((if0 _ _).trans (tlt ((show ((lcmpW (v104 + v51) v53) < 0) ↔ ((v104 + v51) < v53) from lw_lt (v104 + v51) v53).mpr hc124_139)).1) (by decide) (by decide) ?_
              show Steps p.tables e below (T124.setTop (mkF m 131 #[.val (.long q0), .second, .val (.long q1), .second, .val (.long q2), .second, .val (.long q3), .second, .val (.int p4), .val (.long v51), .second, .val (.long v53), .second, .val (.long v104), .second, .val (.ref b105), .val (.int r127), .unset] [])) _
              refine XS.iconst X124.here hx rfl (hb hby at_131) ?_
              show Steps p.tables e below (T124.setTop (mkF m 132 #[.val (.long q0), .second, .val (.long q1), .second, .val (.long q2), .second, .val (.long q3), .second, .val (.int p4), .val (.long v51), .second, .val (.long v53), .second, .val (.long v104), .second, .val (.ref b105), .val (.int r127), .unset] [(.int (0 : Int32))])) _
              refine XS.istore X124.here hx rfl (hb hby at_132) rfl (l' := #[.val (.long q0), .second, .val (.long q1), .second, .val (.long q2), .second, .val (.long q3), .second, .val (.int p4), .val (.long v51), .second, .val (.long v53), .second, .val (.long v104), .second, .val (.ref b105), .val (.int r127), .val (.int (0 : Int32))]) rfl ?_
              show Steps p.tables e below (T124.setTop (mkF m 134 #[.val (.long q0), .second, .val (.long q1), .second, .val (.long q2), .second, .val (.long q3), .second, .val (.int p4), .val (.long v51), .second, .val (.long v53), .second, .val (.long v104), .second, .val (.ref b105), .val (.int r127), .val (.int (0 : Int32))] [])) _
              refine XS.iload X124.here hx rfl (hb hby at_134) rfl ?_
              show Steps p.tables e below (T124.setTop (mkF m 136 #[.val (.long q0), .second, .val (.long q1), .second, .val (.long q2), .second, .val (.long q3), .second, .val (.int p4), .val (.long v51), .second, .val (.long v53), .second, .val (.long v104), .second, .val (.ref b105), .val (.int r127), .val (.int (0 : Int32))] [(.int r127)])) _
              refine XS.iload X124.here hx rfl (hb hby at_136) rfl ?_
              show Steps p.tables e below (T124.setTop (mkF m 138 #[.val (.long q0), .second, .val (.long q1), .second, .val (.long q2), .second, .val (.long q3), .second, .val (.int p4), .val (.long v51), .second, .val (.long v53), .second, .val (.long v104), .second, .val (.ref b105), .val (.int r127), .val (.int (0 : Int32))] [(.int (0 : Int32)), (.int r127)])) _
              refine XS.icmpNo X124.here hx rfl (hb hby at_138) rfl (teq hc138_140).2 ?_
              show Steps p.tables e below (T124.setTop (mkF m 141 #[.val (.long q0), .second, .val (.long q1), .second, .val (.long q2), .second, .val (.long q3), .second, .val (.int p4), .val (.long v51), .second, .val (.long v53), .second, .val (.long v104), .second, .val (.ref b105), .val (.int r127), .val (.int (0 : Int32))] [])) _
              refine XS.iconst X124.here hx rfl (hb hby at_141) ?_
              show Steps p.tables e below (T124.setTop (mkF m 142 #[.val (.long q0), .second, .val (.long q1), .second, .val (.long q2), .second, .val (.long q3), .second, .val (.int p4), .val (.long v51), .second, .val (.long v53), .second, .val (.long v104), .second, .val (.ref b105), .val (.int r127), .val (.int (0 : Int32))] [(.int (1 : Int32))])) _
              refine XS.goto X124.here hx rfl (pc0 := 142) (pc' := 146) rfl (hb hby at_142) (by decide) (by decide) ?_
              show Steps p.tables e below (T124.setTop (mkF m 146 #[.val (.long q0), .second, .val (.long q1), .second, .val (.long q2), .second, .val (.long q3), .second, .val (.int p4), .val (.long v51), .second, .val (.long v53), .second, .val (.long v104), .second, .val (.ref b105), .val (.int r127), .val (.int (0 : Int32))] [(.int (1 : Int32))])) _
              exact kt
            obtain ⟨fs, hr, hrun, hended, hW1, hW2, hW3, hsame⟩ := Stand.leaveW (s := s) (vm₁ := T122.vm) X124 hS122 (Nat.le_trans (Nat.le_refl T122.heap.size) (Nat.le_of_eq (congrArg Array.size (Eq.symm (show T124.heap = T122.heap from eq124))))) (v := some (.int (1 : Int32))) (fun h => by rw [Bd.returns] at h; cases h)
            refine ⟨_, _, k141 _ (retN X124 hx (t := .boolean) Bd.returns (by simp) (hb hby at_146) hr), hrun, hended, _, _, rfl, ?_, hW1, hW2, hW3, hsame.mono (by decide) (by decide)⟩
            show Q0 Z q0 q1 q2 q3 p4 xo h0 n0 _ T124.heap _
            rw [eq124]
            exact ⟨rfl, N124⟩
          · have hc138_142 : r127 = (1 : Int32) := (by rw [hr127]; exact ((own_law (bal := v104) (by rw [hv51]; exact own_mx _) (by rw [hv53]; exact own_mx _)).2.2 hc82_129 (Or.inr hc107_135)).2 hc124_139)
            have k143 : ∀ tg_, Steps p.tables e below (T124.setTop (mkF m 146 #[.val (.long q0), .second, .val (.long q1), .second, .val (.long q2), .second, .val (.long q3), .second, .val (.int p4), .val (.long v51), .second, .val (.long v53), .second, .val (.long v104), .second, .val (.ref b105), .val (.int r127), .val (.int (1 : Int32))] [(.int (1 : Int32))])) tg_ → Steps p.tables e below (s₁.setTop (entryFrame m #[(.long q0), (.long q1), (.long q2), (.long q3), (.int p4)] maxLocals)) tg_ := by
              intro tg_ kt
              refine k138 tg_ ?_
              refine XS.ifNo X124.here hx rfl (hb hby at_124) rfl ((if0 _ _).trans (flt (fun qq_ => hc124_139 ((show ((lcmpW (v104 + v51) v53) < 0) ↔ ((v104 + v51) < v53) from lw_lt (v104 + v51) v53).mp qq_))).1) ?_
              show Steps p.tables e below (T124.setTop (mkF m 127 #[.val (.long q0), .second, .val (.long q1), .second, .val (.long q2), .second, .val (.long q3), .second, .val (.int p4), .val (.long v51), .second, .val (.long v53), .second, .val (.long v104), .second, .val (.ref b105), .val (.int r127), .unset] [])) _
              refine XS.iconst X124.here hx rfl (hb hby at_127) ?_
              show Steps p.tables e below (T124.setTop (mkF m 128 #[.val (.long q0), .second, .val (.long q1), .second, .val (.long q2), .second, .val (.long q3), .second, .val (.int p4), .val (.long v51), .second, .val (.long v53), .second, .val (.long v104), .second, .val (.ref b105), .val (.int r127), .unset] [(.int (1 : Int32))])) _
              refine XS.goto X124.here hx rfl (pc0 := 128) (pc' := 132) rfl (hb hby at_128) (by decide) (by decide) ?_
              show Steps p.tables e below (T124.setTop (mkF m 132 #[.val (.long q0), .second, .val (.long q1), .second, .val (.long q2), .second, .val (.long q3), .second, .val (.int p4), .val (.long v51), .second, .val (.long v53), .second, .val (.long v104), .second, .val (.ref b105), .val (.int r127), .unset] [(.int (1 : Int32))])) _
              refine XS.istore X124.here hx rfl (hb hby at_132) rfl (l' := #[.val (.long q0), .second, .val (.long q1), .second, .val (.long q2), .second, .val (.long q3), .second, .val (.int p4), .val (.long v51), .second, .val (.long v53), .second, .val (.long v104), .second, .val (.ref b105), .val (.int r127), .val (.int (1 : Int32))]) rfl ?_
              show Steps p.tables e below (T124.setTop (mkF m 134 #[.val (.long q0), .second, .val (.long q1), .second, .val (.long q2), .second, .val (.long q3), .second, .val (.int p4), .val (.long v51), .second, .val (.long v53), .second, .val (.long v104), .second, .val (.ref b105), .val (.int r127), .val (.int (1 : Int32))] [])) _
              refine XS.iload X124.here hx rfl (hb hby at_134) rfl ?_
              show Steps p.tables e below (T124.setTop (mkF m 136 #[.val (.long q0), .second, .val (.long q1), .second, .val (.long q2), .second, .val (.long q3), .second, .val (.int p4), .val (.long v51), .second, .val (.long v53), .second, .val (.long v104), .second, .val (.ref b105), .val (.int r127), .val (.int (1 : Int32))] [(.int r127)])) _
              refine XS.iload X124.here hx rfl (hb hby at_136) rfl ?_
              show Steps p.tables e below (T124.setTop (mkF m 138 #[.val (.long q0), .second, .val (.long q1), .second, .val (.long q2), .second, .val (.long q3), .second, .val (.int p4), .val (.long v51), .second, .val (.long v53), .second, .val (.long v104), .second, .val (.ref b105), .val (.int r127), .val (.int (1 : Int32))] [(.int (1 : Int32)), (.int r127)])) _
              refine XS.icmpNo X124.here hx rfl (hb hby at_138) rfl (teq hc138_142).2 ?_
              show Steps p.tables e below (T124.setTop (mkF m 141 #[.val (.long q0), .second, .val (.long q1), .second, .val (.long q2), .second, .val (.long q3), .second, .val (.int p4), .val (.long v51), .second, .val (.long v53), .second, .val (.long v104), .second, .val (.ref b105), .val (.int r127), .val (.int (1 : Int32))] [])) _
              refine XS.iconst X124.here hx rfl (hb hby at_141) ?_
              show Steps p.tables e below (T124.setTop (mkF m 142 #[.val (.long q0), .second, .val (.long q1), .second, .val (.long q2), .second, .val (.long q3), .second, .val (.int p4), .val (.long v51), .second, .val (.long v53), .second, .val (.long v104), .second, .val (.ref b105), .val (.int r127), .val (.int (1 : Int32))] [(.int (1 : Int32))])) _
              refine XS.goto X124.here hx rfl (pc0 := 142) (pc' := 146) rfl (hb hby at_142) (by decide) (by decide) ?_
              show Steps p.tables e below (T124.setTop (mkF m 146 #[.val (.long q0), .second, .val (.long q1), .second, .val (.long q2), .second, .val (.long q3), .second, .val (.int p4), .val (.long v51), .second, .val (.long v53), .second, .val (.long v104), .second, .val (.ref b105), .val (.int r127), .val (.int (1 : Int32))] [(.int (1 : Int32))])) _
              exact kt
            obtain ⟨fs, hr, hrun, hended, hW1, hW2, hW3, hsame⟩ := Stand.leaveW (s := s) (vm₁ := T122.vm) X124 hS122 (Nat.le_trans (Nat.le_refl T122.heap.size) (Nat.le_of_eq (congrArg Array.size (Eq.symm (show T124.heap = T122.heap from eq124))))) (v := some (.int (1 : Int32))) (fun h => by rw [Bd.returns] at h; cases h)
            refine ⟨_, _, k143 _ (retN X124 hx (t := .boolean) Bd.returns (by simp) (hb hby at_146) hr), hrun, hended, _, _, rfl, ?_, hW1, hW2, hW3, hsame.mono (by decide) (by decide)⟩
            show Q0 Z q0 q1 q2 q3 p4 xo h0 n0 _ T124.heap _
            rw [eq124]
            exact ⟨rfl, N124⟩
      · have k144 : ∀ tg_, Steps p.tables e below (T124.setTop (mkF m 124 #[.val (.long q0), .second, .val (.long q1), .second, .val (.long q2), .second, .val (.long q3), .second, .val (.int p4), .val (.long v51), .second, .val (.long v53), .second, .val (.long v104), .second, .val (.ref b105), .val (.int r127), .unset] [(.int (lcmpW (v104 + v51) v53))])) tg_ → Steps p.tables e below (s₁.setTop (entryFrame m #[(.long q0), (.long q1), (.long q2), (.long q3), (.int p4)] maxLocals)) tg_ := by
          intro tg_ kt
          refine k132 tg_ ?_
          refine XS.ifYes X124.here hx rfl (pc0 := 95) (pc' := 116) rfl (hb hby at_95) rfl ((if0 _ _).trans (flt (fun qq_ => hc95_133 ((show (0 < (lcmpW v104 (0 : Int64))) ↔ ((0 : Int64) < v104) from lw_gt v104 (0 : Int64)).mp qq_))).2.2.2) (by decide) (by decide) ?_
          show Steps p.tables e below (T124.setTop (mkF m 116 #[.val (.long q0), .second, .val (.long q1), .second, .val (.long q2), .second, .val (.long q3), .second, .val (.int p4), .val (.long v51), .second, .val (.long v53), .second, .val (.long v104), .second, .val (.ref b105), .val (.int r127), .unset] [])) _
          refine XS.lload X124.here hx rfl (hb hby at_116) rfl ?_
          show Steps p.tables e below (T124.setTop (mkF m 118 #[.val (.long q0), .second, .val (.long q1), .second, .val (.long q2), .second, .val (.long q3), .second, .val (.int p4), .val (.long v51), .second, .val (.long v53), .second, .val (.long v104), .second, .val (.ref b105), .val (.int r127), .unset] [(.long v104)])) _
          refine XS.lload X124.here hx rfl (hb hby at_118) rfl ?_
          show Steps p.tables e below (T124.setTop (mkF m 120 #[.val (.long q0), .second, .val (.long q1), .second, .val (.long q2), .second, .val (.long q3), .second, .val (.int p4), .val (.long v51), .second, .val (.long v53), .second, .val (.long v104), .second, .val (.ref b105), .val (.int r127), .unset] [(.long v51), (.long v104)])) _
          refine XS.ladd X124.here hx rfl (hb hby at_120) rfl ?_
          show Steps p.tables e below (T124.setTop (mkF m 121 #[.val (.long q0), .second, .val (.long q1), .second, .val (.long q2), .second, .val (.long q3), .second, .val (.int p4), .val (.long v51), .second, .val (.long v53), .second, .val (.long v104), .second, .val (.ref b105), .val (.int r127), .unset] [(.long (v104 + v51))])) _
          refine XS.lload X124.here hx rfl (hb hby at_121) rfl ?_
          show Steps p.tables e below (T124.setTop (mkF m 123 #[.val (.long q0), .second, .val (.long q1), .second, .val (.long q2), .second, .val (.long q3), .second, .val (.int p4), .val (.long v51), .second, .val (.long v53), .second, .val (.long v104), .second, .val (.ref b105), .val (.int r127), .unset] [(.long v53), (.long (v104 + v51))])) _
          refine XS.lcmp X124.here hx rfl (hb hby at_123) rfl ?_
          show Steps p.tables e below (T124.setTop (mkF m 124 #[.val (.long q0), .second, .val (.long q1), .second, .val (.long q2), .second, .val (.long q3), .second, .val (.int p4), .val (.long v51), .second, .val (.long v53), .second, .val (.long v104), .second, .val (.ref b105), .val (.int r127), .unset] [(.int (lcmpW (v104 + v51) v53))])) _
          exact kt
        by_cases hc124_145 : (v104 + v51) < v53
        · have hc138_146 : r127 = (0 : Int32) := (by rw [hr127]; exact ((own_law (bal := v104) (by rw [hv51]; exact own_mx _) (by rw [hv53]; exact own_mx _)).2.2 hc82_129 (Or.inl hc95_133)).1 hc124_145)
          have k147 : ∀ tg_, Steps p.tables e below (T124.setTop (mkF m 146 #[.val (.long q0), .second, .val (.long q1), .second, .val (.long q2), .second, .val (.long q3), .second, .val (.int p4), .val (.long v51), .second, .val (.long v53), .second, .val (.long v104), .second, .val (.ref b105), .val (.int r127), .val (.int (0 : Int32))] [(.int (1 : Int32))])) tg_ → Steps p.tables e below (s₁.setTop (entryFrame m #[(.long q0), (.long q1), (.long q2), (.long q3), (.int p4)] maxLocals)) tg_ := by
            intro tg_ kt
            refine k144 tg_ ?_
            refine XS.ifYes X124.here hx rfl (pc0 := 124) (pc' := 131) rfl (hb hby at_124) rfl ((if0 _ _).trans (tlt ((show ((lcmpW (v104 + v51) v53) < 0) ↔ ((v104 + v51) < v53) from lw_lt (v104 + v51) v53).mpr hc124_145)).1) (by decide) (by decide) ?_
            show Steps p.tables e below (T124.setTop (mkF m 131 #[.val (.long q0), .second, .val (.long q1), .second, .val (.long q2), .second, .val (.long q3), .second, .val (.int p4), .val (.long v51), .second, .val (.long v53), .second, .val (.long v104), .second, .val (.ref b105), .val (.int r127), .unset] [])) _
            refine XS.iconst X124.here hx rfl (hb hby at_131) ?_
            show Steps p.tables e below (T124.setTop (mkF m 132 #[.val (.long q0), .second, .val (.long q1), .second, .val (.long q2), .second, .val (.long q3), .second, .val (.int p4), .val (.long v51), .second, .val (.long v53), .second, .val (.long v104), .second, .val (.ref b105), .val (.int r127), .unset] [(.int (0 : Int32))])) _
            refine XS.istore X124.here hx rfl (hb hby at_132) rfl (l' := #[.val (.long q0), .second, .val (.long q1), .second, .val (.long q2), .second, .val (.long q3), .second, .val (.int p4), .val (.long v51), .second, .val (.long v53), .second, .val (.long v104), .second, .val (.ref b105), .val (.int r127), .val (.int (0 : Int32))]) rfl ?_
            show Steps p.tables e below (T124.setTop (mkF m 134 #[.val (.long q0), .second, .val (.long q1), .second, .val (.long q2), .second, .val (.long q3), .second, .val (.int p4), .val (.long v51), .second, .val (.long v53), .second, .val (.long v104), .second, .val (.ref b105), .val (.int r127), .val (.int (0 : Int32))] [])) _
            refine XS.iload X124.here hx rfl (hb hby at_134) rfl ?_
            show Steps p.tables e below (T124.setTop (mkF m 136 #[.val (.long q0), .second, .val (.long q1), .second, .val (.long q2), .second, .val (.long q3), .second, .val (.int p4), .val (.long v51), .second, .val (.long v53), .second, .val (.long v104), .second, .val (.ref b105), .val (.int r127), .val (.int (0 : Int32))] [(.int r127)])) _
            refine XS.iload X124.here hx rfl (hb hby at_136) rfl ?_
            show Steps p.tables e below (T124.setTop (mkF m 138 #[.val (.long q0), .second, .val (.long q1), .second, .val (.long q2), .second, .val (.long q3), .second, .val (.int p4), .val (.long v51), .second, .val (.long v53), .second, .val (.long v104), .second, .val (.ref b105), .val (.int r127), .val (.int (0 : Int32))] [(.int (0 : Int32)), (.int r127)])) _
            refine XS.icmpNo X124.here hx rfl (hb hby at_138) rfl (teq hc138_146).2 ?_
            show Steps p.tables e below (T124.setTop (mkF m 141 #[.val (.long q0), .second, .val (.long q1), .second, .val (.long q2), .second, .val (.long q3), .second, .val (.int p4), .val (.long v51), .second, .val (.long v53), .second, .val (.long v104), .second, .val (.ref b105), .val (.int r127), .val (.int (0 : Int32))] [])) _
            refine XS.iconst X124.here hx rfl (hb hby at_141) ?_
            show Steps p.tables e below (T124.setTop (mkF m 142 #[.val (.long q0), .second, .val (.long q1), .second, .val (.long q2), .second, .val (.long q3), .second, .val (.int p4), .val (.long v51), .second, .val (.long v53), .second, .val (.long v104), .second, .val (.ref b105), .val (.int r127), .val (.int (0 : Int32))] [(.int (1 : Int32))])) _
            refine XS.goto X124.here hx rfl (pc0 := 142) (pc' := 146) rfl (hb hby at_142) (by decide) (by decide) ?_
            show Steps p.tables e below (T124.setTop (mkF m 146 #[.val (.long q0), .second, .val (.long q1), .second, .val (.long q2), .second, .val (.long q3), .second, .val (.int p4), .val (.long v51), .second, .val (.long v53), .second, .val (.long v104), .second, .val (.ref b105), .val (.int r127), .val (.int (0 : Int32))] [(.int (1 : Int32))])) _
            exact kt
          obtain ⟨fs, hr, hrun, hended, hW1, hW2, hW3, hsame⟩ := Stand.leaveW (s := s) (vm₁ := T122.vm) X124 hS122 (Nat.le_trans (Nat.le_refl T122.heap.size) (Nat.le_of_eq (congrArg Array.size (Eq.symm (show T124.heap = T122.heap from eq124))))) (v := some (.int (1 : Int32))) (fun h => by rw [Bd.returns] at h; cases h)
          refine ⟨_, _, k147 _ (retN X124 hx (t := .boolean) Bd.returns (by simp) (hb hby at_146) hr), hrun, hended, _, _, rfl, ?_, hW1, hW2, hW3, hsame.mono (by decide) (by decide)⟩
          show Q0 Z q0 q1 q2 q3 p4 xo h0 n0 _ T124.heap _
          rw [eq124]
          exact ⟨rfl, N124⟩
        · have hc138_148 : r127 = (1 : Int32) := (by rw [hr127]; exact ((own_law (bal := v104) (by rw [hv51]; exact own_mx _) (by rw [hv53]; exact own_mx _)).2.2 hc82_129 (Or.inl hc95_133)).2 hc124_145)
          have k149 : ∀ tg_, Steps p.tables e below (T124.setTop (mkF m 146 #[.val (.long q0), .second, .val (.long q1), .second, .val (.long q2), .second, .val (.long q3), .second, .val (.int p4), .val (.long v51), .second, .val (.long v53), .second, .val (.long v104), .second, .val (.ref b105), .val (.int r127), .val (.int (1 : Int32))] [(.int (1 : Int32))])) tg_ → Steps p.tables e below (s₁.setTop (entryFrame m #[(.long q0), (.long q1), (.long q2), (.long q3), (.int p4)] maxLocals)) tg_ := by
            intro tg_ kt
            refine k144 tg_ ?_
            refine XS.ifNo X124.here hx rfl (hb hby at_124) rfl ((if0 _ _).trans (flt (fun qq_ => hc124_145 ((show ((lcmpW (v104 + v51) v53) < 0) ↔ ((v104 + v51) < v53) from lw_lt (v104 + v51) v53).mp qq_))).1) ?_
            show Steps p.tables e below (T124.setTop (mkF m 127 #[.val (.long q0), .second, .val (.long q1), .second, .val (.long q2), .second, .val (.long q3), .second, .val (.int p4), .val (.long v51), .second, .val (.long v53), .second, .val (.long v104), .second, .val (.ref b105), .val (.int r127), .unset] [])) _
            refine XS.iconst X124.here hx rfl (hb hby at_127) ?_
            show Steps p.tables e below (T124.setTop (mkF m 128 #[.val (.long q0), .second, .val (.long q1), .second, .val (.long q2), .second, .val (.long q3), .second, .val (.int p4), .val (.long v51), .second, .val (.long v53), .second, .val (.long v104), .second, .val (.ref b105), .val (.int r127), .unset] [(.int (1 : Int32))])) _
            refine XS.goto X124.here hx rfl (pc0 := 128) (pc' := 132) rfl (hb hby at_128) (by decide) (by decide) ?_
            show Steps p.tables e below (T124.setTop (mkF m 132 #[.val (.long q0), .second, .val (.long q1), .second, .val (.long q2), .second, .val (.long q3), .second, .val (.int p4), .val (.long v51), .second, .val (.long v53), .second, .val (.long v104), .second, .val (.ref b105), .val (.int r127), .unset] [(.int (1 : Int32))])) _
            refine XS.istore X124.here hx rfl (hb hby at_132) rfl (l' := #[.val (.long q0), .second, .val (.long q1), .second, .val (.long q2), .second, .val (.long q3), .second, .val (.int p4), .val (.long v51), .second, .val (.long v53), .second, .val (.long v104), .second, .val (.ref b105), .val (.int r127), .val (.int (1 : Int32))]) rfl ?_
            show Steps p.tables e below (T124.setTop (mkF m 134 #[.val (.long q0), .second, .val (.long q1), .second, .val (.long q2), .second, .val (.long q3), .second, .val (.int p4), .val (.long v51), .second, .val (.long v53), .second, .val (.long v104), .second, .val (.ref b105), .val (.int r127), .val (.int (1 : Int32))] [])) _
            refine XS.iload X124.here hx rfl (hb hby at_134) rfl ?_
            show Steps p.tables e below (T124.setTop (mkF m 136 #[.val (.long q0), .second, .val (.long q1), .second, .val (.long q2), .second, .val (.long q3), .second, .val (.int p4), .val (.long v51), .second, .val (.long v53), .second, .val (.long v104), .second, .val (.ref b105), .val (.int r127), .val (.int (1 : Int32))] [(.int r127)])) _
            refine XS.iload X124.here hx rfl (hb hby at_136) rfl ?_
            show Steps p.tables e below (T124.setTop (mkF m 138 #[.val (.long q0), .second, .val (.long q1), .second, .val (.long q2), .second, .val (.long q3), .second, .val (.int p4), .val (.long v51), .second, .val (.long v53), .second, .val (.long v104), .second, .val (.ref b105), .val (.int r127), .val (.int (1 : Int32))] [(.int (1 : Int32)), (.int r127)])) _
            refine XS.icmpNo X124.here hx rfl (hb hby at_138) rfl (teq hc138_148).2 ?_
            show Steps p.tables e below (T124.setTop (mkF m 141 #[.val (.long q0), .second, .val (.long q1), .second, .val (.long q2), .second, .val (.long q3), .second, .val (.int p4), .val (.long v51), .second, .val (.long v53), .second, .val (.long v104), .second, .val (.ref b105), .val (.int r127), .val (.int (1 : Int32))] [])) _
            refine XS.iconst X124.here hx rfl (hb hby at_141) ?_
            show Steps p.tables e below (T124.setTop (mkF m 142 #[.val (.long q0), .second, .val (.long q1), .second, .val (.long q2), .second, .val (.long q3), .second, .val (.int p4), .val (.long v51), .second, .val (.long v53), .second, .val (.long v104), .second, .val (.ref b105), .val (.int r127), .val (.int (1 : Int32))] [(.int (1 : Int32))])) _
            refine XS.goto X124.here hx rfl (pc0 := 142) (pc' := 146) rfl (hb hby at_142) (by decide) (by decide) ?_
            show Steps p.tables e below (T124.setTop (mkF m 146 #[.val (.long q0), .second, .val (.long q1), .second, .val (.long q2), .second, .val (.long q3), .second, .val (.int p4), .val (.long v51), .second, .val (.long v53), .second, .val (.long v104), .second, .val (.ref b105), .val (.int r127), .val (.int (1 : Int32))] [(.int (1 : Int32))])) _
            exact kt
          obtain ⟨fs, hr, hrun, hended, hW1, hW2, hW3, hsame⟩ := Stand.leaveW (s := s) (vm₁ := T122.vm) X124 hS122 (Nat.le_trans (Nat.le_refl T122.heap.size) (Nat.le_of_eq (congrArg Array.size (Eq.symm (show T124.heap = T122.heap from eq124))))) (v := some (.int (1 : Int32))) (fun h => by rw [Bd.returns] at h; cases h)
          refine ⟨_, _, k149 _ (retN X124 hx (t := .boolean) Bd.returns (by simp) (hb hby at_146) hr), hrun, hended, _, _, rfl, ?_, hW1, hW2, hW3, hsame.mono (by decide) (by decide)⟩
          show Q0 Z q0 q1 q2 q3 p4 xo h0 n0 _ T124.heap _
          rw [eq124]
          exact ⟨rfl, N124⟩
set_option maxRecDepth 65536 in
set_option maxHeartbeats 40000000 in
theorem comes_1 {Post : Tables → Env → Array Value → State → Outcome → State → Prop} (hpost : ∀ tb e args s v u, (limb_1_1.after args s (.returned v) u = true ∧ limb_1_2.after args s (.returned v) u = true ∧ True) → ReturnedEndW s (.returned v) u (Jvm.fieldLocs frame_1_writes args s ++ Jvm.arrayLocs frame_1_arrays args s ++ Jvm.staticLocs frame_1_statics s) 16 3200 → Post tb e args s (.returned v) u) :
    ArmFor flags0 classFile x code maxLocals ret World_1 tables_1 room_1 Calls_1 rest_1 Pre_1 Post := by
  intro l hfl _ _ p e ha hc hk s m args below hf hA hF happ hP
  obtain ⟨hcalls, hrest, hpre⟩ := hP
  obtain ⟨-, -, -, hnamed, -, -, -, hat⟩ := (Spec.applies_iff hf).mp happ
  obtain ⟨hg, hn⟩ := and_e (Cond.before_iff.mp (show (Jvm.Cond.and given_1 narrow_1).before args s = true from hpre))
  have hcount := (and_e hg).1
  have hgs0 := (and_e hg).2
  have hi0 := (and_e hgs0).1
  have hgs1 := (and_e hgs0).2
  have hi1 := (and_e hgs1).1
  have hgs2 := (and_e hgs1).2
  have hi2 := (and_e hgs2).1
  have hgs3 := (and_e hgs2).2
  have hi3 := (and_e hgs3).1
  have hgs4 := (and_e hgs3).2
  have hi4 := hgs4
  obtain ⟨w0, w1, w2, w3, w4, rfl⟩ : ∃ w0 w1 w2 w3 w4 : Value, args = #[w0, w1, w2, w3, w4] := by
    have hs : args.size = 5 := by simpa [Cond.value, given_1] using hcount
    obtain ⟨L⟩ := args
    match L, hs with
    | [w0, w1, w2, w3, w4], _ => exact ⟨w0, w1, w2, w3, w4, rfl⟩
  have hw := fun d (hd : d ∈ tables_1) => atoms_spec (ws := Jvm.Cond.code x code maxLocals ret :: tables_1) hat d (List.mem_cons_of_mem _ hd)
  have hfit : Fit s := fun {y c} hc i hi => by
    obtain ⟨ha, rfl⟩ := Array.getElem?_eq_some_iff.mp hc
    have q := List.all_eq_true.mp ((Array.all_eq_true_iff_forall_mem.mp hF) _ (Array.getElem_mem ha)) i (List.mem_range.mpr hi)
    simpa [Array.getElem?_eq_getElem hi] using q
  obtain ⟨hsets, hown0⟩ := atoms_of _ (rest_1_c_eq ▸ (show rest_1_c.before _ s = true from hrest))
  have hr0 := Cond.before_iff.mp hown0
  obtain ⟨i0, ei0⟩ := isL_v hi0
  obtain rfl : w0 = (.long i0) := Option.some.inj ei0
  obtain ⟨i1, ei1⟩ := isL_v hi1
  obtain rfl : w1 = (.long i1) := Option.some.inj ei1
  obtain ⟨i2, ei2⟩ := isL_v hi2
  obtain rfl : w2 = (.long i2) := Option.some.inj ei2
  obtain ⟨i3, ei3⟩ := isL_v hi3
  obtain rfl : w3 = (.long i3) := Option.some.inj ei3
  obtain ⟨i4, ei4⟩ := is_v hi4
  obtain rfl : w4 = (.int i4) := Option.some.inj ei4
  have n2 := Cond.before_iff.mp (hsets _ (List.mem_of_getElem? (i := 2) rfl))
  obtain ⟨xo, ev⟩ := exa_v n2
  have A := Exa.start ev n2
  have B := Sta.start ev (Or.inl (hsets _ (List.mem_of_getElem? (i := 1) rfl)))
  have G := own_fldeq (Cond.before_iff.mp (hsets _ (List.mem_of_getElem? (i := 3) rfl))) ev
  obtain ⟨n, o, h1, h2, h3, _, L, rfl, ⟨rfl, N⟩, hq⟩ := rm0 l s _ hw tables_1 i0 i1 i2 i3 i4 xo s.heap s.heap.size (Nat.le_refl _) B A G p e ha hc hk s m _ below hf ((Spec.applies_iff_loose hf).mp happ).1 ⟨rfl, State.Warmed39.refl s, rfl⟩ trivial
  refine ⟨n, _, h1, h2, h3, hpost _ _ _ _ _ _ ⟨Cond.after_iff.mpr rfl, Cond.after_iff.mpr (eq_i res_at (Term.int_eval (1)) rfl), trivial⟩ ⟨hq.1, hq.2.1, hq.2.2.1, (hq.2.2.2.sift fun y hy => Or.inr (N y hy)).mono (by decide) (by decide)⟩⟩
theorem main_1_1 : Claimed_1_1 := comes_1 fun _ _ _ _ _ _ h hF => ⟨h.1, hF⟩
theorem main_1_2 : Claimed_1_2 := comes_1 fun _ _ _ _ _ _ h hF => ⟨h.2.1, hF⟩
end Jvm.Pilot.@@N@@
namespace Jvm.Pilot.@@N@@
open Jvm Jvm.ClassFile Sem Op Lib Jvm.Free Jvm.Stand Jvm.Pilot.@@N@@.Jvm.D
/-! MADE BY PROGRAM (witnessworld.py) out of the Statement's table words and the real class files: 17 classes; the members and pool entries that the words name. The judged class is class 1, her method 1. -/
namespace start1
open Jvm.ClassFile
def u (s : String) : CpInfo := .utf8 (stringToUtf16 s)
/-- a pool by its gaps: so many unusable entries, then the entry; so many at the end -/
def gap : Nat → List CpInfo → List CpInfo
  | 0, r => r
  | n + 1, r => .unusable :: gap n r
def poolList (es : List (Nat × CpInfo)) (last : Nat) : List CpInfo := es.foldr (fun e r => gap e.1 (e.2 :: r)) (gap last [])
def pool (es : List (Nat × CpInfo)) (last : Nat) : Array CpInfo := ⟨poolList es last⟩
def fileOf (pool : Array CpInfo) (this : Nat) (attrs : Array Attribute := #[]) (ms : Array MethodInfo := #[]) (fl : Nat := 33) (sup : Nat := 0) (ifs : Array Nat := #[]) (fds : Array FieldInfo := #[]) : ClassFile where
  minorVersion := 0
  majorVersion := 65
  constantPool := pool
  accessFlags := fl
  thisClass := this
  superClass := sup
  interfaces := ifs
  fields := fds
  methods := ms
  attributes := attrs
def plain (name : String) (sup : Option ClassId) : Class where
  name := name
  kind := .ordinary
  loader := none
  accessFlags := 33
  super := sup
  interfaces := #[]
  cf := none
  fields := #[]
  methods := #[]
  instanceTypes := #[]
  staticTypes := #[]
  resolved := #[]
  callSites := []
  init := .initialized
  statics := none
  mirror := none

def pool0 : Array CpInfo := pool [(5, u "<init>"), (0, u "()V"), (1, .class_ 10), (1, u "java/lang/Object")] 113

def k0c0 : Code := { maxStack := 0, maxLocals := 1, code := object_method_1_code, exceptionTable := #[], attributes := #[] }
def k0m0 : Method := { name := "<init>", desc := "()V", sig := { parameters := [], returnType := none }, accessFlags := 1, code := some k0c0 }
/-- java/lang/Object -/
def k0 : Class := { plain "java/lang/Object" none with
  accessFlags := 33
  interfaces := #[]
  cf := some (fileOf pool0 8 #[] #[{ accessFlags := 1, nameIndex := 5, descriptorIndex := 6, attributes := #[] }] 33 0 #[] #[])
  fields := #[]
  methods := #[k0m0]
  instanceTypes := #[]
  staticTypes := #[]
  resolved := Array.replicate 124 none
  statics := none }

def pool1 : Array CpInfo := pool [(2, .class_ 4), (1, u "java/lang/Object"), (0, u "<init>"), (0, u "()V"), (2, .long 9223372036854775807), (1, .class_ 12), (0, u "com/example/tidegate/tidegate/model/Account"), (0, .string 14), (0, u "p"), (0, .methodref 11 16), (0, .nameAndType 5 17), (0, u "(Ljava/lang/String;JJ)V"), (0, .methodref 11 19), (0, .nameAndType 20 21), (0, u "canFund"), (0, u "(JJ)Z"), (0, .class_ 23), (0, u "com/example/tidegate/tidegate/model/AccountCanFundPinLaw"), (2, u "law"), (0, u "(JJJJI)Z")] 3

def k1m0 : Method := { name := "<init>", desc := "()V", sig := { parameters := [], returnType := none }, accessFlags := 2, code := none }
def k1c1 : Code := { maxStack := 7, maxLocals := 18, code := code, exceptionTable := #[], attributes := #[] }
def k1m1 : Method := { name := "law", desc := "(JJJJI)Z", sig := { parameters := [.long, .long, .long, .long, .int], returnType := some .boolean }, accessFlags := 9, code := some k1c1 }
/-- com/example/tidegate/tidegate/model/AccountCanFundPinLaw -/
def k1 : Class := { plain "com/example/tidegate/tidegate/model/AccountCanFundPinLaw" (some 0) with
  accessFlags := 49
  interfaces := #[]
  cf := some (fileOf pool1 22 #[] #[{ accessFlags := 2, nameIndex := 5, descriptorIndex := 6, attributes := #[] }, { accessFlags := 9, nameIndex := 26, descriptorIndex := 27, attributes := #[] }] 49 2 #[] #[])
  fields := #[]
  methods := #[k1m0, k1m1]
  instanceTypes := #[]
  staticTypes := #[]
  resolved := Array.replicate 31 none
  statics := none }

def pool2 : Array CpInfo := pool [(1, .methodref 2 3), (0, .class_ 4), (0, .nameAndType 5 6), (0, u "java/lang/Object"), (0, u "<init>"), (0, u "()V"), (0, .class_ 8), (0, u "java/lang/Record")] 13

def k2c0 : Code := { maxStack := 1, maxLocals := 1, code := jdk_30_method_1_code, exceptionTable := #[], attributes := #[] }
def k2m0 : Method := { name := "<init>", desc := "()V", sig := { parameters := [], returnType := none }, accessFlags := 4, code := some k2c0 }
/-- java/lang/Record -/
def k2 : Class := { plain "java/lang/Record" (some 0) with
  accessFlags := 1057
  interfaces := #[]
  cf := some (fileOf pool2 7 #[] #[{ accessFlags := 4, nameIndex := 5, descriptorIndex := 6, attributes := #[] }] 1057 2 #[] #[])
  fields := #[]
  methods := #[k2m0]
  instanceTypes := #[]
  staticTypes := #[]
  resolved := Array.replicate 22 none
  statics := none }

def pool3 : Array CpInfo := pool [(3, .methodref 4 5), (0, .class_ 6), (0, .nameAndType 7 8), (0, u "java/lang/Record"), (0, u "<init>"), (0, u "()V"), (0, .string 10), (0, u "participant"), (0, .methodref 12 13), (0, .class_ 14), (0, .nameAndType 15 16), (0, u "java/util/Objects"), (0, u "requireNonNull"), (0, u "(Ljava/lang/Object;Ljava/lang/String;)Ljava/lang/Object;"), (0, .string 18), (0, u "cost"), (9, .methodref 29 30), (0, .class_ 31), (0, .nameAndType 32 33), (0, u "java/util/OptionalLong"), (0, u "isPresent"), (0, u "()Z"), (17, .fieldref 52 53), (0, .class_ 54), (0, .nameAndType 10 55), (0, u "com/example/tidegate/tidegate/model/Account"), (0, u "Ljava/lang/String;"), (0, .fieldref 52 57), (0, .nameAndType 58 59), (0, u "balance"), (0, u "J"), (0, .fieldref 52 61), (0, .nameAndType 62 59), (0, u "credit"), (0, .fieldref 52 64), (0, .nameAndType 18 65), (0, u "Ljava/util/OptionalLong;"), (0, .methodref 29 67), (0, .nameAndType 68 69), (0, u "empty"), (0, u "()Ljava/util/OptionalLong;"), (0, .methodref 52 71), (0, .nameAndType 7 72), (0, u "(Ljava/lang/String;JJLjava/util/OptionalLong;)V"), (0, .long 9223372036854775807), (3, u "(Ljava/lang/String;JJ)V"), (12, u "UNLIMITED_CREDIT"), (9, u "canFund"), (0, u "(JJ)Z")] 36

def k3c0 : Code := { maxStack := 4, maxLocals := 7, code := prog_53_method_1_code, exceptionTable := #[], attributes := #[] }
def k3m0 : Method := { name := "<init>", desc := "(Ljava/lang/String;JJLjava/util/OptionalLong;)V", sig := { parameters := [(.object "java/lang/String"), .long, .long, (.object "java/util/OptionalLong")], returnType := none }, accessFlags := 1, code := some k3c0 }
def k3c1 : Code := { maxStack := 7, maxLocals := 6, code := prog_53_method_2_code, exceptionTable := #[], attributes := #[] }
def k3m1 : Method := { name := "<init>", desc := "(Ljava/lang/String;JJ)V", sig := { parameters := [(.object "java/lang/String"), .long, .long], returnType := none }, accessFlags := 1, code := some k3c1 }
def k3c2 : Code := { maxStack := 6, maxLocals := 5, code := prog_53_method_4_code, exceptionTable := #[], attributes := #[] }
def k3m2 : Method := { name := "canFund", desc := "(JJ)Z", sig := { parameters := [.long, .long], returnType := some .boolean }, accessFlags := 1, code := some k3c2 }
/-- com/example/tidegate/tidegate/model/Account -/
def k3 : Class := { plain "com/example/tidegate/tidegate/model/Account" (some 2) with
  accessFlags := 49
  interfaces := #[]
  cf := some (fileOf pool3 52 #[] #[{ accessFlags := 1, nameIndex := 7, descriptorIndex := 72, attributes := #[] }, { accessFlags := 1, nameIndex := 7, descriptorIndex := 77, attributes := #[] }, { accessFlags := 1, nameIndex := 100, descriptorIndex := 101, attributes := #[] }] 49 4 #[] #[{ accessFlags := 18, nameIndex := 10, descriptorIndex := 55, attributes := #[] }, { accessFlags := 18, nameIndex := 58, descriptorIndex := 59, attributes := #[] }, { accessFlags := 18, nameIndex := 62, descriptorIndex := 59, attributes := #[] }, { accessFlags := 18, nameIndex := 18, descriptorIndex := 65, attributes := #[] }, { accessFlags := 25, nameIndex := 90, descriptorIndex := 59, attributes := #[] }])
  fields := #[{ name := "participant", type := (.object "java/lang/String"), accessFlags := 18, slot := 0, constantValue := 0 }, { name := "balance", type := .long, accessFlags := 18, slot := 1, constantValue := 0 }, { name := "credit", type := .long, accessFlags := 18, slot := 2, constantValue := 0 }, { name := "cost", type := (.object "java/util/OptionalLong"), accessFlags := 18, slot := 3, constantValue := 0 }, { name := "UNLIMITED_CREDIT", type := .long, accessFlags := 25, slot := 0, constantValue := 0 }]
  methods := #[k3m0, k3m1, k3m2]
  instanceTypes := #[(.object "java/lang/String"), .long, .long, (.object "java/util/OptionalLong")]
  staticTypes := #[.long]
  resolved := Array.replicate 138 none
  statics := none }

def pool4 : Array CpInfo := pool [(1, .class_ 2), (0, u "java/io/Serializable"), (0, .class_ 4), (0, u "java/lang/Object")] 2

/-- java/io/Serializable -/
def k4 : Class := { plain "java/io/Serializable" (some 0) with
  accessFlags := 1537
  interfaces := #[]
  cf := some (fileOf pool4 1 #[] #[] 1537 3 #[] #[])
  fields := #[]
  methods := #[]
  instanceTypes := #[]
  staticTypes := #[]
  resolved := Array.replicate 7 none
  statics := none }

def pool5 : Array CpInfo := pool [(1, .class_ 2), (0, u "java/lang/Comparable"), (0, .class_ 4), (0, u "java/lang/Object")] 7

/-- java/lang/Comparable -/
def k5 : Class := { plain "java/lang/Comparable" (some 0) with
  accessFlags := 1537
  interfaces := #[]
  cf := some (fileOf pool5 1 #[] #[] 1537 3 #[] #[])
  fields := #[]
  methods := #[]
  instanceTypes := #[]
  staticTypes := #[]
  resolved := Array.replicate 12 none
  statics := none }

def pool6 : Array CpInfo := pool [(2, .class_ 4), (1, u "java/lang/CharSequence"), (42, .class_ 48), (0, u "java/lang/CharSequence$1CodePointIterator"), (10, .class_ 60), (0, u "java/lang/CharSequence$1CharIterator"), (5, .class_ 67), (0, u "java/lang/Object")] 63

/-- java/lang/CharSequence -/
def k6 : Class := { plain "java/lang/CharSequence" (some 0) with
  accessFlags := 1537
  interfaces := #[]
  cf := some (fileOf pool6 2 #[.nestMembers #[47, 59]] #[] 1537 66 #[] #[])
  fields := #[]
  methods := #[]
  instanceTypes := #[]
  staticTypes := #[]
  resolved := Array.replicate 131 none
  statics := none }

def pool7 : Array CpInfo := pool [(1, .class_ 2), (0, u "java/lang/constant/Constable"), (0, .class_ 4), (0, u "java/lang/Object")] 6

/-- java/lang/constant/Constable -/
def k7 : Class := { plain "java/lang/constant/Constable" (some 0) with
  accessFlags := 1537
  interfaces := #[]
  cf := some (fileOf pool7 1 #[] #[] 1537 3 #[] #[])
  fields := #[]
  methods := #[]
  instanceTypes := #[]
  staticTypes := #[]
  resolved := Array.replicate 11 none
  statics := none }

def pool8 : Array CpInfo := pool [(1, .class_ 2), (0, u "java/lang/constant/ConstantDesc"), (0, .class_ 4), (0, u "java/lang/Object")] 32

/-- java/lang/constant/ConstantDesc -/
def k8 : Class := { plain "java/lang/constant/ConstantDesc" (some 0) with
  accessFlags := 1537
  interfaces := #[]
  cf := some (fileOf pool8 1 #[] #[] 1537 3 #[] #[])
  fields := #[]
  methods := #[]
  instanceTypes := #[]
  staticTypes := #[]
  resolved := Array.replicate 37 none
  statics := none }

def pool9 : Array CpInfo := pool [(2, .class_ 4), (1, u "java/lang/Object"), (0, u "<init>"), (0, u "()V"), (3, .class_ 12), (1, u "java/lang/String"), (0, u "value"), (0, u "[B"), (2, u "coder"), (0, u "B"), (2, u "hash"), (0, u "I"), (2, u "hashIsZero"), (0, u "Z"), (13, u "COMPACT_STRINGS"), (534, .class_ 576), (0, u "java/lang/CharSequence"), (22, u "CASE_INSENSITIVE_ORDER"), (0, u "Ljava/util/Comparator;"), (500, u "serialPersistentFields"), (0, u "[Ljava/io/ObjectStreamField;"), (0, .class_ 1104), (0, u "java/lang/String$CaseInsensitiveComparator"), (1, .class_ 1107), (0, u "java/io/Serializable"), (0, .class_ 1109), (0, u "java/lang/Comparable"), (0, .class_ 1111), (0, u "java/lang/constant/Constable"), (0, .class_ 1113), (0, u "java/lang/constant/ConstantDesc"), (2, u "serialVersionUID"), (0, u "J"), (3, u "REPL"), (0, u "C"), (2, u "LATIN1"), (1, u "UTF16")] 323

def k9m0 : Method := { name := "<init>", desc := "()V", sig := { parameters := [], returnType := none }, accessFlags := 1, code := none }
/-- java/lang/String -/
def k9 : Class := { plain "java/lang/String" (some 0) with
  accessFlags := 49
  interfaces := #[4, 5, 6, 7, 8]
  cf := some (fileOf pool9 10 #[.nestMembers #[1103]] #[{ accessFlags := 1, nameIndex := 5, descriptorIndex := 6, attributes := #[] }] 49 2 #[1106, 1108, 575, 1110, 1112] #[{ accessFlags := 18, nameIndex := 13, descriptorIndex := 14, attributes := #[] }, { accessFlags := 18, nameIndex := 17, descriptorIndex := 18, attributes := #[] }, { accessFlags := 2, nameIndex := 21, descriptorIndex := 22, attributes := #[] }, { accessFlags := 2, nameIndex := 25, descriptorIndex := 26, attributes := #[] }, { accessFlags := 26, nameIndex := 1116, descriptorIndex := 1117, attributes := #[] }, { accessFlags := 24, nameIndex := 40, descriptorIndex := 26, attributes := #[] }, { accessFlags := 26, nameIndex := 1101, descriptorIndex := 1102, attributes := #[] }, { accessFlags := 26, nameIndex := 1121, descriptorIndex := 1122, attributes := #[] }, { accessFlags := 25, nameIndex := 599, descriptorIndex := 600, attributes := #[] }, { accessFlags := 24, nameIndex := 1125, descriptorIndex := 18, attributes := #[] }, { accessFlags := 24, nameIndex := 1127, descriptorIndex := 18, attributes := #[] }])
  fields := #[{ name := "value", type := (.array .byte), accessFlags := 18, slot := 0, constantValue := 0 }, { name := "coder", type := .byte, accessFlags := 18, slot := 1, constantValue := 0 }, { name := "hash", type := .int, accessFlags := 2, slot := 2, constantValue := 0 }, { name := "hashIsZero", type := .boolean, accessFlags := 2, slot := 3, constantValue := 0 }, { name := "serialVersionUID", type := .long, accessFlags := 26, slot := 0, constantValue := 0 }, { name := "COMPACT_STRINGS", type := .boolean, accessFlags := 24, slot := 1, constantValue := 0 }, { name := "serialPersistentFields", type := (.array (.object "java/io/ObjectStreamField")), accessFlags := 26, slot := 2, constantValue := 0 }, { name := "REPL", type := .char, accessFlags := 26, slot := 3, constantValue := 0 }, { name := "CASE_INSENSITIVE_ORDER", type := (.object "java/util/Comparator"), accessFlags := 25, slot := 4, constantValue := 0 }, { name := "LATIN1", type := .byte, accessFlags := 24, slot := 5, constantValue := 0 }, { name := "UTF16", type := .byte, accessFlags := 24, slot := 6, constantValue := 0 }]
  methods := #[k9m0]
  instanceTypes := #[(.array .byte), .byte, .int, .boolean]
  staticTypes := #[.long, .boolean, (.array (.object "java/io/ObjectStreamField")), .char, (.object "java/util/Comparator"), .byte, .byte]
  resolved := Array.replicate 1451 none
  statics := none }

def pool10 : Array CpInfo := pool [(2, .class_ 4), (1, u "java/lang/Object"), (0, u "<init>"), (0, u "()V"), (0, .fieldref 8 9), (0, .class_ 10), (0, .nameAndType 11 12), (0, u "java/util/OptionalLong"), (0, u "isPresent"), (0, u "Z"), (2, u "value"), (0, u "J"), (0, .fieldref 8 18), (0, .nameAndType 19 20), (0, u "EMPTY"), (0, u "Ljava/util/OptionalLong;"), (28, u "empty"), (46, u "()Ljava/util/OptionalLong;"), (2, u "()Z")] 38

def k10m0 : Method := { name := "<init>", desc := "()V", sig := { parameters := [], returnType := none }, accessFlags := 2, code := none }
def k10c1 : Code := { maxStack := 1, maxLocals := 0, code := jdk_2650_method_2_code, exceptionTable := #[], attributes := #[] }
def k10m1 : Method := { name := "empty", desc := "()Ljava/util/OptionalLong;", sig := { parameters := [], returnType := some (.object "java/util/OptionalLong") }, accessFlags := 9, code := some k10c1 }
def k10c2 : Code := { maxStack := 1, maxLocals := 1, code := jdk_2650_method_6_code, exceptionTable := #[], attributes := #[] }
def k10m2 : Method := { name := "isPresent", desc := "()Z", sig := { parameters := [], returnType := some .boolean }, accessFlags := 1, code := some k10c2 }
/-- java/util/OptionalLong -/
def k10 : Class := { plain "java/util/OptionalLong" (some 0) with
  accessFlags := 49
  interfaces := #[]
  cf := some (fileOf pool10 8 #[] #[{ accessFlags := 2, nameIndex := 5, descriptorIndex := 6, attributes := #[] }, { accessFlags := 9, nameIndex := 49, descriptorIndex := 96, attributes := #[] }, { accessFlags := 1, nameIndex := 11, descriptorIndex := 99, attributes := #[] }] 49 2 #[] #[{ accessFlags := 26, nameIndex := 19, descriptorIndex := 20, attributes := #[] }, { accessFlags := 18, nameIndex := 11, descriptorIndex := 12, attributes := #[] }, { accessFlags := 18, nameIndex := 15, descriptorIndex := 16, attributes := #[] }])
  fields := #[{ name := "EMPTY", type := (.object "java/util/OptionalLong"), accessFlags := 26, slot := 0, constantValue := 0 }, { name := "isPresent", type := .boolean, accessFlags := 18, slot := 0, constantValue := 0 }, { name := "value", type := .long, accessFlags := 18, slot := 1, constantValue := 0 }]
  methods := #[k10m0, k10m1, k10m2]
  instanceTypes := #[.boolean, .long]
  staticTypes := #[(.object "java/util/OptionalLong")]
  resolved := Array.replicate 138 none
  statics := some 0 }

def pool11 : Array CpInfo := pool [(2, .class_ 4), (1, u "java/lang/Object"), (0, u "<init>"), (0, u "()V"), (35, .class_ 44), (1, u "java/util/Objects"), (0, u "requireNonNull"), (48, u "(Ljava/lang/Object;Ljava/lang/String;)Ljava/lang/Object;")] 89

def k11m0 : Method := { name := "<init>", desc := "()V", sig := { parameters := [], returnType := none }, accessFlags := 2, code := none }
def k11c1 : Code := { maxStack := 3, maxLocals := 2, code := jdk_31_method_11_code, exceptionTable := #[], attributes := #[] }
def k11m1 : Method := { name := "requireNonNull", desc := "(Ljava/lang/Object;Ljava/lang/String;)Ljava/lang/Object;", sig := { parameters := [(.object "java/lang/Object"), (.object "java/lang/String")], returnType := some (.object "java/lang/Object") }, accessFlags := 9, code := some k11c1 }
/-- java/util/Objects -/
def k11 : Class := { plain "java/util/Objects" (some 0) with
  accessFlags := 49
  interfaces := #[]
  cf := some (fileOf pool11 42 #[] #[{ accessFlags := 2, nameIndex := 5, descriptorIndex := 6, attributes := #[] }, { accessFlags := 9, nameIndex := 45, descriptorIndex := 94, attributes := #[] }] 49 2 #[] #[])
  fields := #[]
  methods := #[k11m0, k11m1]
  instanceTypes := #[]
  staticTypes := #[]
  resolved := Array.replicate 184 none
  statics := none }

def pool12 : Array CpInfo := pool [(1, u "java/lang/Cloneable"), (0, .class_ 1), (0, u "java/lang/Object"), (0, .class_ 3)] 3

/-- java/lang/Cloneable -/
def k12 : Class := { plain "java/lang/Cloneable" (some 0) with
  accessFlags := 1537
  interfaces := #[]
  cf := some (fileOf pool12 2 #[] #[] 1537 4 #[] #[])
  fields := #[]
  methods := #[]
  instanceTypes := #[]
  staticTypes := #[]
  resolved := Array.replicate 8 none
  statics := none }

/-- the primitive byte -/
def k13 : Class := { plain "byte" none with kind := .primitive 'B', accessFlags := 0x411 }
/-- [B -/
def k14 : Class := { plain "[B" (some 0) with kind := .array 13 .byte, interfaces := #[12, 4], accessFlags := 1041 }

/-- the primitive int -/
def k15 : Class := { plain "int" none with kind := .primitive 'I', accessFlags := 0x411 }
/-- [I -/
def k16 : Class := { plain "[I" (some 0) with kind := .array 15 .int, interfaces := #[12, 4], accessFlags := 1041 }

def heap : Heap := #[{ cls := 10, slots := #[.ref 1], vm := .statics 10 },
  { cls := 10, slots := #[.int 0, .long 0], vm := .none }]
def classes : Array Class := #[k0, k1, k2, k3, k4, k5, k6, k7, k8, k9, k10, k11, k12, k13, k14, k15, k16]
def interned : List (Array UInt16 × Addr) := []
def slotsUsed : Nat := 3
def theMethod : MethodId := ⟨1, 1⟩
def args0 : Array Value := #[.long 5, .long 6, .long 7, .long 8, .int 3]
def aboutOver (below : List Frame) : State where
  vm := { classes := classes, interned := interned.toArray }
  heap := heap
  slotsUsed := slotsUsed
  threads := #[{ frames := .invoking theMethod args0 :: below }]
def below0 : List Frame := [.native { method := ⟨0, 0⟩, args := #[] }]
def about1 : State := aboutOver below0
def p0 : Program := .bare "" "" ""
def e0 : Env := launch0.env 0 0 0
theorem w_frames : about1.frames = Frame.invoking theMethod args0 :: below0 := rfl
set_option maxRecDepth 65536 in
theorem w_args : argsFit about1.vm theMethod args0 = true := by decide +kernel
set_option maxRecDepth 65536 in
theorem w_heap : heapFits about1 = true := by decide +kernel
set_option maxRecDepth 65536 in
theorem w_runnable : about1.curStatus? = some .runnable := by decide +kernel
set_option maxRecDepth 65536 in
theorem w_alone : about1.alone = true := by decide +kernel
set_option maxRecDepth 65536 in
theorem w_named : about1.methodNamed? x = some theMethod := by decide +kernel
set_option maxRecDepth 65536 in
theorem w_hears : about1.hears theMethod below0 = true := by decide +kernel
set_option maxRecDepth 65536 in
theorem w_ripe : about1.ripe theMethod args0 below0 = true := by decide +kernel
theorem w_running : about1.status = .running := rfl
set_option maxRecDepth 65536 in
theorem w_room : about1.hasRoom e0.platform room_1 = true :=
  launch0.hasRoom_least _ room_1 (by decide +kernel) (by decide +kernel) (by decide +kernel) (by decide +kernel) (by decide +kernel) (by decide +kernel)
theorem allAtoms_all (ts : List Jvm.Cond) (a : Array Jvm.Value) (st : Jvm.State) : (allAtoms ts).before a st = ts.all (fun c => c.before a st) := by
  induction ts with
  | nil => rfl
  | cons c t ih =>
    show (Jvm.Cond.and c (allAtoms t)).before a st = _
    rw [Jvm.Cond.before_and, ih, List.all_cons]
def words1 : List Jvm.Cond := Jvm.Cond.code x code maxLocals ret :: tables_1
/-- a 'code' word, met by the world's own term for the bytes: nothing is compared byte by byte -/
theorem code_word {y : MethodName} {bytes : ByteArray} {mx : Nat} {rt : Option FieldType} {a : Array Value} {s : State} {m : MethodId} {meth : Method} {c : Code} (h1 : s.methodNamed? y = some m) (h2 : s.vm.method? m = some meth) (h3 : meth.code = some c) (h4 : c.code = bytes)
    (h5 : (c.maxLocals == mx && c.exceptionTable.isEmpty && decide (c.maxStack ≤ mostOperands) && decide (meth.sig.returnType = rt) && !meth.locks && decide (parseMethodDescriptor y.desc = some meth.sig)) = true) : (Jvm.Cond.code y bytes mx rt).before a s = true := by
  simp only [Bool.and_eq_true, beq_iff_eq, Bool.not_eq_true', decide_eq_true_eq] at h5
  obtain ⟨⟨⟨⟨⟨g1, g2⟩, g3⟩, g4⟩, g5⟩, g6⟩ := h5
  simp [Cond.before, Cond.holds, Cond.value, h1, h2, h3, h4, g1, g2, g3, g4, g5, g6]
def isCode : Jvm.Cond → Bool
  | .code _ _ _ _ => true
  | _ => false
theorem all_split {L : List Jvm.Cond} {P : Jvm.Cond → Bool} (h1 : L.all (fun c => isCode c || P c) = true) (h2 : ∀ c ∈ L.filter isCode, P c = true) : L.all P = true := by
  refine List.all_eq_true.mpr fun c hc => ?_
  have h := List.all_eq_true.mp h1 c hc
  rcases Bool.eq_false_or_eq_true (isCode c) with hi | hi
  · exact h2 c (List.mem_filter.mpr ⟨hc, hi⟩)
  · simpa [hi] using h
set_option maxRecDepth 65536 in
theorem w_c0 : (Jvm.Cond.code x code maxLocals ret).before args0 about1 = true := code_word (m := ⟨1, 1⟩) (meth := k1m1) (c := k1c1) (by decide +kernel) rfl rfl rfl (by decide +kernel)
set_option maxRecDepth 65536 in
theorem w_c1 : (Jvm.Cond.code ({ cls := "com/example/tidegate/tidegate/model/Account", name := "<init>", desc := "(Ljava/lang/String;JJ)V" } : Jvm.MethodName) prog_53_method_2_code (6 : Nat) (Option.none : Option Jvm.ClassFile.FieldType)).before args0 about1 = true := code_word (m := ⟨3, 1⟩) (meth := k3m1) (c := k3c1) (by decide +kernel) rfl rfl rfl (by decide +kernel)
set_option maxRecDepth 65536 in
theorem w_c2 : (Jvm.Cond.code ({ cls := "java/util/OptionalLong", name := "empty", desc := "()Ljava/util/OptionalLong;" } : Jvm.MethodName) jdk_2650_method_2_code (0 : Nat) (Option.some (Jvm.ClassFile.FieldType.object "java/util/OptionalLong"))).before args0 about1 = true := code_word (m := ⟨10, 1⟩) (meth := k10m1) (c := k10c1) (by decide +kernel) rfl rfl rfl (by decide +kernel)
set_option maxRecDepth 65536 in
theorem w_c3 : (Jvm.Cond.code ({ cls := "com/example/tidegate/tidegate/model/Account", name := "<init>", desc := "(Ljava/lang/String;JJLjava/util/OptionalLong;)V" } : Jvm.MethodName) prog_53_method_1_code (7 : Nat) (Option.none : Option Jvm.ClassFile.FieldType)).before args0 about1 = true := code_word (m := ⟨3, 0⟩) (meth := k3m0) (c := k3c0) (by decide +kernel) rfl rfl rfl (by decide +kernel)
set_option maxRecDepth 65536 in
theorem w_c4 : (Jvm.Cond.code ({ cls := "java/lang/Record", name := "<init>", desc := "()V" } : Jvm.MethodName) jdk_30_method_1_code (1 : Nat) (Option.none : Option Jvm.ClassFile.FieldType)).before args0 about1 = true := code_word (m := ⟨2, 0⟩) (meth := k2m0) (c := k2c0) (by decide +kernel) rfl rfl rfl (by decide +kernel)
set_option maxRecDepth 65536 in
theorem w_c5 : (Jvm.Cond.code ({ cls := "java/lang/Object", name := "<init>", desc := "()V" } : Jvm.MethodName) object_method_1_code (1 : Nat) (Option.none : Option Jvm.ClassFile.FieldType)).before args0 about1 = true := code_word (m := ⟨0, 0⟩) (meth := k0m0) (c := k0c0) (by decide +kernel) rfl rfl rfl (by decide +kernel)
set_option maxRecDepth 65536 in
theorem w_c6 : (Jvm.Cond.code ({ cls := "java/util/Objects", name := "requireNonNull", desc := "(Ljava/lang/Object;Ljava/lang/String;)Ljava/lang/Object;" } : Jvm.MethodName) jdk_31_method_11_code (2 : Nat) (Option.some (Jvm.ClassFile.FieldType.object "java/lang/Object"))).before args0 about1 = true := code_word (m := ⟨11, 1⟩) (meth := k11m1) (c := k11c1) (by decide +kernel) rfl rfl rfl (by decide +kernel)
set_option maxRecDepth 65536 in
theorem w_c7 : (Jvm.Cond.code ({ cls := "java/util/OptionalLong", name := "isPresent", desc := "()Z" } : Jvm.MethodName) jdk_2650_method_6_code (1 : Nat) (Option.some Jvm.ClassFile.FieldType.boolean)).before args0 about1 = true := code_word (m := ⟨10, 2⟩) (meth := k10m2) (c := k10c2) (by decide +kernel) rfl rfl rfl (by decide +kernel)
set_option maxRecDepth 65536 in
theorem w_c8 : (Jvm.Cond.code ({ cls := "com/example/tidegate/tidegate/model/Account", name := "canFund", desc := "(JJ)Z" } : Jvm.MethodName) prog_53_method_4_code (5 : Nat) (Option.some Jvm.ClassFile.FieldType.boolean)).before args0 about1 = true := code_word (m := ⟨3, 2⟩) (meth := k3m2) (c := k3c2) (by decide +kernel) rfl rfl rfl (by decide +kernel)
def codes1 : List Jvm.Cond := [Jvm.Cond.code x code maxLocals ret, Jvm.Cond.code ({ cls := "com/example/tidegate/tidegate/model/Account", name := "<init>", desc := "(Ljava/lang/String;JJ)V" } : Jvm.MethodName) prog_53_method_2_code (6 : Nat) (Option.none : Option Jvm.ClassFile.FieldType), Jvm.Cond.code ({ cls := "java/util/OptionalLong", name := "empty", desc := "()Ljava/util/OptionalLong;" } : Jvm.MethodName) jdk_2650_method_2_code (0 : Nat) (Option.some (Jvm.ClassFile.FieldType.object "java/util/OptionalLong")), Jvm.Cond.code ({ cls := "com/example/tidegate/tidegate/model/Account", name := "<init>", desc := "(Ljava/lang/String;JJLjava/util/OptionalLong;)V" } : Jvm.MethodName) prog_53_method_1_code (7 : Nat) (Option.none : Option Jvm.ClassFile.FieldType), Jvm.Cond.code ({ cls := "java/lang/Record", name := "<init>", desc := "()V" } : Jvm.MethodName) jdk_30_method_1_code (1 : Nat) (Option.none : Option Jvm.ClassFile.FieldType), Jvm.Cond.code ({ cls := "java/lang/Object", name := "<init>", desc := "()V" } : Jvm.MethodName) object_method_1_code (1 : Nat) (Option.none : Option Jvm.ClassFile.FieldType), Jvm.Cond.code ({ cls := "java/util/Objects", name := "requireNonNull", desc := "(Ljava/lang/Object;Ljava/lang/String;)Ljava/lang/Object;" } : Jvm.MethodName) jdk_31_method_11_code (2 : Nat) (Option.some (Jvm.ClassFile.FieldType.object "java/lang/Object")), Jvm.Cond.code ({ cls := "java/util/OptionalLong", name := "isPresent", desc := "()Z" } : Jvm.MethodName) jdk_2650_method_6_code (1 : Nat) (Option.some Jvm.ClassFile.FieldType.boolean), Jvm.Cond.code ({ cls := "com/example/tidegate/tidegate/model/Account", name := "canFund", desc := "(JJ)Z" } : Jvm.MethodName) prog_53_method_4_code (5 : Nat) (Option.some Jvm.ClassFile.FieldType.boolean)]
set_option maxRecDepth 65536 in
theorem codes_eq : words1.filter isCode = codes1 := rfl
theorem w_codes : ∀ c ∈ words1.filter isCode, c.before args0 about1 = true := by
  rw [codes_eq]
  intro c hc
  simp only [codes1, List.mem_cons, List.not_mem_nil, or_false] at hc
  rcases hc with rfl | rfl | rfl | rfl | rfl | rfl | rfl | rfl | rfl
  · exact w_c0
  · exact w_c1
  · exact w_c2
  · exact w_c3
  · exact w_c4
  · exact w_c5
  · exact w_c6
  · exact w_c7
  · exact w_c8
set_option maxRecDepth 65536 in
theorem w_t1 : (words1.take 24).all (fun c => isCode c || c.before args0 about1) = true := by decide +kernel
set_option maxRecDepth 65536 in
theorem w_t2 : ((words1.drop 24).take 24).all (fun c => isCode c || c.before args0 about1) = true := by decide +kernel
set_option maxRecDepth 65536 in
theorem w_t3 : ((words1.drop 24).drop 24).all (fun c => isCode c || c.before args0 about1) = true := by decide +kernel
theorem w_tables : (allAtoms (Jvm.Cond.code x code maxLocals ret :: tables_1)).before args0 about1 = true := by
  rw [allAtoms_all]
  show words1.all (fun c => c.before args0 about1) = true
  refine all_split ?_ w_codes
  rw [← List.take_append_drop 24 words1, List.all_append, w_t1, ← List.take_append_drop 24 (words1.drop 24), List.all_append, w_t2, w_t3]
  rfl
set_option maxRecDepth 65536 in
theorem w_rest : rest_1_c.before args0 about1 = true := by decide +kernel
set_option maxRecDepth 65536 in
theorem w_case : (Jvm.Cond.and given_1 narrow_1).before args0 about1 = true := by decide +kernel
theorem w_applies : (headSpec (Jvm.Cond.code x code maxLocals ret :: tables_1) room_1).applies x e0.platform about1 = true :=
  (Spec.applies_iff w_frames).mpr ⟨w_running, w_runnable, w_alone, w_named, w_hears, w_ripe, w_room, w_tables⟩
theorem atStart : AtStart classFile x code maxLocals ret World_1 tables_1 room_1 Calls_1 rest_1 Pre_1 launch0 p0 e0 about1 theMethod args0 below0 :=
  ⟨lists_1, trivial, launch0.admits_env _ _ _, launch0.least_env, fairChoices_fair.cas, fairChoices_fair.clock, w_frames, w_args, w_heap, w_applies, trivial, w_rest, w_case⟩
end start1
theorem witness_1 : WitnessClaimed_1 := ⟨start1.p0, start1.e0, start1.about1, start1.theMethod, start1.args0, start1.below0, start1.atStart⟩
end Jvm.Pilot.@@N@@
