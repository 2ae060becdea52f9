import JvmDerived
import JvmDerived.Pilot.@@N@@Statement
import JvmDerived.Pilot.@@N@@Code
set_option linter.unusedVariables false
set_option linter.unusedSimpArgs false
namespace Jvm.RoadKit
open Sem ClassFile Op Lib Jvm.Stand Jvm.Free Jvm.LawKit
section New
variable {p : Program} {l : Launch} {e : Env} {R : Room} {s : State} {m : MethodId} {args : Array Value} {below : List Frame} {meth : Method} {c : Code} {T : State} {locs : List Loc} {cells slots : Nat}
theorem retI (X : Stand p l e R s m args below meth c T locs cells slots) (hx : p.tables.exec = Jvm.exec) {pc : Nat} {Ls : Array Slot} {z : Int32} {rest : List Value} (hret : meth.sig.returnType = some .int) (hd : decode c.code pc = .ok (.ireturn, 1)) {fs : List Frame}
    (hl : ∀ (f : JFrame) (acts : List Action), f.method = m → f.locked = none → f.entered = [] → (doReturn e (T.setTop f) acts (some (.int z))).1 = T.setFrames fs) : Steps p.tables e below (T.setTop (mkF m pc Ls (.int z :: rest))) (T.setFrames fs) := by
  have hm' : T.vm.method? m = some meth := X.method'
  have hn : narrow .int (.int z) = .int z := rfl
  show Steps p.tables e below (T.setTop { method := m, pc := pc, locals := Ls, stack := _ :: rest, locked := none }) _
  jvm_step X.here [X.here.top, hx, hd, hm', hret, hn]
  first | (intro acts; rw [hl _ acts rfl rfl rfl]) | rw [hl _ _ rfl rfl rfl]
  exact Steps.refl _
end New
end Jvm.RoadKit
namespace Jvm.Pilot.@@N@@
open Jvm Jvm.ClassFile Sem Op Lib Jvm.Free Jvm.Stand Jvm.LawKit Jvm.RoadKit Bundle Jvm.Pilot.@@N@@.Jvm.D
section Own
variable {p : Program} {l : Launch} {e : Env} {R : Room} {s : State} {m : MethodId} {args : Array Value} {below : List Frame} {meth : Method} {c : Code} {T : State} {locs : List Loc} {cells slots : Nat} {Z : State} {a0 : Array Value} {h h' : Heap}
/-- an array of n places, whose j-th holds f j -/
def own_AF (Z : State) (h : Heap) (a : Addr) (ty : FieldType) (n : Nat) (f : Nat → Value) : Prop := n < 2147483648 ∧ ∃ c : Cell, Arr Z h a c ty ∧ c.slots.size = n ∧ ∀ j, j < n → c.slots[j]? = some (f j)
/-- an array of ints, bytes, chars, booleans -/
def own_AI (Z : State) (h : Heap) (a : Addr) (ty : FieldType) (n : Nat) (f : Nat → Int32) : Prop := own_AF Z h a ty n (fun j => .int (f j))
def own_AL (Z : State) (h : Heap) (a : Addr) (n : Nat) (f : Nat → Int64) : Prop := own_AF Z h a .long n (fun j => .long (f j))
def own_upd {α : Type} (f : Nat → α) (i : Nat) (x : α) : Nat → α := fun j => if j = i then x else f j
theorem own_AF.lt {a : Addr} {ty : FieldType} {n : Nat} {f : Nat → Value} (F : own_AF Z h a ty n f) : a < h.size := by obtain ⟨_, c, A, -⟩ := F; exact A.lt
theorem own_AI.lt {a : Addr} {ty : FieldType} {n : Nat} {f : Nat → Int32} (F : own_AI Z h a ty n f) : a < h.size := own_AF.lt F
theorem own_AL.lt {a : Addr} {n : Nat} {f : Nat → Int64} (F : own_AL Z h a n f) : a < h.size := own_AF.lt F
theorem own_AF.keep {a : Addr} {ty : FieldType} {n : Nat} {f : Nat → Value} {ws : List Addr} (F : own_AF Z h a ty n f) (K : Keep h h' ws) (q : a ∉ ws) : own_AF Z h' a ty n f := by
  obtain ⟨b, c, A, r⟩ := F; exact ⟨b, c, ⟨K.2.1 a c A.1 q, A.2⟩, r⟩
theorem own_AI.keep {a : Addr} {ty : FieldType} {n : Nat} {f : Nat → Int32} {ws : List Addr} (F : own_AI Z h a ty n f) (K : Keep h h' ws) (q : a ∉ ws) : own_AI Z h' a ty n f := own_AF.keep F K q
theorem own_AL.keep {a : Addr} {n : Nat} {f : Nat → Int64} {ws : List Addr} (F : own_AL Z h a n f) (K : Keep h h' ws) (q : a ∉ ws) : own_AL Z h' a n f := own_AF.keep F K q
theorem own_AF.congr {a : Addr} {ty : FieldType} {n : Nat} {f g : Nat → Value} (F : own_AF Z h a ty n f) (q : ∀ j, j < n → f j = g j) : own_AF Z h a ty n g := by
  obtain ⟨b, c, A, s, r⟩ := F; exact ⟨b, c, A, s, fun j hj => by rw [r j hj, q j hj]⟩
theorem own_AI.congr {a : Addr} {ty : FieldType} {n : Nat} {f g : Nat → Int32} (F : own_AI Z h a ty n f) (q : ∀ j, j < n → f j = g j) : own_AI Z h a ty n g := own_AF.congr F fun j hj => by show Value.int (f j) = .int (g j); rw [q j hj]
theorem own_AF.wr {a : Addr} {ty : FieldType} {n i : Nat} {f : Nat → Value} {v : Value} (F : own_AF Z h a ty n f) (hi : i < n) (W : Wr h h' a i v) : own_AF Z h' a ty n (own_upd f i v) := by
  obtain ⟨b, c, A, s, r⟩ := F
  refine ⟨b, _, A.same W, by rw [sz_set]; exact s, fun j hj => ?_⟩
  simp only [Cell.setSlot, own_upd, Array.getElem?_setIfInBounds]
  by_cases q : i = j
  · subst q; simp [s, hi]
  · have q' : ¬ j = i := fun e => q e.symm
    simp [q, q', r j hj]
theorem own_AI.wr {a : Addr} {ty : FieldType} {n i : Nat} {f : Nat → Int32} {x : Int32} (F : own_AI Z h a ty n f) (hi : i < n) (W : Wr h h' a i (.int x)) : own_AI Z h' a ty n (own_upd f i x) :=
  (own_AF.wr F hi W).congr fun j hj => by simp only [own_upd]; split <;> rfl
theorem own_AL.wr {a : Addr} {n i : Nat} {f : Nat → Int64} {x : Int64} (F : own_AL Z h a n f) (hi : i < n) (W : Wr h h' a i (.long x)) : own_AL Z h' a n (own_upd f i x) :=
  (own_AF.wr F hi W).congr fun j hj => by simp only [own_upd]; split <;> rfl
theorem own_idx {j : Int32} {i : Nat} (hj : j.toInt = i) : ¬ j < 0 ∧ j.toNatClampNeg = i := by
  refine ⟨by rw [Int32.lt_iff_toInt_lt, Int32.toInt_zero]; omega, ?_⟩
  have := nat_of (j := j) (by rw [Int32.lt_iff_toInt_lt, Int32.toInt_zero]; omega)
  omega
theorem own_inb {j : Int32} {i n : Nat} {cl : Cell} (hj : j.toInt = i) (hi : i < n) (hs : cl.slots.size = n) : ¬ (j < 0 ∨ cl.slots.size ≤ j.toNatClampNeg) := by
  obtain ⟨h1, h2⟩ := own_idx hj
  rintro (q | q)
  · exact h1 q
  · rw [h2, hs] at q; omega
theorem own_ldF {a : Addr} {n i : Nat} {ty : FieldType} {f : Nat → Value} {j : Int32} {v : Value} (A : own_AF Z h a ty n f) (hj : j.toInt = i) (hi : i < n) (hv : f i = v) : ∃ cl : Cell, Arr Z h a cl ty ∧ ¬ (j < 0 ∨ cl.slots.size ≤ j.toNatClampNeg) ∧ cl.slots[j.toNatClampNeg]? = some v := by
  obtain ⟨b, cl, Ar, hs, hf⟩ := A
  exact ⟨cl, Ar, own_inb hj hi hs, by rw [(own_idx hj).2, hf i hi, hv]⟩
theorem own_ldI (X : Stand p l e R s m args below meth c T locs cells slots) (hx : p.tables.exec = Jvm.exec) (hZ : Z.Warmed39 s.vm) (eT : T.heap = h) {a : Addr} {n i : Nat} {f : Nat → Int32} {j x : Int32} (A : own_AI Z h a .int n f) (hj : j.toInt = i) (hi : i < n) (hv : f i = x) {g : JFrame} (hg : g.method = m) {rest : List Value} (hs : g.stack = .int j :: .ref a :: rest) (hd : decode c.code g.pc = .ok (.iaload, 1)) :
    ∀ target, Steps p.tables e below (T.setTop { g with pc := g.pc + 1, stack := .int x :: rest }) target → Steps p.tables e below (T.setTop g) target := by
  obtain ⟨cl, Ar, h1, h2⟩ := own_ldF A hj hi (by rw [hv])
  exact X.iaload hx (by rw [eT]; exact Ar.1) (State.isArrayOf_alike hZ.alike Ar.2.1) Ar.2.2 h1 h2 hg hs hd
theorem own_ldC (X : Stand p l e R s m args below meth c T locs cells slots) (hx : p.tables.exec = Jvm.exec) (hZ : Z.Warmed39 s.vm) (eT : T.heap = h) {a : Addr} {n i : Nat} {f : Nat → Int32} {j x : Int32} (A : own_AI Z h a .char n f) (hj : j.toInt = i) (hi : i < n) (hv : f i = x) {g : JFrame} (hg : g.method = m) {rest : List Value} (hs : g.stack = .int j :: .ref a :: rest) (hd : decode c.code g.pc = .ok (.caload, 1)) :
    ∀ target, Steps p.tables e below (T.setTop { g with pc := g.pc + 1, stack := .int x :: rest }) target → Steps p.tables e below (T.setTop g) target := by
  obtain ⟨cl, Ar, h1, h2⟩ := own_ldF A hj hi (by rw [hv])
  exact X.caload hx (by rw [eT]; exact Ar.1) (State.isArrayOf_alike hZ.alike Ar.2.1) Ar.2.2 h1 h2 hg hs hd
theorem own_ldB (X : Stand p l e R s m args below meth c T locs cells slots) (hx : p.tables.exec = Jvm.exec) (hZ : Z.Warmed39 s.vm) (eT : T.heap = h) {a : Addr} {n i : Nat} {f : Nat → Int32} {j x : Int32} (A : own_AI Z h a .byte n f) (hj : j.toInt = i) (hi : i < n) (hv : f i = x) {g : JFrame} (hg : g.method = m) {rest : List Value} (hs : g.stack = .int j :: .ref a :: rest) (hd : decode c.code g.pc = .ok (.baload, 1)) :
    ∀ target, Steps p.tables e below (T.setTop { g with pc := g.pc + 1, stack := .int x :: rest }) target → Steps p.tables e below (T.setTop g) target := by
  obtain ⟨cl, Ar, h1, h2⟩ := own_ldF A hj hi (by rw [hv])
  exact X.baloadBytes hx (by rw [eT]; exact Ar.1) (State.isArrayOf_alike hZ.alike Ar.2.1) Ar.2.2 h1 h2 hg hs hd
theorem own_ldZ (X : Stand p l e R s m args below meth c T locs cells slots) (hx : p.tables.exec = Jvm.exec) (hZ : Z.Warmed39 s.vm) (eT : T.heap = h) {a : Addr} {n i : Nat} {f : Nat → Int32} {j x : Int32} (A : own_AI Z h a .boolean n f) (hj : j.toInt = i) (hi : i < n) (hv : f i = x) {g : JFrame} (hg : g.method = m) {rest : List Value} (hs : g.stack = .int j :: .ref a :: rest) (hd : decode c.code g.pc = .ok (.baload, 1)) :
    ∀ target, Steps p.tables e below (T.setTop { g with pc := g.pc + 1, stack := .int x :: rest }) target → Steps p.tables e below (T.setTop g) target := by
  obtain ⟨cl, Ar, h1, h2⟩ := own_ldF A hj hi (by rw [hv])
  exact X.baloadBooleans hx (by rw [eT]; exact Ar.1) (State.isArrayOf_alike hZ.alike Ar.2.1) Ar.2.2 h1 h2 hg hs hd
theorem own_ldJ (X : Stand p l e R s m args below meth c T locs cells slots) (hx : p.tables.exec = Jvm.exec) (hZ : Z.Warmed39 s.vm) (eT : T.heap = h) {a : Addr} {n i : Nat} {f : Nat → Int64} {j : Int32} {x : Int64} (A : own_AL Z h a n f) (hj : j.toInt = i) (hi : i < n) (hv : f i = x) {g : JFrame} (hg : g.method = m) {rest : List Value} (hs : g.stack = .int j :: .ref a :: rest) (hd : decode c.code g.pc = .ok (.laload, 1)) :
    ∀ target, Steps p.tables e below (T.setTop { g with pc := g.pc + 1, stack := .long x :: rest }) target → Steps p.tables e below (T.setTop g) target := by
  obtain ⟨cl, Ar, h1, h2⟩ := own_ldF A hj hi (by rw [hv])
  exact X.laload hx (by rw [eT]; exact Ar.1) (State.isArrayOf_alike hZ.alike Ar.2.1) Ar.2.2 h1 h2 hg hs hd
theorem own_ldR (X : Stand p l e R s m args below meth c T locs cells slots) (hx : p.tables.exec = Jvm.exec) (hZ : Z.Warmed39 s.vm) (eT : T.heap = h) {a : Addr} {n i : Nat} {ty : FieldType} {f : Nat → Value} {j : Int32} {v : Value} (hty : ty.isReference = true) (A : own_AF Z h a ty n f) (hj : j.toInt = i) (hi : i < n) (hv : f i = v) {g : JFrame} (hg : g.method = m) {rest : List Value} (hs : g.stack = .int j :: .ref a :: rest) (hd : decode c.code g.pc = .ok (.aaload, 1)) :
    ∀ target, Steps p.tables e below (T.setTop { g with pc := g.pc + 1, stack := v :: rest }) target → Steps p.tables e below (T.setTop g) target := by
  obtain ⟨cl, Ar, h1, h2⟩ := own_ldF A hj hi hv
  exact X.aaload hx (by rw [eT]; exact Ar.1) (State.isArrayOf_alike hZ.alike Ar.2.1) hty Ar.2.2 h1 h2 hg hs hd
theorem own_len (X : Stand p l e R s m args below meth c T locs cells slots) (hx : p.tables.exec = Jvm.exec) (hZ : Z.Warmed39 s.vm) (eT : T.heap = h) {a : Addr} {n : Nat} {ty : FieldType} {f : Nat → Value} {z : Int32} (A : own_AF Z h a ty n f) (hz : z.toInt = n) {g : JFrame} (hg : g.method = m) {rest : List Value} (hs : g.stack = .ref a :: rest) (hd : decode c.code g.pc = .ok (.arraylength, 1)) :
    ∀ target, Steps p.tables e below (T.setTop { g with pc := g.pc + 1, stack := .int z :: rest }) target → Steps p.tables e below (T.setTop g) target := by
  obtain ⟨b, cl, Ar, hs', hf⟩ := A
  intro target k
  refine X.arraylength hx (by rw [eT]; exact Ar.1) (State.isArrayOf_alike hZ.alike Ar.2.1) hg hs hd target ?_
  have q : cl.slots.size.toInt32 = z := by
    apply Int32.toInt_inj.mp
    rw [hs', len_toInt (by omega), hz]
  rw [q]; exact k
theorem own_stI (X : Stand p l e R s m args below meth c T locs cells slots) (hx : p.tables.exec = Jvm.exec) (hZ : Z.Warmed39 s.vm) (eT : T.heap = h) {a : Addr} {n i : Nat} {f : Nat → Int32} {j x : Int32} (A : own_AI Z h a .int n f) (hj : j.toInt = i) (hi : i < n) {g : JFrame} (hg : g.method = m) {rest : List Value} (hs : g.stack = .int x :: .int j :: .ref a :: rest) (hd : decode c.code g.pc = .ok (.iastore, 1)) :
    ∃ T' h', Stand p l e R s m args below meth c T' (locs ++ [⟨a, i⟩]) cells slots ∧ T'.heap = h' ∧ Wr h h' a i (.int x) ∧ own_AI Z h' a .int n (own_upd f i x) ∧ ∀ target, Steps p.tables e below (T'.setTop { g with pc := g.pc + 1, stack := rest }) target → Steps p.tables e below (T.setTop g) target := by
  obtain ⟨cl, Ar, h1, -⟩ := own_ldF A hj hi rfl
  obtain ⟨T', h', X', e', W, st⟩ := stI X hx hZ eT Ar h1 hg hs hd
  rw [(own_idx hj).2] at X' W
  exact ⟨T', h', X', e', W, A.wr hi W, st⟩
theorem own_stB (X : Stand p l e R s m args below meth c T locs cells slots) (hx : p.tables.exec = Jvm.exec) (hZ : Z.Warmed39 s.vm) (eT : T.heap = h) {a : Addr} {n i : Nat} {f : Nat → Int32} {j x : Int32} (A : own_AI Z h a .byte n f) (hj : j.toInt = i) (hi : i < n) {g : JFrame} (hg : g.method = m) {rest : List Value} (hs : g.stack = .int x :: .int j :: .ref a :: rest) (hd : decode c.code g.pc = .ok (.bastore, 1)) :
    ∃ T' h', Stand p l e R s m args below meth c T' (locs ++ [⟨a, i⟩]) cells slots ∧ T'.heap = h' ∧ Wr h h' a i (.int (x.toInt8.toInt32)) ∧ own_AI Z h' a .byte n (own_upd f i (x.toInt8.toInt32)) ∧ ∀ target, Steps p.tables e below (T'.setTop { g with pc := g.pc + 1, stack := rest }) target → Steps p.tables e below (T.setTop g) target := by
  obtain ⟨cl, Ar, h1, -⟩ := own_ldF A hj hi rfl
  obtain ⟨T', h', X', e', W, st⟩ := stB X hx hZ eT Ar h1 hg hs hd
  rw [(own_idx hj).2] at X' W
  exact ⟨T', h', X', e', W, A.wr hi W, st⟩
theorem own_stZ (X : Stand p l e R s m args below meth c T locs cells slots) (hx : p.tables.exec = Jvm.exec) (hZ : Z.Warmed39 s.vm) (eT : T.heap = h) {a : Addr} {n i : Nat} {f : Nat → Int32} {j x : Int32} (A : own_AI Z h a .boolean n f) (hj : j.toInt = i) (hi : i < n) {g : JFrame} (hg : g.method = m) {rest : List Value} (hs : g.stack = .int x :: .int j :: .ref a :: rest) (hd : decode c.code g.pc = .ok (.bastore, 1)) :
    ∃ T' h', Stand p l e R s m args below meth c T' (locs ++ [⟨a, i⟩]) cells slots ∧ T'.heap = h' ∧ Wr h h' a i (.int (x &&& 1)) ∧ own_AI Z h' a .boolean n (own_upd f i (x &&& 1)) ∧ ∀ target, Steps p.tables e below (T'.setTop { g with pc := g.pc + 1, stack := rest }) target → Steps p.tables e below (T.setTop g) target := by
  obtain ⟨cl, Ar, h1, -⟩ := own_ldF A hj hi rfl
  obtain ⟨T', h', X', e', W, st⟩ := stZ X hx hZ eT Ar h1 hg hs hd
  rw [(own_idx hj).2] at X' W
  exact ⟨T', h', X', e', W, A.wr hi W, st⟩
theorem own_stC (X : Stand p l e R s m args below meth c T locs cells slots) (hx : p.tables.exec = Jvm.exec) (hZ : Z.Warmed39 s.vm) (eT : T.heap = h) {a : Addr} {n i : Nat} {f : Nat → Int32} {j x : Int32} (A : own_AI Z h a .char n f) (hj : j.toInt = i) (hi : i < n) {g : JFrame} (hg : g.method = m) {rest : List Value} (hs : g.stack = .int x :: .int j :: .ref a :: rest) (hd : decode c.code g.pc = .ok (.castore, 1)) :
    ∃ T' h', Stand p l e R s m args below meth c T' (locs ++ [⟨a, i⟩]) cells slots ∧ T'.heap = h' ∧ Wr h h' a i (.int (x.toUInt32.toUInt16.toUInt32.toInt32)) ∧ own_AI Z h' a .char n (own_upd f i (x.toUInt32.toUInt16.toUInt32.toInt32)) ∧ ∀ target, Steps p.tables e below (T'.setTop { g with pc := g.pc + 1, stack := rest }) target → Steps p.tables e below (T.setTop g) target := by
  obtain ⟨cl, Ar, h1, -⟩ := own_ldF A hj hi rfl
  obtain ⟨T', h', X', e', W, st⟩ := stC X hx hZ eT Ar h1 hg hs hd
  rw [(own_idx hj).2] at X' W
  exact ⟨T', h', X', e', W, A.wr hi W, st⟩
theorem own_stJ (X : Stand p l e R s m args below meth c T locs cells slots) (hx : p.tables.exec = Jvm.exec) (hZ : Z.Warmed39 s.vm) (eT : T.heap = h) {a : Addr} {n i : Nat} {f : Nat → Int64} {j : Int32} {x : Int64} (A : own_AL Z h a n f) (hj : j.toInt = i) (hi : i < n) {g : JFrame} (hg : g.method = m) {rest : List Value} (hs : g.stack = .long x :: .int j :: .ref a :: rest) (hd : decode c.code g.pc = .ok (.lastore, 1)) :
    ∃ T' h', Stand p l e R s m args below meth c T' (locs ++ [⟨a, i⟩]) cells slots ∧ T'.heap = h' ∧ Wr h h' a i (.long x) ∧ own_AL Z h' a n (own_upd f i x) ∧ ∀ target, Steps p.tables e below (T'.setTop { g with pc := g.pc + 1, stack := rest }) target → Steps p.tables e below (T.setTop g) target := by
  obtain ⟨cl, Ar, h1, -⟩ := own_ldF A hj hi rfl
  obtain ⟨T', h', X', e', W, st⟩ := stJ X hx hZ eT Ar h1 hg hs hd
  rw [(own_idx hj).2] at X' W
  exact ⟨T', h', X', e', W, A.wr hi W, st⟩
theorem own_newF {a : Addr} {cA : ClassId} {ty : FieldType} {n : Int32} {i : Nat} (hn : n.toInt = i) (A : Arr Z h a (newA cA ty n) ty) : own_AF Z h a ty i (fun _ => defaultValue ty) := by
  obtain ⟨h1, h2⟩ := own_idx hn
  have := n.toInt_lt
  refine ⟨by omega, _, A, by rw [sz_new, h2], fun j hj => ?_⟩
  simp [newA, h2, hj]
theorem own_newI {a : Addr} {cA : ClassId} {ty : FieldType} {n : Int32} {i : Nat} (hn : n.toInt = i) (A : Arr Z h a (newA cA ty n) ty) (hd : defaultValue ty = .int 0) : own_AI Z h a ty i (fun _ => 0) :=
  (own_newF hn A).congr fun _ _ => hd
theorem own_newL {a : Addr} {cA : ClassId} {n : Int32} {i : Nat} (hn : n.toInt = i) (A : Arr Z h a (newA cA .long n) .long) : own_AL Z h a i (fun _ => 0) :=
  (own_newF hn A).congr fun _ _ => rfl
theorem own_Sta.keep {C n d : String} {v : Value} {ws : List Addr} (F : Sta Z h C n d v) (K : Keep h h' ws) (q : ∀ x ∈ ws, ∀ cl : Cell, h[x]? = some cl → cl.vm.isStatics = false) : Sta Z h' C n d v := by
  obtain ⟨cf, i, k, f, st, cell, h1, h2, h3, h4, h5, h6, h7⟩ := F
  refine ⟨cf, i, k, f, st, cell, h1, h2, h3, h4, K.2.1 st cell h5 (fun q' => ?_), h6, h7⟩
  have := q st q' cell h5
  rw [h6] at this; cases this
theorem own_selP {args : Array Value} {C : String} {y y' : MethodName} (hcls : y'.cls = y.cls) (hs : (Jvm.Cond.selects C y' y').before args s = true) (hi' : (Jvm.Cond.instanceMethod y').before args s = true) (hp : (Jvm.Cond.privateMethod y).before args s = true) (hi : (Jvm.Cond.instanceMethod y).before args s = true) (hy : y.cls ≠ "java/lang/invoke/MethodHandle" ∧ y.cls ≠ "java/lang/invoke/VarHandle") : (Jvm.Cond.selects y.cls y y).before args s = true := by
  obtain ⟨mk, methM, hnamed, -⟩ := Cond.instanceMethod_spec hi'
  obtain ⟨kr, hk, hni⟩ := notFace_of_selects hs mk hnamed
  have hc := findClass_of_methodNamed hnamed
  rw [hcls] at hc
  exact selects_self_of_private hc hk hni (Cond.privateMethod_at hp) hi hy
end Own
theorem d2_0 : decode jdk_30_method_1_code 0 = .ok (.aload_n 0, 1) := by decide +kernel
theorem d2_1 : decode jdk_30_method_1_code 1 = .ok (.invokespecial 1, 3) := by decide +kernel
theorem d2_4 : decode jdk_30_method_1_code 4 = .ok (.return_, 1) := by decide +kernel
theorem pn_2 : plainName "java/lang/Record" = true := by first | (simp [plainName, overriddenIn]; done) | decide +kernel
theorem ef_2 (m : MethodId) (x0 : Addr) : entryFrame m #[(.ref x0)] 1 = mkF m 0 #[.val (.ref x0)] [] := by first | (simp [entryFrame, mkF, argsToLocals, Value.category]; done) | rfl
def Q2 (Z : State) (a : Addr) (h0 : Heap) (n0 : Nat) (rv_ : Option Value) (h : Heap) (LL_ : List Loc) : Prop := rv_ = none ∧ Fr n0 LL_ ∧ h = h0
set_option maxRecDepth 65536 in
set_option maxHeartbeats 40000000 in
theorem rm2 (l : Launch) (Z : State) (a0 : Array Value) (hw : ∀ d ∈ tables_1, d.before a0 Z = true) (ws : List Jvm.Cond) (a : Addr) (h0 : Heap) (n0 : Nat) :
    MetFree l (⟨"java/lang/Record", "<init>", "()V"⟩ : MethodName) (head1 (Jvm.Cond.code (⟨"java/lang/Record", "<init>", "()V"⟩ : MethodName) jdk_30_method_1_code 1 none :: ws) ({ frames := 1, cells := 0, slots := 0, locals := 12 } : Room)) (fun aa UU => aa = #[(.ref a)] ∧ Z.Warmed39 UU.vm ∧ UU.heap = h0) (fun _ _ _ _ _ => True) (fun _ UU oo UV => ∃ vv LL, oo = .returned vv ∧ Q2 Z a h0 n0 vv UV.heap LL ∧ FrameEnd UU oo UV LL ({ frames := 1, cells := 0, slots := 0, locals := 12 } : Room).cells ({ frames := 1, cells := 0, slots := 0, locals := 12 } : Room).slots) := by
  refine MetFree.of_bodySF (plainFor_of_name pn_2) hisR ?_
  intro p e s m args below meth c s₁ Bd hml0 hP hK
  obtain ⟨rfl, hZ, hh⟩ := hP
  have hx := Bd.exec
  have hby := Bd.bytes
  have hml : c.maxLocals = 1 := hml0
  have hown : s.vm.findClass "java/lang/Record" = some m.cls := findClass_of_methodNamed Bd.named
  have hnm := (name_of_methodNamed Bd.named Bd.method).1
  have X0 : Stand p l e ({ frames := 1, cells := 0, slots := 0, locals := 12 } : Room) s m #[(.ref a)] below meth c s₁ [] 0 0 := Stand.of_body Bd
  have e0 : s₁.heap = h0 := by rw [← hh, Bd.state]; rfl
  have N0 := Fr.nil n0
  have k0 : ∀ t, Steps p.tables e below (s₁.setTop (mkF m 0 #[.val (.ref a)] [])) t → Steps p.tables e below (s₁.setTop (entryFrame m #[(.ref a)] 1)) t := fun t k => castTop (ef_2 m a) k
  obtain ⟨T1, X1, e1, st1⟩ := initO X0 hx hZ hown (hw _ (List.mem_of_getElem? (i := 12) rfl)) (hw _ (List.mem_of_getElem? (i := 13) rfl)) (hw _ (List.mem_of_getElem? (i := 14) rfl)) e0 (g := (mkF m 1 #[.val (.ref a)] [(.ref a)])) rfl (by rw [hml]; rfl) rfl (hb hby d2_1) (by decide) (W := 0) (by show 2 * 0 + _ ≤ _; exact Nat.le_of_eq rfl) (by decide)
  have k2 : ∀ t, Steps p.tables e below (T1.setTop (mkF m 4 #[.val (.ref a)] [])) t → Steps p.tables e below (s₁.setTop (entryFrame m #[(.ref a)] 1)) t := by
    intro t kt
    refine k0 t ?_
    refine XS.aloadN X0.here hx rfl (hb hby d2_0) rfl rfl ?_
    show Steps p.tables e below (s₁.setTop (mkF m 1 #[.val (.ref a)] [(.ref a)])) _
    refine st1 _ ?_
    show Steps p.tables e below (T1.setTop (mkF m 4 #[.val (.ref a)] [])) _
    exact kt
  obtain ⟨fs, hr, hrun, hended, hW, hsame⟩ := X1.leave (v := none) (fun _ => rfl)
  refine ⟨_, _, k2 _ (X1.returnOut hx Bd.returns (hb hby d2_4) hr), hrun, hended, _, _, rfl, ?_, ⟨_, rfl⟩, hW, hsame.mono (by decide) (by decide)⟩
  show Q2 Z a h0 n0 _ T1.heap _
  rw [e1]
  exact ⟨rfl, N0, rfl⟩
theorem d4_0 : decode prog_56_method_2_code 0 = .ok (.iload_n 0, 1) := by decide +kernel
theorem d4_1 : decode prog_56_method_2_code 1 = .ok (.ifCond .lt 19, 3) := by decide +kernel
theorem d4_4 : decode prog_56_method_2_code 4 = .ok (.iload_n 1, 1) := by decide +kernel
theorem d4_5 : decode prog_56_method_2_code 5 = .ok (.iload_n 0, 1) := by decide +kernel
theorem d4_6 : decode prog_56_method_2_code 6 = .ok (.if_icmp .lt 14, 3) := by decide +kernel
theorem d4_9 : decode prog_56_method_2_code 9 = .ok (.iload_n 1, 1) := by decide +kernel
theorem d4_10 : decode prog_56_method_2_code 10 = .ok (.sipush 1440, 3) := by decide +kernel
theorem d4_13 : decode prog_56_method_2_code 13 = .ok (.if_icmp .ge 7, 3) := by decide +kernel
theorem d4_16 : decode prog_56_method_2_code 16 = .ok (.iconst 1, 1) := by decide +kernel
theorem d4_17 : decode prog_56_method_2_code 17 = .ok (.goto 4, 3) := by decide +kernel
theorem d4_20 : decode prog_56_method_2_code 20 = .ok (.iconst 0, 1) := by decide +kernel
theorem d4_21 : decode prog_56_method_2_code 21 = .ok (.ireturn, 1) := by decide +kernel
theorem pn_4 : plainName "com/example/tidegate/tidegate/model/OperatingDay" = true := by first | (simp [plainName, overriddenIn]; done) | decide +kernel
theorem ef_4 (m : MethodId) (x0 : Int32) (x1 : Int32) : entryFrame m #[(.int x0), (.int x1)] 2 = mkF m 0 #[.val (.int x0), .val (.int x1)] [] := by first | (simp [entryFrame, mkF, argsToLocals, Value.category]; done) | rfl
def own_isday (o : Int32) (cl : Int32) : Int32 := (if o < (0 : Int32) then (0 : Int32) else (if cl < o then (0 : Int32) else (if cl < (1440 : Int32) then (1 : Int32) else (0 : Int32))))
theorem own_eq_own_isday (o : Int32) (cl : Int32) : own_isday o cl = (if o < (0 : Int32) then (0 : Int32) else (if cl < o then (0 : Int32) else (if cl < (1440 : Int32) then (1 : Int32) else (0 : Int32)))) := rfl
def Q4 (Z : State) (o : Int32) (cl : Int32) (h0 : Heap) (n0 : Nat) (rv_ : Option Value) (h : Heap) (LL_ : List Loc) : Prop := rv_ = some (.int (own_isday o cl)) ∧ Fr n0 LL_ ∧ h = h0
set_option maxRecDepth 65536 in
set_option maxHeartbeats 40000000 in
theorem rm4 (l : Launch) (Z : State) (a0 : Array Value) (hw : ∀ d ∈ tables_1, d.before a0 Z = true) (ws : List Jvm.Cond) (o : Int32) (cl : Int32) (h0 : Heap) (n0 : Nat) :
    MetFree l (⟨"com/example/tidegate/tidegate/model/OperatingDay", "isDay", "(II)Z"⟩ : MethodName) (head1 (Jvm.Cond.code (⟨"com/example/tidegate/tidegate/model/OperatingDay", "isDay", "(II)Z"⟩ : MethodName) prog_56_method_2_code 2 (some .boolean) :: ws) ({ frames := 0, cells := 0, slots := 0, locals := 0 } : Room)) (fun aa UU => aa = #[(.int o), (.int cl)] ∧ Z.Warmed39 UU.vm ∧ UU.heap = h0) (fun _ _ _ _ _ => True) (fun _ UU oo UV => ∃ vv LL, oo = .returned vv ∧ Q4 Z o cl h0 n0 vv UV.heap LL ∧ FrameEnd UU oo UV LL ({ frames := 0, cells := 0, slots := 0, locals := 0 } : Room).cells ({ frames := 0, cells := 0, slots := 0, locals := 0 } : Room).slots) := by
  refine MetFree.of_bodySF (plainFor_of_name pn_4) hisR ?_
  intro p e s m args below meth c s₁ Bd hml0 hP hK
  obtain ⟨rfl, hZ, hh⟩ := hP
  have hx := Bd.exec
  have hby := Bd.bytes
  have hml : c.maxLocals = 2 := hml0
  have hown : s.vm.findClass "com/example/tidegate/tidegate/model/OperatingDay" = some m.cls := findClass_of_methodNamed Bd.named
  have hnm := (name_of_methodNamed Bd.named Bd.method).1
  have X0 : Stand p l e ({ frames := 0, cells := 0, slots := 0, locals := 0 } : Room) s m #[(.int o), (.int cl)] below meth c s₁ [] 0 0 := Stand.of_body Bd
  have e0 : s₁.heap = h0 := by rw [← hh, Bd.state]; rfl
  have N0 := Fr.nil n0
  have k0 : ∀ t, Steps p.tables e below (s₁.setTop (mkF m 0 #[.val (.int o), .val (.int cl)] [])) t → Steps p.tables e below (s₁.setTop (entryFrame m #[(.int o), (.int cl)] 2)) t := fun t k => castTop (ef_4 m o cl) k
  have k3 : ∀ t, Steps p.tables e below (s₁.setTop (mkF m 1 #[.val (.int o), .val (.int cl)] [(.int o)])) t → Steps p.tables e below (s₁.setTop (entryFrame m #[(.int o), (.int cl)] 2)) t := by
    intro t kt
    refine k0 t ?_
    refine XS.iloadN X0.here hx rfl (hb hby d4_0) rfl ?_
    show Steps p.tables e below (s₁.setTop (mkF m 1 #[.val (.int o), .val (.int cl)] [(.int o)])) _
    exact kt
  by_cases hc1_4 : o < (0 : Int32)
  · have k5 : ∀ t, Steps p.tables e below (s₁.setTop (mkF m 21 #[.val (.int o), .val (.int cl)] [(.int (0 : Int32))])) t → Steps p.tables e below (s₁.setTop (entryFrame m #[(.int o), (.int cl)] 2)) t := by
      intro t kt
      refine k3 t ?_
      refine XS.ifYes X0.here hx rfl (pc0 := 1) (pc' := 20) rfl (hb hby d4_1) rfl ((if0 _ _).trans (tlt hc1_4).1) (by decide) (by decide) ?_
      show Steps p.tables e below (s₁.setTop (mkF m 20 #[.val (.int o), .val (.int cl)] [])) _
      refine XS.iconst X0.here hx rfl (hb hby d4_20) ?_
      show Steps p.tables e below (s₁.setTop (mkF m 21 #[.val (.int o), .val (.int cl)] [(.int (0 : Int32))])) _
      exact kt
    obtain ⟨fs, hr, hrun, hended, hW, hsame⟩ := X0.leave (v := some (.int (0 : Int32))) (fun h => by rw [Bd.returns] at h; cases h)
    refine ⟨_, _, k5 _ (retN X0 hx (t := .boolean) Bd.returns (by simp) (hb hby d4_21) hr), hrun, hended, _, _, rfl, ?_, ⟨_, rfl⟩, hW, hsame.mono (by decide) (by decide)⟩
    show Q4 Z o cl h0 n0 _ s₁.heap _
    rw [e0]
    exact ⟨(by rw [own_eq_own_isday]; rw [if_pos hc1_4]), N0, rfl⟩
  · have k6 : ∀ t, Steps p.tables e below (s₁.setTop (mkF m 6 #[.val (.int o), .val (.int cl)] [(.int o), (.int cl)])) t → Steps p.tables e below (s₁.setTop (entryFrame m #[(.int o), (.int cl)] 2)) t := by
      intro t kt
      refine k3 t ?_
      refine XS.ifNo X0.here hx rfl (hb hby d4_1) rfl ((if0 _ _).trans (flt hc1_4).1) ?_
      show Steps p.tables e below (s₁.setTop (mkF m 4 #[.val (.int o), .val (.int cl)] [])) _
      refine XS.iloadN X0.here hx rfl (hb hby d4_4) rfl ?_
      show Steps p.tables e below (s₁.setTop (mkF m 5 #[.val (.int o), .val (.int cl)] [(.int cl)])) _
      refine XS.iloadN X0.here hx rfl (hb hby d4_5) rfl ?_
      show Steps p.tables e below (s₁.setTop (mkF m 6 #[.val (.int o), .val (.int cl)] [(.int o), (.int cl)])) _
      exact kt
    by_cases hc6_7 : cl < o
    · have k8 : ∀ t, Steps p.tables e below (s₁.setTop (mkF m 21 #[.val (.int o), .val (.int cl)] [(.int (0 : Int32))])) t → Steps p.tables e below (s₁.setTop (entryFrame m #[(.int o), (.int cl)] 2)) t := by
        intro t kt
        refine k6 t ?_
        refine XS.icmpYes X0.here hx rfl (pc0 := 6) (pc' := 20) rfl (hb hby d4_6) rfl (tlt hc6_7).1 (by decide) (by decide) ?_
        show Steps p.tables e below (s₁.setTop (mkF m 20 #[.val (.int o), .val (.int cl)] [])) _
        refine XS.iconst X0.here hx rfl (hb hby d4_20) ?_
        show Steps p.tables e below (s₁.setTop (mkF m 21 #[.val (.int o), .val (.int cl)] [(.int (0 : Int32))])) _
        exact kt
      obtain ⟨fs, hr, hrun, hended, hW, hsame⟩ := X0.leave (v := some (.int (0 : Int32))) (fun h => by rw [Bd.returns] at h; cases h)
      refine ⟨_, _, k8 _ (retN X0 hx (t := .boolean) Bd.returns (by simp) (hb hby d4_21) hr), hrun, hended, _, _, rfl, ?_, ⟨_, rfl⟩, hW, hsame.mono (by decide) (by decide)⟩
      show Q4 Z o cl h0 n0 _ s₁.heap _
      rw [e0]
      exact ⟨(by rw [own_eq_own_isday]; rw [if_neg hc1_4, if_pos hc6_7]), N0, rfl⟩
    · have k9 : ∀ t, Steps p.tables e below (s₁.setTop (mkF m 13 #[.val (.int o), .val (.int cl)] [(.int (1440 : Int32)), (.int cl)])) t → Steps p.tables e below (s₁.setTop (entryFrame m #[(.int o), (.int cl)] 2)) t := by
        intro t kt
        refine k6 t ?_
        refine XS.icmpNo X0.here hx rfl (hb hby d4_6) rfl (flt hc6_7).1 ?_
        show Steps p.tables e below (s₁.setTop (mkF m 9 #[.val (.int o), .val (.int cl)] [])) _
        refine XS.iloadN X0.here hx rfl (hb hby d4_9) rfl ?_
        show Steps p.tables e below (s₁.setTop (mkF m 10 #[.val (.int o), .val (.int cl)] [(.int cl)])) _
        refine XS.sipush X0.here hx rfl (hb hby d4_10) ?_
        show Steps p.tables e below (s₁.setTop (mkF m 13 #[.val (.int o), .val (.int cl)] [(.int (1440 : Int32)), (.int cl)])) _
        exact kt
      by_cases hc13_10 : cl < (1440 : Int32)
      · have k11 : ∀ t, Steps p.tables e below (s₁.setTop (mkF m 21 #[.val (.int o), .val (.int cl)] [(.int (1 : Int32))])) t → Steps p.tables e below (s₁.setTop (entryFrame m #[(.int o), (.int cl)] 2)) t := by
          intro t kt
          refine k9 t ?_
          refine XS.icmpNo X0.here hx rfl (hb hby d4_13) rfl (tlt hc13_10).2.1 ?_
          show Steps p.tables e below (s₁.setTop (mkF m 16 #[.val (.int o), .val (.int cl)] [])) _
          refine XS.iconst X0.here hx rfl (hb hby d4_16) ?_
          show Steps p.tables e below (s₁.setTop (mkF m 17 #[.val (.int o), .val (.int cl)] [(.int (1 : Int32))])) _
          refine XS.goto X0.here hx rfl (pc0 := 17) (pc' := 21) rfl (hb hby d4_17) (by decide) (by decide) ?_
          show Steps p.tables e below (s₁.setTop (mkF m 21 #[.val (.int o), .val (.int cl)] [(.int (1 : Int32))])) _
          exact kt
        obtain ⟨fs, hr, hrun, hended, hW, hsame⟩ := X0.leave (v := some (.int (1 : Int32))) (fun h => by rw [Bd.returns] at h; cases h)
        refine ⟨_, _, k11 _ (retN X0 hx (t := .boolean) Bd.returns (by simp) (hb hby d4_21) hr), hrun, hended, _, _, rfl, ?_, ⟨_, rfl⟩, hW, hsame.mono (by decide) (by decide)⟩
        show Q4 Z o cl h0 n0 _ s₁.heap _
        rw [e0]
        exact ⟨(by rw [own_eq_own_isday]; rw [if_neg hc1_4, if_neg hc6_7, if_pos hc13_10]), N0, rfl⟩
      · have k12 : ∀ t, Steps p.tables e below (s₁.setTop (mkF m 21 #[.val (.int o), .val (.int cl)] [(.int (0 : Int32))])) t → Steps p.tables e below (s₁.setTop (entryFrame m #[(.int o), (.int cl)] 2)) t := by
          intro t kt
          refine k9 t ?_
          refine XS.icmpYes X0.here hx rfl (pc0 := 13) (pc' := 20) rfl (hb hby d4_13) rfl (flt hc13_10).2.1 (by decide) (by decide) ?_
          show Steps p.tables e below (s₁.setTop (mkF m 20 #[.val (.int o), .val (.int cl)] [])) _
          refine XS.iconst X0.here hx rfl (hb hby d4_20) ?_
          show Steps p.tables e below (s₁.setTop (mkF m 21 #[.val (.int o), .val (.int cl)] [(.int (0 : Int32))])) _
          exact kt
        obtain ⟨fs, hr, hrun, hended, hW, hsame⟩ := X0.leave (v := some (.int (0 : Int32))) (fun h => by rw [Bd.returns] at h; cases h)
        refine ⟨_, _, k12 _ (retN X0 hx (t := .boolean) Bd.returns (by simp) (hb hby d4_21) hr), hrun, hended, _, _, rfl, ?_, ⟨_, rfl⟩, hW, hsame.mono (by decide) (by decide)⟩
        show Q4 Z o cl h0 n0 _ s₁.heap _
        rw [e0]
        exact ⟨(by rw [own_eq_own_isday]; rw [if_neg hc1_4, if_neg hc6_7, if_neg hc13_10]), N0, rfl⟩
theorem pd_1 : parseMethodDescriptor "()V" = some ⟨[], none⟩ := by decide +kernel
theorem pd_2 : parseMethodDescriptor "(II)Z" = some ⟨[.int, .int], some .boolean⟩ := by decide +kernel
theorem d1_0 : decode prog_56_method_1_code 0 = .ok (.aload_n 0, 1) := by decide +kernel
theorem d1_1 : decode prog_56_method_1_code 1 = .ok (.invokespecial 1, 3) := by decide +kernel
theorem d1_4 : decode prog_56_method_1_code 4 = .ok (.iload_n 1, 1) := by decide +kernel
theorem d1_5 : decode prog_56_method_1_code 5 = .ok (.iload_n 2, 1) := by decide +kernel
theorem d1_6 : decode prog_56_method_1_code 6 = .ok (.invokestatic 7, 3) := by decide +kernel
theorem d1_9 : decode prog_56_method_1_code 9 = .ok (.ifCond .ne 18, 3) := by decide +kernel
theorem d1_27 : decode prog_56_method_1_code 27 = .ok (.aload_n 0, 1) := by decide +kernel
theorem d1_28 : decode prog_56_method_1_code 28 = .ok (.iload_n 1, 1) := by decide +kernel
theorem d1_29 : decode prog_56_method_1_code 29 = .ok (.putfield 22, 3) := by decide +kernel
theorem d1_32 : decode prog_56_method_1_code 32 = .ok (.aload_n 0, 1) := by decide +kernel
theorem d1_33 : decode prog_56_method_1_code 33 = .ok (.iload_n 2, 1) := by decide +kernel
theorem d1_34 : decode prog_56_method_1_code 34 = .ok (.putfield 26, 3) := by decide +kernel
theorem d1_37 : decode prog_56_method_1_code 37 = .ok (.return_, 1) := by decide +kernel
theorem pn_1 : plainName "com/example/tidegate/tidegate/model/OperatingDay" = true := by first | (simp [plainName, overriddenIn]; done) | decide +kernel
theorem ef_1 (m : MethodId) (x0 : Addr) (x1 : Int32) (x2 : Int32) : entryFrame m #[(.ref x0), (.int x1), (.int x2)] 3 = mkF m 0 #[.val (.ref x0), .val (.int x1), .val (.int x2)] [] := by first | (simp [entryFrame, mkF, argsToLocals, Value.category]; done) | rfl
def Q1 (Z : State) (a : Addr) (o : Int32) (cl : Int32) (h0 : Heap) (n0 : Nat) (rv_ : Option Value) (h : Heap) (LL_ : List Loc) : Prop := rv_ = none ∧ Fr n0 LL_ ∧ Keep h0 h [a] ∧ Fld Z h a "com/example/tidegate/tidegate/model/OperatingDay" "open" "I" (.int o) ∧ Fld Z h a "com/example/tidegate/tidegate/model/OperatingDay" "close" "I" (.int cl)
set_option maxRecDepth 65536 in
set_option maxHeartbeats 40000000 in
theorem rm1 (l : Launch) (Z : State) (a0 : Array Value) (hw : ∀ d ∈ tables_1, d.before a0 Z = true) (ws : List Jvm.Cond) (a : Addr) (o : Int32) (cl : Int32) (h0 : Heap) (n0 : Nat) (Z0 : n0 ≤ h0.size) (E_a : Exa Z h0 a "com/example/tidegate/tidegate/model/OperatingDay") (F_a_open : Fld Z h0 a "com/example/tidegate/tidegate/model/OperatingDay" "open" "I" (.int (0 : Int32))) (F_a_close : Fld Z h0 a "com/example/tidegate/tidegate/model/OperatingDay" "close" "I" (.int (0 : Int32))) (g_a : n0 ≤ a) (hday : ¬ (own_isday o cl) = (0 : Int32)) :
    MetFree l (⟨"com/example/tidegate/tidegate/model/OperatingDay", "<init>", "(II)V"⟩ : MethodName) (head1 (Jvm.Cond.code (⟨"com/example/tidegate/tidegate/model/OperatingDay", "<init>", "(II)V"⟩ : MethodName) prog_56_method_1_code 3 none :: ws) ({ frames := 2, cells := 0, slots := 0, locals := 24 } : Room)) (fun aa UU => aa = #[(.ref a), (.int o), (.int cl)] ∧ Z.Warmed39 UU.vm ∧ UU.heap = h0) (fun _ _ _ _ _ => True) (fun _ UU oo UV => ∃ vv LL, oo = .returned vv ∧ Q1 Z a o cl h0 n0 vv UV.heap LL ∧ FrameEnd UU oo UV LL ({ frames := 2, cells := 0, slots := 0, locals := 24 } : Room).cells ({ frames := 2, cells := 0, slots := 0, locals := 24 } : Room).slots) := by
  refine MetFree.of_bodySF (plainFor_of_name pn_1) hisR ?_
  intro p e s m args below meth c s₁ Bd hml0 hP hK
  obtain ⟨rfl, hZ, hh⟩ := hP
  have hx := Bd.exec
  have hby := Bd.bytes
  have hml : c.maxLocals = 3 := hml0
  have hown : s.vm.findClass "com/example/tidegate/tidegate/model/OperatingDay" = some m.cls := findClass_of_methodNamed Bd.named
  have hnm := (name_of_methodNamed Bd.named Bd.method).1
  have X0 : Stand p l e ({ frames := 2, cells := 0, slots := 0, locals := 24 } : Room) s m #[(.ref a), (.int o), (.int cl)] below meth c s₁ [] 0 0 := Stand.of_body Bd
  have e0 : s₁.heap = h0 := by rw [← hh, Bd.state]; rfl
  have N0 := Fr.nil n0
  have k0 : ∀ t, Steps p.tables e below (s₁.setTop (mkF m 0 #[.val (.ref a), .val (.int o), .val (.int cl)] [])) t → Steps p.tables e below (s₁.setTop (entryFrame m #[(.ref a), (.int o), (.int cl)] 3)) t := fun t k => castTop (ef_1 m a o cl) k
  obtain ⟨_, _, ⟨T13, L13, kc13, nc13⟩, -, X13, ⟨Lc13, hQ13, l13, y13, z13⟩, st13⟩ := X0.specialBack hx (y := (⟨"java/lang/Record", "<init>", "()V"⟩ : MethodName)) rfl hown (mvT hZ (hw _ (List.mem_of_getElem? (i := 7) rfl))) (mvT hZ (hw _ (List.mem_of_getElem? (i := 8) rfl))) (mvT hZ (hw _ (List.mem_of_getElem? (i := 11) rfl))) (by decide) (backOf (W := 0) (rm2 l Z a0 hw [] a h0 n0 ) hZ (hw _ (List.mem_of_getElem? (i := 11) rfl)) (hw _ (List.mem_of_getElem? (i := 10) rfl)) (by decide) (by decide)) (g := (mkF m 1 #[.val (.ref a), .val (.int o), .val (.int cl)] [(.ref a)])) rfl (by rw [hml]; rfl) (Steps.refl _) (a := a) (argsL := []) (rest := []) (lenOf pd_1 rfl) rfl (by show 2 * 0 + _ ≤ _; exact Nat.le_of_eq rfl) (hb hby d1_1) (fun _ _ => ⟨rfl, e0, (by decide : 0 + 0 ≤ _), (by decide : 0 + 0 ≤ _)⟩)
  dsimp only [Pt.U, Pt.locs, Pt.cells, Pt.slots] at X13 l13 y13 z13 st13 hQ13
  subst l13 y13 z13
  obtain ⟨rfl, Nq13, eq13⟩ := hQ13
  have N13 := Fr.app N0 Nq13
  obtain ⟨_, _, ⟨T14, L14, kc14, nc14⟩, -, X14, ⟨Lc14, hQ14, l14, y14, z14⟩, st14⟩ := Jvm.LawKit.callS X13 hx (y := (⟨"com/example/tidegate/tidegate/model/OperatingDay", "isDay", "(II)Z"⟩ : MethodName)) hown (mvT hZ (hw _ (List.mem_of_getElem? (i := 15) rfl))) (mvT hZ (hw _ (List.mem_of_getElem? (i := 16) rfl))) (mvT hZ (hw _ (List.mem_of_getElem? (i := 3) rfl))) (mvT hZ (hw _ (List.mem_of_getElem? (i := 17) rfl))) (by decide) (backOf (W := 0) (rm4 l Z a0 hw [] o cl h0 n0 ) hZ (hw _ (List.mem_of_getElem? (i := 17) rfl)) (hw _ (List.mem_of_getElem? (i := 3) rfl)) (by decide) (by decide)) (g := (mkF m 6 #[.val (.ref a), .val (.int o), .val (.int cl)] [(.int cl), (.int o)])) rfl (by rw [hml]; rfl) (argsL := [(.int o), (.int cl)]) (rest := []) (lenOf pd_2 rfl) rfl (by show 2 * 0 + _ ≤ _; exact Nat.le_of_eq rfl) (hb hby d1_6) (fun _ _ => ⟨rfl, eq13, (by decide : 0 + 0 ≤ _), (by decide : 0 + 0 ≤ _)⟩)
  dsimp only [Pt.U, Pt.locs, Pt.cells, Pt.slots] at X14 l14 y14 z14 st14 hQ14
  subst l14 y14 z14
  obtain ⟨rfl, Nq14, eq14⟩ := hQ14
  have N14 := Fr.app N13 Nq14
  have hc9_15 : ¬ ((own_isday o cl) = (0 : Int32)) := hday
  obtain ⟨T16, h16, X16, e16, W16, st16⟩ := putF X14 hx hZ hown (host := "") (Or.inl (hw _ (List.mem_of_getElem? (i := 18) rfl))) Via.refl eq14 F_a_open E_a (Or.inr ⟨(hw _ (List.mem_of_getElem? (i := 19) rfl)), rfl, hnm⟩) (hw _ (List.mem_of_getElem? (i := 2) rfl)) (ty := .int) (by decide) rfl rfl (g := (mkF m 29 #[.val (.ref a), .val (.int o), .val (.int cl)] [(.int o), (.ref a)])) rfl rfl (hb hby d1_29)
  have N16 := Fr.snoc X16 N14 g_a
  have F16 := Fld.same W16 F_a_open
  have f17 := (Fld.other W16 F_a_close (Or.inr (slot_ne (Or.inr (hw _ (List.mem_of_getElem? (i := 21) rfl))) (Or.inr (hw _ (List.mem_of_getElem? (i := 19) rfl))) (by decide) (t := .int) (t' := .int) (by decide) (by decide))))
  have f18 := (E_a.keep (Keep.of_wr W16))
  obtain ⟨T19, h19, X19, e19, W19, st19⟩ := putF X16 hx hZ hown (host := "") (Or.inl (hw _ (List.mem_of_getElem? (i := 20) rfl))) Via.refl e16 f17 f18 (Or.inr ⟨(hw _ (List.mem_of_getElem? (i := 21) rfl)), rfl, hnm⟩) (hw _ (List.mem_of_getElem? (i := 2) rfl)) (ty := .int) (by decide) rfl rfl (g := (mkF m 34 #[.val (.ref a), .val (.int o), .val (.int cl)] [(.int cl), (.ref a)])) rfl rfl (hb hby d1_34)
  have N19 := Fr.snoc X19 N16 g_a
  have F19 := Fld.same W19 f17
  have k20 : ∀ t, Steps p.tables e below (T19.setTop (mkF m 37 #[.val (.ref a), .val (.int o), .val (.int cl)] [])) t → Steps p.tables e below (s₁.setTop (entryFrame m #[(.ref a), (.int o), (.int cl)] 3)) t := by
    intro t kt
    refine k0 t ?_
    refine XS.aloadN X0.here hx rfl (hb hby d1_0) rfl rfl ?_
    show Steps p.tables e below (s₁.setTop (mkF m 1 #[.val (.ref a), .val (.int o), .val (.int cl)] [(.ref a)])) _
    refine st13.trans ?_
    show Steps p.tables e below (T13.setTop (mkF m 4 #[.val (.ref a), .val (.int o), .val (.int cl)] [])) _
    refine XS.iloadN X13.here hx rfl (hb hby d1_4) rfl ?_
    show Steps p.tables e below (T13.setTop (mkF m 5 #[.val (.ref a), .val (.int o), .val (.int cl)] [(.int o)])) _
    refine XS.iloadN X13.here hx rfl (hb hby d1_5) rfl ?_
    show Steps p.tables e below (T13.setTop (mkF m 6 #[.val (.ref a), .val (.int o), .val (.int cl)] [(.int cl), (.int o)])) _
    refine st14 _ ?_
    show Steps p.tables e below (T14.setTop (mkF m 9 #[.val (.ref a), .val (.int o), .val (.int cl)] [(.int (own_isday o cl))])) _
    refine XS.ifYes X14.here hx rfl (pc0 := 9) (pc' := 27) rfl (hb hby d1_9) rfl ((if0 _ _).trans (feq hc9_15).2) (by decide) (by decide) ?_
    show Steps p.tables e below (T14.setTop (mkF m 27 #[.val (.ref a), .val (.int o), .val (.int cl)] [])) _
    refine XS.aloadN X14.here hx rfl (hb hby d1_27) rfl rfl ?_
    show Steps p.tables e below (T14.setTop (mkF m 28 #[.val (.ref a), .val (.int o), .val (.int cl)] [(.ref a)])) _
    refine XS.iloadN X14.here hx rfl (hb hby d1_28) rfl ?_
    show Steps p.tables e below (T14.setTop (mkF m 29 #[.val (.ref a), .val (.int o), .val (.int cl)] [(.int o), (.ref a)])) _
    refine st16 _ ?_
    show Steps p.tables e below (T16.setTop (mkF m 32 #[.val (.ref a), .val (.int o), .val (.int cl)] [])) _
    refine XS.aloadN X16.here hx rfl (hb hby d1_32) rfl rfl ?_
    show Steps p.tables e below (T16.setTop (mkF m 33 #[.val (.ref a), .val (.int o), .val (.int cl)] [(.ref a)])) _
    refine XS.iloadN X16.here hx rfl (hb hby d1_33) rfl ?_
    show Steps p.tables e below (T16.setTop (mkF m 34 #[.val (.ref a), .val (.int o), .val (.int cl)] [(.int cl), (.ref a)])) _
    refine st19 _ ?_
    show Steps p.tables e below (T19.setTop (mkF m 37 #[.val (.ref a), .val (.int o), .val (.int cl)] [])) _
    exact kt
  have f21 := (((Keep.refl h0 [a]).trans (Keep.of_wr W16) (allS (Or.inl (List.mem_of_getElem? (i := 0) rfl)) all0)).trans (Keep.of_wr W19) (allS (Or.inl (List.mem_of_getElem? (i := 0) rfl)) all0))
  have f22 := (Fld.other W19 F16 (Or.inr (slot_ne (Or.inr (hw _ (List.mem_of_getElem? (i := 19) rfl))) (Or.inr (hw _ (List.mem_of_getElem? (i := 21) rfl))) (by decide) (t := .int) (t' := .int) (by decide) (by decide))))
  obtain ⟨fs, hr, hrun, hended, hW, hsame⟩ := X19.leave (v := none) (fun _ => rfl)
  refine ⟨_, _, k20 _ (X19.returnOut hx Bd.returns (hb hby d1_37) hr), hrun, hended, _, _, rfl, ?_, ⟨_, rfl⟩, hW, hsame.mono (by decide) (by decide)⟩
  show Q1 Z a o cl h0 n0 _ T19.heap _
  rw [e19]
  exact ⟨rfl, N19, f21, f22, F19⟩
theorem d5_0 : decode prog_56_method_7_code 0 = .ok (.iload_n 1, 1) := by decide +kernel
theorem d5_1 : decode prog_56_method_7_code 1 = .ok (.aload_n 0, 1) := by decide +kernel
theorem d5_2 : decode prog_56_method_7_code 2 = .ok (.getfield 22, 3) := by decide +kernel
theorem d5_5 : decode prog_56_method_7_code 5 = .ok (.if_icmp .lt 15, 3) := by decide +kernel
theorem d5_8 : decode prog_56_method_7_code 8 = .ok (.iload_n 1, 1) := by decide +kernel
theorem d5_9 : decode prog_56_method_7_code 9 = .ok (.aload_n 0, 1) := by decide +kernel
theorem d5_10 : decode prog_56_method_7_code 10 = .ok (.getfield 26, 3) := by decide +kernel
theorem d5_13 : decode prog_56_method_7_code 13 = .ok (.if_icmp .gt 7, 3) := by decide +kernel
theorem d5_16 : decode prog_56_method_7_code 16 = .ok (.iconst 1, 1) := by decide +kernel
theorem d5_17 : decode prog_56_method_7_code 17 = .ok (.goto 4, 3) := by decide +kernel
theorem d5_20 : decode prog_56_method_7_code 20 = .ok (.iconst 0, 1) := by decide +kernel
theorem d5_21 : decode prog_56_method_7_code 21 = .ok (.ireturn, 1) := by decide +kernel
theorem pn_5 : plainName "com/example/tidegate/tidegate/model/OperatingDay" = true := by first | (simp [plainName, overriddenIn]; done) | decide +kernel
theorem ef_5 (m : MethodId) (x0 : Addr) (x1 : Int32) : entryFrame m #[(.ref x0), (.int x1)] 2 = mkF m 0 #[.val (.ref x0), .val (.int x1)] [] := by first | (simp [entryFrame, mkF, argsToLocals, Value.category]; done) | rfl
def own_cm (mi : Int32) (o : Int32) (cl : Int32) : Int32 := (if mi < o then (0 : Int32) else (if cl < mi then (0 : Int32) else (1 : Int32)))
theorem own_eq_own_cm (mi : Int32) (o : Int32) (cl : Int32) : own_cm mi o cl = (if mi < o then (0 : Int32) else (if cl < mi then (0 : Int32) else (1 : Int32))) := rfl
def Q5 (Z : State) (a : Addr) (mi : Int32) (o : Int32) (cl : Int32) (h0 : Heap) (n0 : Nat) (rv_ : Option Value) (h : Heap) (LL_ : List Loc) : Prop := rv_ = some (.int (own_cm mi o cl)) ∧ Fr n0 LL_ ∧ h = h0
set_option maxRecDepth 65536 in
set_option maxHeartbeats 40000000 in
theorem rm5 (l : Launch) (Z : State) (a0 : Array Value) (hw : ∀ d ∈ tables_1, d.before a0 Z = true) (ws : List Jvm.Cond) (a : Addr) (mi : Int32) (o : Int32) (cl : Int32) (h0 : Heap) (n0 : Nat) (F_a_open : Fld Z h0 a "com/example/tidegate/tidegate/model/OperatingDay" "open" "I" (.int o)) (F_a_close : Fld Z h0 a "com/example/tidegate/tidegate/model/OperatingDay" "close" "I" (.int cl)) :
    MetFree l (⟨"com/example/tidegate/tidegate/model/OperatingDay", "containsMinute", "(I)Z"⟩ : MethodName) (head1 (Jvm.Cond.code (⟨"com/example/tidegate/tidegate/model/OperatingDay", "containsMinute", "(I)Z"⟩ : MethodName) prog_56_method_7_code 2 (some .boolean) :: ws) ({ frames := 0, cells := 0, slots := 0, locals := 0 } : Room)) (fun aa UU => aa = #[(.ref a), (.int mi)] ∧ Z.Warmed39 UU.vm ∧ UU.heap = h0) (fun _ _ _ _ _ => True) (fun _ UU oo UV => ∃ vv LL, oo = .returned vv ∧ Q5 Z a mi o cl h0 n0 vv UV.heap LL ∧ FrameEnd UU oo UV LL ({ frames := 0, cells := 0, slots := 0, locals := 0 } : Room).cells ({ frames := 0, cells := 0, slots := 0, locals := 0 } : Room).slots) := by
  refine MetFree.of_bodySF (plainFor_of_name pn_5) hisR ?_
  intro p e s m args below meth c s₁ Bd hml0 hP hK
  obtain ⟨rfl, hZ, hh⟩ := hP
  have hx := Bd.exec
  have hby := Bd.bytes
  have hml : c.maxLocals = 2 := hml0
  have hown : s.vm.findClass "com/example/tidegate/tidegate/model/OperatingDay" = some m.cls := findClass_of_methodNamed Bd.named
  have hnm := (name_of_methodNamed Bd.named Bd.method).1
  have X0 : Stand p l e ({ frames := 0, cells := 0, slots := 0, locals := 0 } : Room) s m #[(.ref a), (.int mi)] below meth c s₁ [] 0 0 := Stand.of_body Bd
  have e0 : s₁.heap = h0 := by rw [← hh, Bd.state]; rfl
  have N0 := Fr.nil n0
  have k0 : ∀ t, Steps p.tables e below (s₁.setTop (mkF m 0 #[.val (.ref a), .val (.int mi)] [])) t → Steps p.tables e below (s₁.setTop (entryFrame m #[(.ref a), (.int mi)] 2)) t := fun t k => castTop (ef_5 m a mi) k
  obtain ⟨T23, X23, e23, st23⟩ := getF X0 hx hZ hown (host := "") (Or.inl (hw _ (List.mem_of_getElem? (i := 18) rfl))) Via.refl e0 F_a_open (g := (mkF m 2 #[.val (.ref a), .val (.int mi)] [(.ref a), (.int mi)])) rfl rfl (hb hby d5_2)
  have k24 : ∀ t, Steps p.tables e below (T23.setTop (mkF m 5 #[.val (.ref a), .val (.int mi)] [(.int o), (.int mi)])) t → Steps p.tables e below (s₁.setTop (entryFrame m #[(.ref a), (.int mi)] 2)) t := by
    intro t kt
    refine k0 t ?_
    refine XS.iloadN X0.here hx rfl (hb hby d5_0) rfl ?_
    show Steps p.tables e below (s₁.setTop (mkF m 1 #[.val (.ref a), .val (.int mi)] [(.int mi)])) _
    refine XS.aloadN X0.here hx rfl (hb hby d5_1) rfl rfl ?_
    show Steps p.tables e below (s₁.setTop (mkF m 2 #[.val (.ref a), .val (.int mi)] [(.ref a), (.int mi)])) _
    refine st23 _ ?_
    show Steps p.tables e below (T23.setTop (mkF m 5 #[.val (.ref a), .val (.int mi)] [(.int o), (.int mi)])) _
    exact kt
  by_cases hc5_25 : mi < o
  · have k26 : ∀ t, Steps p.tables e below (T23.setTop (mkF m 21 #[.val (.ref a), .val (.int mi)] [(.int (0 : Int32))])) t → Steps p.tables e below (s₁.setTop (entryFrame m #[(.ref a), (.int mi)] 2)) t := by
      intro t kt
      refine k24 t ?_
      refine XS.icmpYes X23.here hx rfl (pc0 := 5) (pc' := 20) rfl (hb hby d5_5) rfl (tlt hc5_25).1 (by decide) (by decide) ?_
      show Steps p.tables e below (T23.setTop (mkF m 20 #[.val (.ref a), .val (.int mi)] [])) _
      refine XS.iconst X23.here hx rfl (hb hby d5_20) ?_
      show Steps p.tables e below (T23.setTop (mkF m 21 #[.val (.ref a), .val (.int mi)] [(.int (0 : Int32))])) _
      exact kt
    obtain ⟨fs, hr, hrun, hended, hW, hsame⟩ := X23.leave (v := some (.int (0 : Int32))) (fun h => by rw [Bd.returns] at h; cases h)
    refine ⟨_, _, k26 _ (retN X23 hx (t := .boolean) Bd.returns (by simp) (hb hby d5_21) hr), hrun, hended, _, _, rfl, ?_, ⟨_, rfl⟩, hW, hsame.mono (by decide) (by decide)⟩
    show Q5 Z a mi o cl h0 n0 _ T23.heap _
    rw [e23]
    exact ⟨(by rw [own_eq_own_cm]; rw [if_pos hc5_25]), N0, rfl⟩
  · obtain ⟨T27, X27, e27, st27⟩ := getF X23 hx hZ hown (host := "") (Or.inl (hw _ (List.mem_of_getElem? (i := 20) rfl))) Via.refl e23 F_a_close (g := (mkF m 10 #[.val (.ref a), .val (.int mi)] [(.ref a), (.int mi)])) rfl rfl (hb hby d5_10)
    have k28 : ∀ t, Steps p.tables e below (T27.setTop (mkF m 13 #[.val (.ref a), .val (.int mi)] [(.int cl), (.int mi)])) t → Steps p.tables e below (s₁.setTop (entryFrame m #[(.ref a), (.int mi)] 2)) t := by
      intro t kt
      refine k24 t ?_
      refine XS.icmpNo X23.here hx rfl (hb hby d5_5) rfl (flt hc5_25).1 ?_
      show Steps p.tables e below (T23.setTop (mkF m 8 #[.val (.ref a), .val (.int mi)] [])) _
      refine XS.iloadN X23.here hx rfl (hb hby d5_8) rfl ?_
      show Steps p.tables e below (T23.setTop (mkF m 9 #[.val (.ref a), .val (.int mi)] [(.int mi)])) _
      refine XS.aloadN X23.here hx rfl (hb hby d5_9) rfl rfl ?_
      show Steps p.tables e below (T23.setTop (mkF m 10 #[.val (.ref a), .val (.int mi)] [(.ref a), (.int mi)])) _
      refine st27 _ ?_
      show Steps p.tables e below (T27.setTop (mkF m 13 #[.val (.ref a), .val (.int mi)] [(.int cl), (.int mi)])) _
      exact kt
    by_cases hc13_29 : cl < mi
    · have k30 : ∀ t, Steps p.tables e below (T27.setTop (mkF m 21 #[.val (.ref a), .val (.int mi)] [(.int (0 : Int32))])) t → Steps p.tables e below (s₁.setTop (entryFrame m #[(.ref a), (.int mi)] 2)) t := by
        intro t kt
        refine k28 t ?_
        refine XS.icmpYes X27.here hx rfl (pc0 := 13) (pc' := 20) rfl (hb hby d5_13) rfl (tlt hc13_29).2.2.1 (by decide) (by decide) ?_
        show Steps p.tables e below (T27.setTop (mkF m 20 #[.val (.ref a), .val (.int mi)] [])) _
        refine XS.iconst X27.here hx rfl (hb hby d5_20) ?_
        show Steps p.tables e below (T27.setTop (mkF m 21 #[.val (.ref a), .val (.int mi)] [(.int (0 : Int32))])) _
        exact kt
      obtain ⟨fs, hr, hrun, hended, hW, hsame⟩ := X27.leave (v := some (.int (0 : Int32))) (fun h => by rw [Bd.returns] at h; cases h)
      refine ⟨_, _, k30 _ (retN X27 hx (t := .boolean) Bd.returns (by simp) (hb hby d5_21) hr), hrun, hended, _, _, rfl, ?_, ⟨_, rfl⟩, hW, hsame.mono (by decide) (by decide)⟩
      show Q5 Z a mi o cl h0 n0 _ T27.heap _
      rw [e27]
      exact ⟨(by rw [own_eq_own_cm]; rw [if_neg hc5_25, if_pos hc13_29]), N0, rfl⟩
    · have k31 : ∀ t, Steps p.tables e below (T27.setTop (mkF m 21 #[.val (.ref a), .val (.int mi)] [(.int (1 : Int32))])) t → Steps p.tables e below (s₁.setTop (entryFrame m #[(.ref a), (.int mi)] 2)) t := by
        intro t kt
        refine k28 t ?_
        refine XS.icmpNo X27.here hx rfl (hb hby d5_13) rfl (flt hc13_29).2.2.1 ?_
        show Steps p.tables e below (T27.setTop (mkF m 16 #[.val (.ref a), .val (.int mi)] [])) _
        refine XS.iconst X27.here hx rfl (hb hby d5_16) ?_
        show Steps p.tables e below (T27.setTop (mkF m 17 #[.val (.ref a), .val (.int mi)] [(.int (1 : Int32))])) _
        refine XS.goto X27.here hx rfl (pc0 := 17) (pc' := 21) rfl (hb hby d5_17) (by decide) (by decide) ?_
        show Steps p.tables e below (T27.setTop (mkF m 21 #[.val (.ref a), .val (.int mi)] [(.int (1 : Int32))])) _
        exact kt
      obtain ⟨fs, hr, hrun, hended, hW, hsame⟩ := X27.leave (v := some (.int (1 : Int32))) (fun h => by rw [Bd.returns] at h; cases h)
      refine ⟨_, _, k31 _ (retN X27 hx (t := .boolean) Bd.returns (by simp) (hb hby d5_21) hr), hrun, hended, _, _, rfl, ?_, ⟨_, rfl⟩, hW, hsame.mono (by decide) (by decide)⟩
      show Q5 Z a mi o cl h0 n0 _ T27.heap _
      rw [e27]
      exact ⟨(by rw [own_eq_own_cm]; rw [if_neg hc5_25, if_neg hc13_29]), N0, rfl⟩
theorem d7_0 : decode prog_56_method_4_code 0 = .ok (.aload_n 0, 1) := by decide +kernel
theorem d7_1 : decode prog_56_method_4_code 1 = .ok (.getfield 22, 3) := by decide +kernel
theorem d7_4 : decode prog_56_method_4_code 4 = .ok (.bipush 60, 2) := by decide +kernel
theorem d7_6 : decode prog_56_method_4_code 6 = .ok (.imul, 1) := by decide +kernel
theorem d7_7 : decode prog_56_method_4_code 7 = .ok (.ireturn, 1) := by decide +kernel
theorem pn_7 : plainName "com/example/tidegate/tidegate/model/OperatingDay" = true := by first | (simp [plainName, overriddenIn]; done) | decide +kernel
theorem ef_7 (m : MethodId) (x0 : Addr) : entryFrame m #[(.ref x0)] 1 = mkF m 0 #[.val (.ref x0)] [] := by first | (simp [entryFrame, mkF, argsToLocals, Value.category]; done) | rfl
def Q7 (Z : State) (a : Addr) (o : Int32) (h0 : Heap) (n0 : Nat) (rv_ : Option Value) (h : Heap) (LL_ : List Loc) : Prop := rv_ = some (.int (o * (60 : Int32))) ∧ Fr n0 LL_ ∧ h = h0
set_option maxRecDepth 65536 in
set_option maxHeartbeats 40000000 in
theorem rm7 (l : Launch) (Z : State) (a0 : Array Value) (hw : ∀ d ∈ tables_1, d.before a0 Z = true) (ws : List Jvm.Cond) (a : Addr) (o : Int32) (h0 : Heap) (n0 : Nat) (F_a_open : Fld Z h0 a "com/example/tidegate/tidegate/model/OperatingDay" "open" "I" (.int o)) :
    MetFree l (⟨"com/example/tidegate/tidegate/model/OperatingDay", "start", "()I"⟩ : MethodName) (head1 (Jvm.Cond.code (⟨"com/example/tidegate/tidegate/model/OperatingDay", "start", "()I"⟩ : MethodName) prog_56_method_4_code 1 (some .int) :: ws) ({ frames := 0, cells := 0, slots := 0, locals := 0 } : Room)) (fun aa UU => aa = #[(.ref a)] ∧ Z.Warmed39 UU.vm ∧ UU.heap = h0) (fun _ _ _ _ _ => True) (fun _ UU oo UV => ∃ vv LL, oo = .returned vv ∧ Q7 Z a o h0 n0 vv UV.heap LL ∧ FrameEnd UU oo UV LL ({ frames := 0, cells := 0, slots := 0, locals := 0 } : Room).cells ({ frames := 0, cells := 0, slots := 0, locals := 0 } : Room).slots) := by
  refine MetFree.of_bodySF (plainFor_of_name pn_7) hisR ?_
  intro p e s m args below meth c s₁ Bd hml0 hP hK
  obtain ⟨rfl, hZ, hh⟩ := hP
  have hx := Bd.exec
  have hby := Bd.bytes
  have hml : c.maxLocals = 1 := hml0
  have hown : s.vm.findClass "com/example/tidegate/tidegate/model/OperatingDay" = some m.cls := findClass_of_methodNamed Bd.named
  have hnm := (name_of_methodNamed Bd.named Bd.method).1
  have X0 : Stand p l e ({ frames := 0, cells := 0, slots := 0, locals := 0 } : Room) s m #[(.ref a)] below meth c s₁ [] 0 0 := Stand.of_body Bd
  have e0 : s₁.heap = h0 := by rw [← hh, Bd.state]; rfl
  have N0 := Fr.nil n0
  have k0 : ∀ t, Steps p.tables e below (s₁.setTop (mkF m 0 #[.val (.ref a)] [])) t → Steps p.tables e below (s₁.setTop (entryFrame m #[(.ref a)] 1)) t := fun t k => castTop (ef_7 m a) k
  obtain ⟨T32, X32, e32, st32⟩ := getF X0 hx hZ hown (host := "") (Or.inl (hw _ (List.mem_of_getElem? (i := 18) rfl))) Via.refl e0 F_a_open (g := (mkF m 1 #[.val (.ref a)] [(.ref a)])) rfl rfl (hb hby d7_1)
  have k33 : ∀ t, Steps p.tables e below (T32.setTop (mkF m 7 #[.val (.ref a)] [(.int (o * (60 : Int32)))])) t → Steps p.tables e below (s₁.setTop (entryFrame m #[(.ref a)] 1)) t := by
    intro t kt
    refine k0 t ?_
    refine XS.aloadN X0.here hx rfl (hb hby d7_0) rfl rfl ?_
    show Steps p.tables e below (s₁.setTop (mkF m 1 #[.val (.ref a)] [(.ref a)])) _
    refine st32 _ ?_
    show Steps p.tables e below (T32.setTop (mkF m 4 #[.val (.ref a)] [(.int o)])) _
    refine XS.bipush X32.here hx rfl (hb hby d7_4) ?_
    show Steps p.tables e below (T32.setTop (mkF m 6 #[.val (.ref a)] [(.int (60 : Int32)), (.int o)])) _
    refine XS.imul X32.here hx rfl (hb hby d7_6) rfl ?_
    show Steps p.tables e below (T32.setTop (mkF m 7 #[.val (.ref a)] [(.int (o * (60 : Int32)))])) _
    exact kt
  obtain ⟨fs, hr, hrun, hended, hW, hsame⟩ := X32.leave (v := some (.int (o * (60 : Int32)))) (fun h => by rw [Bd.returns] at h; cases h)
  refine ⟨_, _, k33 _ (retI X32 hx Bd.returns (hb hby d7_7) hr), hrun, hended, _, _, rfl, ?_, ⟨_, rfl⟩, hW, hsame.mono (by decide) (by decide)⟩
  show Q7 Z a o h0 n0 _ T32.heap _
  rw [e32]
  exact ⟨rfl, N0, rfl⟩
theorem d8_0 : decode prog_56_method_5_code 0 = .ok (.aload_n 0, 1) := by decide +kernel
theorem d8_1 : decode prog_56_method_5_code 1 = .ok (.getfield 26, 3) := by decide +kernel
theorem d8_4 : decode prog_56_method_5_code 4 = .ok (.iconst 1, 1) := by decide +kernel
theorem d8_5 : decode prog_56_method_5_code 5 = .ok (.iadd, 1) := by decide +kernel
theorem d8_6 : decode prog_56_method_5_code 6 = .ok (.bipush 60, 2) := by decide +kernel
theorem d8_8 : decode prog_56_method_5_code 8 = .ok (.imul, 1) := by decide +kernel
theorem d8_9 : decode prog_56_method_5_code 9 = .ok (.ireturn, 1) := by decide +kernel
theorem pn_8 : plainName "com/example/tidegate/tidegate/model/OperatingDay" = true := by first | (simp [plainName, overriddenIn]; done) | decide +kernel
theorem ef_8 (m : MethodId) (x0 : Addr) : entryFrame m #[(.ref x0)] 1 = mkF m 0 #[.val (.ref x0)] [] := by first | (simp [entryFrame, mkF, argsToLocals, Value.category]; done) | rfl
def Q8 (Z : State) (a : Addr) (cl : Int32) (h0 : Heap) (n0 : Nat) (rv_ : Option Value) (h : Heap) (LL_ : List Loc) : Prop := rv_ = some (.int ((cl + (1 : Int32)) * (60 : Int32))) ∧ Fr n0 LL_ ∧ h = h0
set_option maxRecDepth 65536 in
set_option maxHeartbeats 40000000 in
theorem rm8 (l : Launch) (Z : State) (a0 : Array Value) (hw : ∀ d ∈ tables_1, d.before a0 Z = true) (ws : List Jvm.Cond) (a : Addr) (cl : Int32) (h0 : Heap) (n0 : Nat) (F_a_close : Fld Z h0 a "com/example/tidegate/tidegate/model/OperatingDay" "close" "I" (.int cl)) :
    MetFree l (⟨"com/example/tidegate/tidegate/model/OperatingDay", "end", "()I"⟩ : MethodName) (head1 (Jvm.Cond.code (⟨"com/example/tidegate/tidegate/model/OperatingDay", "end", "()I"⟩ : MethodName) prog_56_method_5_code 1 (some .int) :: ws) ({ frames := 0, cells := 0, slots := 0, locals := 0 } : Room)) (fun aa UU => aa = #[(.ref a)] ∧ Z.Warmed39 UU.vm ∧ UU.heap = h0) (fun _ _ _ _ _ => True) (fun _ UU oo UV => ∃ vv LL, oo = .returned vv ∧ Q8 Z a cl h0 n0 vv UV.heap LL ∧ FrameEnd UU oo UV LL ({ frames := 0, cells := 0, slots := 0, locals := 0 } : Room).cells ({ frames := 0, cells := 0, slots := 0, locals := 0 } : Room).slots) := by
  refine MetFree.of_bodySF (plainFor_of_name pn_8) hisR ?_
  intro p e s m args below meth c s₁ Bd hml0 hP hK
  obtain ⟨rfl, hZ, hh⟩ := hP
  have hx := Bd.exec
  have hby := Bd.bytes
  have hml : c.maxLocals = 1 := hml0
  have hown : s.vm.findClass "com/example/tidegate/tidegate/model/OperatingDay" = some m.cls := findClass_of_methodNamed Bd.named
  have hnm := (name_of_methodNamed Bd.named Bd.method).1
  have X0 : Stand p l e ({ frames := 0, cells := 0, slots := 0, locals := 0 } : Room) s m #[(.ref a)] below meth c s₁ [] 0 0 := Stand.of_body Bd
  have e0 : s₁.heap = h0 := by rw [← hh, Bd.state]; rfl
  have N0 := Fr.nil n0
  have k0 : ∀ t, Steps p.tables e below (s₁.setTop (mkF m 0 #[.val (.ref a)] [])) t → Steps p.tables e below (s₁.setTop (entryFrame m #[(.ref a)] 1)) t := fun t k => castTop (ef_8 m a) k
  obtain ⟨T34, X34, e34, st34⟩ := getF X0 hx hZ hown (host := "") (Or.inl (hw _ (List.mem_of_getElem? (i := 20) rfl))) Via.refl e0 F_a_close (g := (mkF m 1 #[.val (.ref a)] [(.ref a)])) rfl rfl (hb hby d8_1)
  have k35 : ∀ t, Steps p.tables e below (T34.setTop (mkF m 9 #[.val (.ref a)] [(.int ((cl + (1 : Int32)) * (60 : Int32)))])) t → Steps p.tables e below (s₁.setTop (entryFrame m #[(.ref a)] 1)) t := by
    intro t kt
    refine k0 t ?_
    refine XS.aloadN X0.here hx rfl (hb hby d8_0) rfl rfl ?_
    show Steps p.tables e below (s₁.setTop (mkF m 1 #[.val (.ref a)] [(.ref a)])) _
    refine st34 _ ?_
    show Steps p.tables e below (T34.setTop (mkF m 4 #[.val (.ref a)] [(.int cl)])) _
    refine XS.iconst X34.here hx rfl (hb hby d8_4) ?_
    show Steps p.tables e below (T34.setTop (mkF m 5 #[.val (.ref a)] [(.int (1 : Int32)), (.int cl)])) _
    refine XS.iadd X34.here hx rfl (hb hby d8_5) rfl ?_
    show Steps p.tables e below (T34.setTop (mkF m 6 #[.val (.ref a)] [(.int (cl + (1 : Int32)))])) _
    refine XS.bipush X34.here hx rfl (hb hby d8_6) ?_
    show Steps p.tables e below (T34.setTop (mkF m 8 #[.val (.ref a)] [(.int (60 : Int32)), (.int (cl + (1 : Int32)))])) _
    refine XS.imul X34.here hx rfl (hb hby d8_8) rfl ?_
    show Steps p.tables e below (T34.setTop (mkF m 9 #[.val (.ref a)] [(.int ((cl + (1 : Int32)) * (60 : Int32)))])) _
    exact kt
  obtain ⟨fs, hr, hrun, hended, hW, hsame⟩ := X34.leave (v := some (.int ((cl + (1 : Int32)) * (60 : Int32)))) (fun h => by rw [Bd.returns] at h; cases h)
  refine ⟨_, _, k35 _ (retI X34 hx Bd.returns (hb hby d8_9) hr), hrun, hended, _, _, rfl, ?_, ⟨_, rfl⟩, hW, hsame.mono (by decide) (by decide)⟩
  show Q8 Z a cl h0 n0 _ T34.heap _
  rw [e34]
  exact ⟨rfl, N0, rfl⟩
theorem pd_4 : parseMethodDescriptor "()I" = some ⟨[], some .int⟩ := by decide +kernel
theorem d6_0 : decode prog_56_method_6_code 0 = .ok (.iload_n 1, 1) := by decide +kernel
theorem d6_1 : decode prog_56_method_6_code 1 = .ok (.aload_n 0, 1) := by decide +kernel
theorem d6_2 : decode prog_56_method_6_code 2 = .ok (.invokevirtual 31, 3) := by decide +kernel
theorem d6_5 : decode prog_56_method_6_code 5 = .ok (.if_icmp .lt 15, 3) := by decide +kernel
theorem d6_8 : decode prog_56_method_6_code 8 = .ok (.iload_n 1, 1) := by decide +kernel
theorem d6_9 : decode prog_56_method_6_code 9 = .ok (.aload_n 0, 1) := by decide +kernel
theorem d6_10 : decode prog_56_method_6_code 10 = .ok (.invokevirtual 35, 3) := by decide +kernel
theorem d6_13 : decode prog_56_method_6_code 13 = .ok (.if_icmp .ge 7, 3) := by decide +kernel
theorem d6_16 : decode prog_56_method_6_code 16 = .ok (.iconst 1, 1) := by decide +kernel
theorem d6_17 : decode prog_56_method_6_code 17 = .ok (.goto 4, 3) := by decide +kernel
theorem d6_20 : decode prog_56_method_6_code 20 = .ok (.iconst 0, 1) := by decide +kernel
theorem d6_21 : decode prog_56_method_6_code 21 = .ok (.ireturn, 1) := by decide +kernel
theorem pn_6 : plainName "com/example/tidegate/tidegate/model/OperatingDay" = true := by first | (simp [plainName, overriddenIn]; done) | decide +kernel
theorem ef_6 (m : MethodId) (x0 : Addr) (x1 : Int32) : entryFrame m #[(.ref x0), (.int x1)] 2 = mkF m 0 #[.val (.ref x0), .val (.int x1)] [] := by first | (simp [entryFrame, mkF, argsToLocals, Value.category]; done) | rfl
def own_ct (ti : Int32) (o : Int32) (cl : Int32) : Int32 := (if ti < (o * (60 : Int32)) then (0 : Int32) else (if ti < ((cl + (1 : Int32)) * (60 : Int32)) then (1 : Int32) else (0 : Int32)))
theorem own_eq_own_ct (ti : Int32) (o : Int32) (cl : Int32) : own_ct ti o cl = (if ti < (o * (60 : Int32)) then (0 : Int32) else (if ti < ((cl + (1 : Int32)) * (60 : Int32)) then (1 : Int32) else (0 : Int32))) := rfl
def Q6 (Z : State) (a : Addr) (ti : Int32) (o : Int32) (cl : Int32) (h0 : Heap) (n0 : Nat) (rv_ : Option Value) (h : Heap) (LL_ : List Loc) : Prop := rv_ = some (.int (own_ct ti o cl)) ∧ Fr n0 LL_ ∧ h = h0
set_option maxRecDepth 65536 in
set_option maxHeartbeats 40000000 in
theorem rm6 (l : Launch) (Z : State) (a0 : Array Value) (hw : ∀ d ∈ tables_1, d.before a0 Z = true) (ws : List Jvm.Cond) (a : Addr) (ti : Int32) (o : Int32) (cl : Int32) (h0 : Heap) (n0 : Nat) (E_a : Exa Z h0 a "com/example/tidegate/tidegate/model/OperatingDay") (F_a_open : Fld Z h0 a "com/example/tidegate/tidegate/model/OperatingDay" "open" "I" (.int o)) (F_a_close : Fld Z h0 a "com/example/tidegate/tidegate/model/OperatingDay" "close" "I" (.int cl)) :
    MetFree l (⟨"com/example/tidegate/tidegate/model/OperatingDay", "contains", "(I)Z"⟩ : MethodName) (head1 (Jvm.Cond.code (⟨"com/example/tidegate/tidegate/model/OperatingDay", "contains", "(I)Z"⟩ : MethodName) prog_56_method_6_code 2 (some .boolean) :: ws) ({ frames := 1, cells := 0, slots := 0, locals := 13 } : Room)) (fun aa UU => aa = #[(.ref a), (.int ti)] ∧ Z.Warmed39 UU.vm ∧ UU.heap = h0) (fun _ _ _ _ _ => True) (fun _ UU oo UV => ∃ vv LL, oo = .returned vv ∧ Q6 Z a ti o cl h0 n0 vv UV.heap LL ∧ FrameEnd UU oo UV LL ({ frames := 1, cells := 0, slots := 0, locals := 13 } : Room).cells ({ frames := 1, cells := 0, slots := 0, locals := 13 } : Room).slots) := by
  refine MetFree.of_bodySF (plainFor_of_name pn_6) hisR ?_
  intro p e s m args below meth c s₁ Bd hml0 hP hK
  obtain ⟨rfl, hZ, hh⟩ := hP
  have hx := Bd.exec
  have hby := Bd.bytes
  have hml : c.maxLocals = 2 := hml0
  have hown : s.vm.findClass "com/example/tidegate/tidegate/model/OperatingDay" = some m.cls := findClass_of_methodNamed Bd.named
  have hnm := (name_of_methodNamed Bd.named Bd.method).1
  have X0 : Stand p l e ({ frames := 1, cells := 0, slots := 0, locals := 13 } : Room) s m #[(.ref a), (.int ti)] below meth c s₁ [] 0 0 := Stand.of_body Bd
  have e0 : s₁.heap = h0 := by rw [← hh, Bd.state]; rfl
  have N0 := Fr.nil n0
  have k0 : ∀ t, Steps p.tables e below (s₁.setTop (mkF m 0 #[.val (.ref a), .val (.int ti)] [])) t → Steps p.tables e below (s₁.setTop (entryFrame m #[(.ref a), (.int ti)] 2)) t := fun t k => castTop (ef_6 m a ti) k
  obtain ⟨cq36, kq36, q36a, q36b, q36c⟩ := isOf hZ e0 E_a
  obtain ⟨_, _, ⟨T36, L36, kc36, nc36⟩, -, X36, ⟨Lc36, hQ36, l36, y36, z36⟩, st36⟩ := X0.virtualBack hx (y := (⟨"com/example/tidegate/tidegate/model/OperatingDay", "start", "()I"⟩ : MethodName)) (z := (⟨"com/example/tidegate/tidegate/model/OperatingDay", "start", "()I"⟩ : MethodName)) hown (mvT hZ (hw _ (List.mem_of_getElem? (i := 32) rfl))) (mvT hZ (hw _ (List.mem_of_getElem? (i := 33) rfl))) (notFace_of_selects (args := #[]) (mvT hZ (hw _ (List.mem_of_getElem? (i := 35) rfl)))) (mvT hZ (hw _ (List.mem_of_getElem? (i := 35) rfl))) (mvT hZ (hw _ (List.mem_of_getElem? (i := 34) rfl))) (by decide) (backOf (W := 1) (rm7 l Z a0 hw [] a o h0 n0 F_a_open) hZ (hw _ (List.mem_of_getElem? (i := 36) rfl)) (hw _ (List.mem_of_getElem? (i := 3) rfl)) (by decide) (by decide)) q36a q36c (g := (mkF m 2 #[.val (.ref a), .val (.int ti)] [(.ref a), (.int ti)])) rfl (by rw [hml]; rfl) (Steps.refl _) (argsL := []) (rest := [(.int ti)]) (lenOf pd_4 rfl) rfl (by show 2 * 0 + _ ≤ _; exact Nat.le_of_eq rfl) (hb hby d6_2) (fun _ _ => ⟨rfl, e0, (by decide : 0 + 0 ≤ _), (by decide : 0 + 0 ≤ _)⟩)
  dsimp only [Pt.U, Pt.locs, Pt.cells, Pt.slots] at X36 l36 y36 z36 st36 hQ36
  subst l36 y36 z36
  obtain ⟨rfl, Nq36, eq36⟩ := hQ36
  have N36 := Fr.app N0 Nq36
  have k37 : ∀ t, Steps p.tables e below (T36.setTop (mkF m 5 #[.val (.ref a), .val (.int ti)] [(.int (o * (60 : Int32))), (.int ti)])) t → Steps p.tables e below (s₁.setTop (entryFrame m #[(.ref a), (.int ti)] 2)) t := by
    intro t kt
    refine k0 t ?_
    refine XS.iloadN X0.here hx rfl (hb hby d6_0) rfl ?_
    show Steps p.tables e below (s₁.setTop (mkF m 1 #[.val (.ref a), .val (.int ti)] [(.int ti)])) _
    refine XS.aloadN X0.here hx rfl (hb hby d6_1) rfl rfl ?_
    show Steps p.tables e below (s₁.setTop (mkF m 2 #[.val (.ref a), .val (.int ti)] [(.ref a), (.int ti)])) _
    refine st36.trans ?_
    show Steps p.tables e below (T36.setTop (mkF m 5 #[.val (.ref a), .val (.int ti)] [(.int (o * (60 : Int32))), (.int ti)])) _
    exact kt
  by_cases hc5_38 : ti < (o * (60 : Int32))
  · have k39 : ∀ t, Steps p.tables e below (T36.setTop (mkF m 21 #[.val (.ref a), .val (.int ti)] [(.int (0 : Int32))])) t → Steps p.tables e below (s₁.setTop (entryFrame m #[(.ref a), (.int ti)] 2)) t := by
      intro t kt
      refine k37 t ?_
      refine XS.icmpYes X36.here hx rfl (pc0 := 5) (pc' := 20) rfl (hb hby d6_5) rfl (tlt hc5_38).1 (by decide) (by decide) ?_
      show Steps p.tables e below (T36.setTop (mkF m 20 #[.val (.ref a), .val (.int ti)] [])) _
      refine XS.iconst X36.here hx rfl (hb hby d6_20) ?_
      show Steps p.tables e below (T36.setTop (mkF m 21 #[.val (.ref a), .val (.int ti)] [(.int (0 : Int32))])) _
      exact kt
    obtain ⟨fs, hr, hrun, hended, hW, hsame⟩ := X36.leave (v := some (.int (0 : Int32))) (fun h => by rw [Bd.returns] at h; cases h)
    refine ⟨_, _, k39 _ (retN X36 hx (t := .boolean) Bd.returns (by simp) (hb hby d6_21) hr), hrun, hended, _, _, rfl, ?_, ⟨_, rfl⟩, hW, hsame.mono (by decide) (by decide)⟩
    show Q6 Z a ti o cl h0 n0 _ T36.heap _
    rw [eq36]
    exact ⟨(by rw [own_eq_own_ct]; rw [if_pos hc5_38]), N36, rfl⟩
  · obtain ⟨cq40, kq40, q40a, q40b, q40c⟩ := isOf hZ eq36 E_a
    obtain ⟨_, _, ⟨T40, L40, kc40, nc40⟩, -, X40, ⟨Lc40, hQ40, l40, y40, z40⟩, st40⟩ := X36.virtualBack hx (y := (⟨"com/example/tidegate/tidegate/model/OperatingDay", "end", "()I"⟩ : MethodName)) (z := (⟨"com/example/tidegate/tidegate/model/OperatingDay", "end", "()I"⟩ : MethodName)) hown (mvT hZ (hw _ (List.mem_of_getElem? (i := 37) rfl))) (mvT hZ (hw _ (List.mem_of_getElem? (i := 38) rfl))) (notFace_of_selects (args := #[]) (mvT hZ (hw _ (List.mem_of_getElem? (i := 40) rfl)))) (mvT hZ (hw _ (List.mem_of_getElem? (i := 40) rfl))) (mvT hZ (hw _ (List.mem_of_getElem? (i := 39) rfl))) (by decide) (backOf (W := 1) (rm8 l Z a0 hw [] a cl h0 n0 F_a_close) hZ (hw _ (List.mem_of_getElem? (i := 41) rfl)) (hw _ (List.mem_of_getElem? (i := 3) rfl)) (by decide) (by decide)) q40a q40c (g := (mkF m 10 #[.val (.ref a), .val (.int ti)] [(.ref a), (.int ti)])) rfl (by rw [hml]; rfl) (Steps.refl _) (argsL := []) (rest := [(.int ti)]) (lenOf pd_4 rfl) rfl (by show 2 * 0 + _ ≤ _; exact Nat.le_of_eq rfl) (hb hby d6_10) (fun _ _ => ⟨rfl, eq36, (by decide : 0 + 0 ≤ _), (by decide : 0 + 0 ≤ _)⟩)
    dsimp only [Pt.U, Pt.locs, Pt.cells, Pt.slots] at X40 l40 y40 z40 st40 hQ40
    subst l40 y40 z40
    obtain ⟨rfl, Nq40, eq40⟩ := hQ40
    have N40 := Fr.app N36 Nq40
    have k41 : ∀ t, Steps p.tables e below (T40.setTop (mkF m 13 #[.val (.ref a), .val (.int ti)] [(.int ((cl + (1 : Int32)) * (60 : Int32))), (.int ti)])) t → Steps p.tables e below (s₁.setTop (entryFrame m #[(.ref a), (.int ti)] 2)) t := by
      intro t kt
      refine k37 t ?_
      refine XS.icmpNo X36.here hx rfl (hb hby d6_5) rfl (flt hc5_38).1 ?_
      show Steps p.tables e below (T36.setTop (mkF m 8 #[.val (.ref a), .val (.int ti)] [])) _
      refine XS.iloadN X36.here hx rfl (hb hby d6_8) rfl ?_
      show Steps p.tables e below (T36.setTop (mkF m 9 #[.val (.ref a), .val (.int ti)] [(.int ti)])) _
      refine XS.aloadN X36.here hx rfl (hb hby d6_9) rfl rfl ?_
      show Steps p.tables e below (T36.setTop (mkF m 10 #[.val (.ref a), .val (.int ti)] [(.ref a), (.int ti)])) _
      refine st40.trans ?_
      show Steps p.tables e below (T40.setTop (mkF m 13 #[.val (.ref a), .val (.int ti)] [(.int ((cl + (1 : Int32)) * (60 : Int32))), (.int ti)])) _
      exact kt
    by_cases hc13_42 : ti < ((cl + (1 : Int32)) * (60 : Int32))
    · have k43 : ∀ t, Steps p.tables e below (T40.setTop (mkF m 21 #[.val (.ref a), .val (.int ti)] [(.int (1 : Int32))])) t → Steps p.tables e below (s₁.setTop (entryFrame m #[(.ref a), (.int ti)] 2)) t := by
        intro t kt
        refine k41 t ?_
        refine XS.icmpNo X40.here hx rfl (hb hby d6_13) rfl (tlt hc13_42).2.1 ?_
        show Steps p.tables e below (T40.setTop (mkF m 16 #[.val (.ref a), .val (.int ti)] [])) _
        refine XS.iconst X40.here hx rfl (hb hby d6_16) ?_
        show Steps p.tables e below (T40.setTop (mkF m 17 #[.val (.ref a), .val (.int ti)] [(.int (1 : Int32))])) _
        refine XS.goto X40.here hx rfl (pc0 := 17) (pc' := 21) rfl (hb hby d6_17) (by decide) (by decide) ?_
        show Steps p.tables e below (T40.setTop (mkF m 21 #[.val (.ref a), .val (.int ti)] [(.int (1 : Int32))])) _
        exact kt
      obtain ⟨fs, hr, hrun, hended, hW, hsame⟩ := X40.leave (v := some (.int (1 : Int32))) (fun h => by rw [Bd.returns] at h; cases h)
      refine ⟨_, _, k43 _ (retN X40 hx (t := .boolean) Bd.returns (by simp) (hb hby d6_21) hr), hrun, hended, _, _, rfl, ?_, ⟨_, rfl⟩, hW, hsame.mono (by decide) (by decide)⟩
      show Q6 Z a ti o cl h0 n0 _ T40.heap _
      rw [eq40]
      exact ⟨(by rw [own_eq_own_ct]; rw [if_neg hc5_38, if_pos hc13_42]), N40, rfl⟩
    · have k44 : ∀ t, Steps p.tables e below (T40.setTop (mkF m 21 #[.val (.ref a), .val (.int ti)] [(.int (0 : Int32))])) t → Steps p.tables e below (s₁.setTop (entryFrame m #[(.ref a), (.int ti)] 2)) t := by
        intro t kt
        refine k41 t ?_
        refine XS.icmpYes X40.here hx rfl (pc0 := 13) (pc' := 20) rfl (hb hby d6_13) rfl (flt hc13_42).2.1 (by decide) (by decide) ?_
        show Steps p.tables e below (T40.setTop (mkF m 20 #[.val (.ref a), .val (.int ti)] [])) _
        refine XS.iconst X40.here hx rfl (hb hby d6_20) ?_
        show Steps p.tables e below (T40.setTop (mkF m 21 #[.val (.ref a), .val (.int ti)] [(.int (0 : Int32))])) _
        exact kt
      obtain ⟨fs, hr, hrun, hended, hW, hsame⟩ := X40.leave (v := some (.int (0 : Int32))) (fun h => by rw [Bd.returns] at h; cases h)
      refine ⟨_, _, k44 _ (retN X40 hx (t := .boolean) Bd.returns (by simp) (hb hby d6_21) hr), hrun, hended, _, _, rfl, ?_, ⟨_, rfl⟩, hW, hsame.mono (by decide) (by decide)⟩
      show Q6 Z a ti o cl h0 n0 _ T40.heap _
      rw [eq40]
      exact ⟨(by rw [own_eq_own_ct]; rw [if_neg hc5_38, if_neg hc13_42]), N40, rfl⟩
theorem pd_0 : parseMethodDescriptor "(II)V" = some ⟨[.int, .int], none⟩ := by decide +kernel
theorem pd_3 : parseMethodDescriptor "(I)Z" = some ⟨[.int], some .boolean⟩ := by decide +kernel
theorem pn_0 : plainName "com/example/tidegate/tidegate/model/OperatingDayContainsMinutePinLaw" = true := by first | (simp [plainName, overriddenIn]; done) | decide +kernel
theorem ef_0 (m : MethodId) (x0 : Int32) (x1 : Int32) (x2 : Int32) (x3 : Int32) (x4 : Int32) : entryFrame m #[(.int x0), (.int x1), (.int x2), (.int x3), (.int x4)] maxLocals = mkF m 0 #[.val (.int x0), .val (.int x1), .val (.int x2), .val (.int x3), .val (.int x4), .unset, .unset, .unset, .unset, .unset, .unset, .unset] [] := by first | (simp [entryFrame, mkF, argsToLocals, Value.category, maxLocals]; done) | rfl
def Q0 (Z : State) (p0 : Int32) (p1 : Int32) (p2 : Int32) (p3 : Int32) (p4 : Int32) (h0 : Heap) (n0 : Nat) (rv_ : Option Value) (h : Heap) (LL_ : List Loc) : Prop := rv_ = some (.int 1) ∧ Fr n0 LL_
set_option maxRecDepth 65536 in
set_option maxHeartbeats 40000000 in
theorem rm0 (l : Launch) (Z : State) (a0 : Array Value) (hw : ∀ d ∈ tables_1, d.before a0 Z = true) (ws : List Jvm.Cond) (p0 : Int32) (p1 : Int32) (p2 : Int32) (p3 : Int32) (p4 : Int32) (h0 : Heap) (n0 : Nat) (Z0 : n0 ≤ h0.size) :
    MetFree l x (head1 (Jvm.Cond.code x code maxLocals ret :: ws) room_1) (fun aa UU => aa = #[(.int p0), (.int p1), (.int p2), (.int p3), (.int p4)] ∧ Z.Warmed39 UU.vm ∧ UU.heap = h0) (fun _ _ _ _ _ => True) (fun _ UU oo UV => ∃ vv LL, oo = .returned vv ∧ Q0 Z p0 p1 p2 p3 p4 h0 n0 vv UV.heap LL ∧ FrameEnd UU oo UV LL room_1.cells room_1.slots) := by
  refine MetFree.of_bodySF (plainFor_of_name pn_0) hisR ?_
  intro p e s m args below meth c s₁ Bd hml0 hP hK
  obtain ⟨rfl, hZ, hh⟩ := hP
  have hx := Bd.exec
  have hby := Bd.bytes
  have hml : c.maxLocals = 12 := hml0
  have hown : s.vm.findClass "com/example/tidegate/tidegate/model/OperatingDayContainsMinutePinLaw" = some m.cls := findClass_of_methodNamed Bd.named
  have hnm := (name_of_methodNamed Bd.named Bd.method).1
  have X0 : Stand p l e room_1 s m #[(.int p0), (.int p1), (.int p2), (.int p3), (.int p4)] below meth c s₁ [] 0 0 := Stand.of_body Bd
  have e0 : s₁.heap = h0 := by rw [← hh, Bd.state]; rfl
  have N0 := Fr.nil n0
  have k0 : ∀ t, Steps p.tables e below (s₁.setTop (mkF m 0 #[.val (.int p0), .val (.int p1), .val (.int p2), .val (.int p3), .val (.int p4), .unset, .unset, .unset, .unset, .unset, .unset, .unset] [])) t → Steps p.tables e below (s₁.setTop (entryFrame m #[(.int p0), (.int p1), (.int p2), (.int p3), (.int p4)] maxLocals)) t := fun t k => castTop (ef_0 m p0 p1 p2 p3 p4) k
  have k45 : ∀ t, Steps p.tables e below (s₁.setTop (mkF m 8 #[.val (.int p0), .val (.int p1), .val (.int p2), .val (.int p3), .val (.int p4), .unset, .unset, .unset, .unset, .unset, .unset, .unset] [(.int ((p0 &&& (2147483647 : Int32)) % (1440 : Int32)))])) t → Steps p.tables e below (s₁.setTop (entryFrame m #[(.int p0), (.int p1), (.int p2), (.int p3), (.int p4)] maxLocals)) t := by
    intro t kt
    refine k0 t ?_
    refine XS.iloadN X0.here hx rfl (hb hby at_0) rfl ?_
    show Steps p.tables e below (s₁.setTop (mkF m 1 #[.val (.int p0), .val (.int p1), .val (.int p2), .val (.int p3), .val (.int p4), .unset, .unset, .unset, .unset, .unset, .unset, .unset] [(.int p0)])) _
    refine X0.ldcInt hx hown (mvT hZ (hw _ (List.mem_of_getElem? (i := 0) rfl))) (g := (mkF m 1 #[.val (.int p0), .val (.int p1), .val (.int p2), .val (.int p3), .val (.int p4), .unset, .unset, .unset, .unset, .unset, .unset, .unset] [(.int p0)])) rfl (hb hby at_1) _ ?_
    show Steps p.tables e below (s₁.setTop (mkF m 3 #[.val (.int p0), .val (.int p1), .val (.int p2), .val (.int p3), .val (.int p4), .unset, .unset, .unset, .unset, .unset, .unset, .unset] [(.int (2147483647 : Int32)), (.int p0)])) _
    refine XS.iand X0.here hx rfl (hb hby at_3) rfl ?_
    show Steps p.tables e below (s₁.setTop (mkF m 4 #[.val (.int p0), .val (.int p1), .val (.int p2), .val (.int p3), .val (.int p4), .unset, .unset, .unset, .unset, .unset, .unset, .unset] [(.int (p0 &&& (2147483647 : Int32)))])) _
    refine XS.sipush X0.here hx rfl (hb hby at_4) ?_
    show Steps p.tables e below (s₁.setTop (mkF m 7 #[.val (.int p0), .val (.int p1), .val (.int p2), .val (.int p3), .val (.int p4), .unset, .unset, .unset, .unset, .unset, .unset, .unset] [(.int (1440 : Int32)), (.int (p0 &&& (2147483647 : Int32)))])) _
    refine iremM X0 hx rfl (hb hby at_7) rfl (by decide) ?_
    show Steps p.tables e below (s₁.setTop (mkF m 8 #[.val (.int p0), .val (.int p1), .val (.int p2), .val (.int p3), .val (.int p4), .unset, .unset, .unset, .unset, .unset, .unset, .unset] [(.int ((p0 &&& (2147483647 : Int32)) % (1440 : Int32)))])) _
    exact kt
  obtain ⟨v46, hv46⟩ : ∃ z : Int32, z = ((p0 &&& (2147483647 : Int32)) % (1440 : Int32)) := ⟨_, rfl⟩
  rw [← hv46] at k45
  have ha47 : ¬ (((1440 : Int32) - v46) = (0 : Int32)) := (by
      have ar48 : (1440 : Int32).toInt = 1440 := by decide
      have ar49 := rng32 v46
      have ar50 := rng32 p0
      have ar51 : (2147483647 : Int32).toInt = 2147483647 := by decide
      have ar52 := c_mask p0 (2147483647 : Int32) 31 (by decide) (by decide)
      simp only [show (2 ^ 31 : Nat) = 2147483648 from by decide, Int.cast_ofNat_Int] at ar52
      have ar53 := rng32 (p0 &&& (2147483647 : Int32))
      first | have ar54 := (c_irem (p0 &&& (2147483647 : Int32)) (1440 : Int32) 1440 (by decide)).1 (by omega) | have ar54 := c_irem (p0 &&& (2147483647 : Int32)) (1440 : Int32) 1440 (by decide)
      have ar55 := rng32 ((p0 &&& (2147483647 : Int32)) % (1440 : Int32))
      have ar56 := congrArg Int32.toInt hv46
      have ar57 := rng32 ((1440 : Int32) - v46)
      first | have ar58 : ((1440 : Int32) - v46).toInt = 1440 - v46.toInt := (by have qw := c_isub (1440 : Int32) v46; omega) | (have ar58 := c_isub (1440 : Int32) v46; skip)
      have ar59 : (0 : Int32).toInt = 0 := by decide
      exact fun qq_ => absurd (congrArg Int32.toInt qq_) (by omega))
  have k60 : ∀ t, Steps p.tables e below (s₁.setTop (mkF m 24 #[.val (.int p0), .val (.int p1), .val (.int p2), .val (.int p3), .val (.int p4), .val (.int v46), .unset, .unset, .unset, .unset, .unset, .unset] [(.int (v46 + ((p1 &&& (2147483647 : Int32)) % ((1440 : Int32) - v46))))])) t → Steps p.tables e below (s₁.setTop (entryFrame m #[(.int p0), (.int p1), (.int p2), (.int p3), (.int p4)] maxLocals)) t := by
    intro t kt
    refine k45 t ?_
    refine XS.istore X0.here hx rfl (hb hby at_8) rfl (l' := #[.val (.int p0), .val (.int p1), .val (.int p2), .val (.int p3), .val (.int p4), .val (.int v46), .unset, .unset, .unset, .unset, .unset, .unset]) rfl ?_
    show Steps p.tables e below (s₁.setTop (mkF m 10 #[.val (.int p0), .val (.int p1), .val (.int p2), .val (.int p3), .val (.int p4), .val (.int v46), .unset, .unset, .unset, .unset, .unset, .unset] [])) _
    refine XS.iload X0.here hx rfl (hb hby at_10) rfl ?_
    show Steps p.tables e below (s₁.setTop (mkF m 12 #[.val (.int p0), .val (.int p1), .val (.int p2), .val (.int p3), .val (.int p4), .val (.int v46), .unset, .unset, .unset, .unset, .unset, .unset] [(.int v46)])) _
    refine XS.iloadN X0.here hx rfl (hb hby at_12) rfl ?_
    show Steps p.tables e below (s₁.setTop (mkF m 13 #[.val (.int p0), .val (.int p1), .val (.int p2), .val (.int p3), .val (.int p4), .val (.int v46), .unset, .unset, .unset, .unset, .unset, .unset] [(.int p1), (.int v46)])) _
    refine X0.ldcInt hx hown (mvT hZ (hw _ (List.mem_of_getElem? (i := 0) rfl))) (g := (mkF m 13 #[.val (.int p0), .val (.int p1), .val (.int p2), .val (.int p3), .val (.int p4), .val (.int v46), .unset, .unset, .unset, .unset, .unset, .unset] [(.int p1), (.int v46)])) rfl (hb hby at_13) _ ?_
    show Steps p.tables e below (s₁.setTop (mkF m 15 #[.val (.int p0), .val (.int p1), .val (.int p2), .val (.int p3), .val (.int p4), .val (.int v46), .unset, .unset, .unset, .unset, .unset, .unset] [(.int (2147483647 : Int32)), (.int p1), (.int v46)])) _
    refine XS.iand X0.here hx rfl (hb hby at_15) rfl ?_
    show Steps p.tables e below (s₁.setTop (mkF m 16 #[.val (.int p0), .val (.int p1), .val (.int p2), .val (.int p3), .val (.int p4), .val (.int v46), .unset, .unset, .unset, .unset, .unset, .unset] [(.int (p1 &&& (2147483647 : Int32))), (.int v46)])) _
    refine XS.sipush X0.here hx rfl (hb hby at_16) ?_
    show Steps p.tables e below (s₁.setTop (mkF m 19 #[.val (.int p0), .val (.int p1), .val (.int p2), .val (.int p3), .val (.int p4), .val (.int v46), .unset, .unset, .unset, .unset, .unset, .unset] [(.int (1440 : Int32)), (.int (p1 &&& (2147483647 : Int32))), (.int v46)])) _
    refine XS.iload X0.here hx rfl (hb hby at_19) rfl ?_
    show Steps p.tables e below (s₁.setTop (mkF m 21 #[.val (.int p0), .val (.int p1), .val (.int p2), .val (.int p3), .val (.int p4), .val (.int v46), .unset, .unset, .unset, .unset, .unset, .unset] [(.int v46), (.int (1440 : Int32)), (.int (p1 &&& (2147483647 : Int32))), (.int v46)])) _
    refine XS.isub X0.here hx rfl (hb hby at_21) rfl ?_
    show Steps p.tables e below (s₁.setTop (mkF m 22 #[.val (.int p0), .val (.int p1), .val (.int p2), .val (.int p3), .val (.int p4), .val (.int v46), .unset, .unset, .unset, .unset, .unset, .unset] [(.int ((1440 : Int32) - v46)), (.int (p1 &&& (2147483647 : Int32))), (.int v46)])) _
    refine iremM X0 hx rfl (hb hby at_22) rfl ha47 ?_
    show Steps p.tables e below (s₁.setTop (mkF m 23 #[.val (.int p0), .val (.int p1), .val (.int p2), .val (.int p3), .val (.int p4), .val (.int v46), .unset, .unset, .unset, .unset, .unset, .unset] [(.int ((p1 &&& (2147483647 : Int32)) % ((1440 : Int32) - v46))), (.int v46)])) _
    refine XS.iadd X0.here hx rfl (hb hby at_23) rfl ?_
    show Steps p.tables e below (s₁.setTop (mkF m 24 #[.val (.int p0), .val (.int p1), .val (.int p2), .val (.int p3), .val (.int p4), .val (.int v46), .unset, .unset, .unset, .unset, .unset, .unset] [(.int (v46 + ((p1 &&& (2147483647 : Int32)) % ((1440 : Int32) - v46))))])) _
    exact kt
  obtain ⟨v61, hv61⟩ : ∃ z : Int32, z = (v46 + ((p1 &&& (2147483647 : Int32)) % ((1440 : Int32) - v46))) := ⟨_, rfl⟩
  rw [← hv61] at k60
  obtain ⟨T62, h62, X62, e62, E62, A62, D62, -, st62⟩ := newO X0 hx hZ hown (hw _ (List.mem_of_getElem? (i := 1) rfl)) (hw _ (List.mem_of_getElem? (i := 2) rfl)) (hw _ (List.mem_of_getElem? (i := 3) rfl)) e0 (g := (mkF m 26 #[.val (.int p0), .val (.int p1), .val (.int p2), .val (.int p3), .val (.int p4), .val (.int v46), .val (.int v61), .unset, .unset, .unset, .unset, .unset] [])) rfl (hb hby at_26) (by decide) (by decide)
  obtain ⟨b62, g62⟩ : ∃ z, z = h0.size := ⟨_, rfl⟩
  rw [← g62] at A62 D62 st62
  have ge_b62 : n0 ≤ b62 := Nat.le_trans Z0 (Nat.le_of_eq g62.symm)
  have F63 : Fld Z h62 b62 "com/example/tidegate/tidegate/model/OperatingDay" "open" "I" (.int (0 : Int32)) := D62 (Or.inr (hw _ (List.mem_of_getElem? (i := 19) rfl))) (ty := .int) (by decide)
  have F64 : Fld Z h62 b62 "com/example/tidegate/tidegate/model/OperatingDay" "close" "I" (.int (0 : Int32)) := D62 (Or.inr (hw _ (List.mem_of_getElem? (i := 21) rfl))) (ty := .int) (by decide)
  have f65 := (Nat.le_trans Z0 ((Keep.refl _ []).ext E62).1)
  have ha66 : ¬ ((own_isday v46 v61) = (0 : Int32)) := (by
      have ar67 := rng32 v46
      have ar68 := rng32 p0
      have ar69 : (2147483647 : Int32).toInt = 2147483647 := by decide
      have ar70 := c_mask p0 (2147483647 : Int32) 31 (by decide) (by decide)
      simp only [show (2 ^ 31 : Nat) = 2147483648 from by decide, Int.cast_ofNat_Int] at ar70
      have ar71 := rng32 (p0 &&& (2147483647 : Int32))
      have ar72 : (1440 : Int32).toInt = 1440 := by decide
      first | have ar73 := (c_irem (p0 &&& (2147483647 : Int32)) (1440 : Int32) 1440 (by decide)).1 (by omega) | have ar73 := c_irem (p0 &&& (2147483647 : Int32)) (1440 : Int32) 1440 (by decide)
      have ar74 := rng32 ((p0 &&& (2147483647 : Int32)) % (1440 : Int32))
      have ar75 := congrArg Int32.toInt hv46
      have ar76 : (0 : Int32).toInt = 0 := by decide
      have ar77 := rng32 v61
      have ar78 := rng32 p1
      have ar79 := c_mask p1 (2147483647 : Int32) 31 (by decide) (by decide)
      simp only [show (2 ^ 31 : Nat) = 2147483648 from by decide, Int.cast_ofNat_Int] at ar79
      have ar80 := rng32 (p1 &&& (2147483647 : Int32))
      have ar81 := rng32 ((1440 : Int32) - v46)
      first | have ar82 : ((1440 : Int32) - v46).toInt = 1440 - v46.toInt := (by have qw := c_isub (1440 : Int32) v46; omega) | (have ar82 := c_isub (1440 : Int32) v46; skip)
      first | have ar83 := (c_iremV (p1 &&& (2147483647 : Int32)) ((1440 : Int32) - v46)).1 (by omega) (by omega) | have ar83 := c_iremV (p1 &&& (2147483647 : Int32)) ((1440 : Int32) - v46)
      have ar84 := rng32 ((p1 &&& (2147483647 : Int32)) % ((1440 : Int32) - v46))
      have ar85 := rng32 (v46 + ((p1 &&& (2147483647 : Int32)) % ((1440 : Int32) - v46)))
      first | have ar86 : (v46 + ((p1 &&& (2147483647 : Int32)) % ((1440 : Int32) - v46))).toInt = v46.toInt + ((p1 &&& (2147483647 : Int32)) % ((1440 : Int32) - v46)).toInt := (by have qw := c_iadd v46 ((p1 &&& (2147483647 : Int32)) % ((1440 : Int32) - v46)); omega) | (have ar86 := c_iadd v46 ((p1 &&& (2147483647 : Int32)) % ((1440 : Int32) - v46)); skip)
      have ar87 := congrArg Int32.toInt hv61
      have ar88 : (1 : Int32).toInt = 1 := by decide
      have ar89 : (v61.toInt < (1440 : Int32).toInt ∧ (if v61 < (1440 : Int32) then (1 : Int32) else (0 : Int32)).toInt = (1 : Int32).toInt) ∨ (¬ (v61.toInt < (1440 : Int32).toInt) ∧ (if v61 < (1440 : Int32) then (1 : Int32) else (0 : Int32)).toInt = (0 : Int32).toInt) := by
            by_cases q : v61 < (1440 : Int32)
            · exact Or.inl ⟨Int32.lt_iff_toInt_lt.mp q, by rw [if_pos q]⟩
            · exact Or.inr ⟨fun q' => q (Int32.lt_iff_toInt_lt.mpr q'), by rw [if_neg q]⟩
      have ar90 : (v61.toInt < v46.toInt ∧ (if v61 < v46 then (0 : Int32) else (if v61 < (1440 : Int32) then (1 : Int32) else (0 : Int32))).toInt = (0 : Int32).toInt) ∨ (¬ (v61.toInt < v46.toInt) ∧ (if v61 < v46 then (0 : Int32) else (if v61 < (1440 : Int32) then (1 : Int32) else (0 : Int32))).toInt = (if v61 < (1440 : Int32) then (1 : Int32) else (0 : Int32)).toInt) := by
            by_cases q : v61 < v46
            · exact Or.inl ⟨Int32.lt_iff_toInt_lt.mp q, by rw [if_pos q]⟩
            · exact Or.inr ⟨fun q' => q (Int32.lt_iff_toInt_lt.mpr q'), by rw [if_neg q]⟩
      have ar91 : (v46.toInt < (0 : Int32).toInt ∧ (if v46 < (0 : Int32) then (0 : Int32) else (if v61 < v46 then (0 : Int32) else (if v61 < (1440 : Int32) then (1 : Int32) else (0 : Int32)))).toInt = (0 : Int32).toInt) ∨ (¬ (v46.toInt < (0 : Int32).toInt) ∧ (if v46 < (0 : Int32) then (0 : Int32) else (if v61 < v46 then (0 : Int32) else (if v61 < (1440 : Int32) then (1 : Int32) else (0 : Int32)))).toInt = (if v61 < v46 then (0 : Int32) else (if v61 < (1440 : Int32) then (1 : Int32) else (0 : Int32))).toInt) := by
            by_cases q : v46 < (0 : Int32)
            · exact Or.inl ⟨Int32.lt_iff_toInt_lt.mp q, by rw [if_pos q]⟩
            · exact Or.inr ⟨fun q' => q (Int32.lt_iff_toInt_lt.mpr q'), by rw [if_neg q]⟩
      have ar92 : (own_isday v46 v61).toInt = (if v46 < (0 : Int32) then (0 : Int32) else (if v61 < v46 then (0 : Int32) else (if v61 < (1440 : Int32) then (1 : Int32) else (0 : Int32)))).toInt := congrArg _ (own_eq_own_isday v46 v61)
      exact fun qq_ => absurd (congrArg Int32.toInt qq_) (by omega))
  obtain ⟨_, _, ⟨T93, L93, kc93, nc93⟩, -, X93, ⟨Lc93, hQ93, l93, y93, z93⟩, st93⟩ := X62.specialBack hx (y := (⟨"com/example/tidegate/tidegate/model/OperatingDay", "<init>", "(II)V"⟩ : MethodName)) rfl hown (mvT hZ (hw _ (List.mem_of_getElem? (i := 4) rfl))) (mvT hZ (hw _ (List.mem_of_getElem? (i := 5) rfl))) (mvT hZ (hw _ (List.mem_of_getElem? (i := 6) rfl))) (by decide) (backOf (W := 1) (rm1 l Z a0 hw [] b62 v46 v61 h62 n0 f65 A62 F63 F64 ge_b62 ha66) hZ (hw _ (List.mem_of_getElem? (i := 6) rfl)) (hw _ (List.mem_of_getElem? (i := 3) rfl)) (by decide) (by decide)) (g := (mkF m 34 #[.val (.int p0), .val (.int p1), .val (.int p2), .val (.int p3), .val (.int p4), .val (.int v46), .val (.int v61), .unset, .unset, .unset, .unset, .unset] [(.int v61), (.int v46), (.ref b62), (.ref b62)])) rfl (by rw [hml]; rfl) (Steps.refl _) (a := b62) (argsL := [(.int v46), (.int v61)]) (rest := [(.ref b62)]) (lenOf pd_0 rfl) rfl (by show 2 * 0 + _ ≤ _; exact Nat.le_of_eq rfl) (hb hby at_34) (fun _ _ => ⟨rfl, e62, (by decide : 1 + 0 ≤ _), (by decide : 2 + 0 ≤ _)⟩)
  dsimp only [Pt.U, Pt.locs, Pt.cells, Pt.slots] at X93 l93 y93 z93 st93 hQ93
  subst l93 y93 z93
  obtain ⟨rfl, Nq93, oK93, oFaopen93, oFaclose93⟩ := hQ93
  have N93 := Fr.app N0 Nq93
  have k94 : ∀ t, Steps p.tables e below (T93.setTop (mkF m 45 #[.val (.int p0), .val (.int p1), .val (.int p2), .val (.int p3), .val (.int p4), .val (.int v46), .val (.int v61), .val (.ref b62), .val (.int p2), .unset, .unset, .unset] [(.int (p3 &&& (1 : Int32)))])) t → Steps p.tables e below (s₁.setTop (entryFrame m #[(.int p0), (.int p1), (.int p2), (.int p3), (.int p4)] maxLocals)) t := by
    intro t kt
    refine k60 t ?_
    refine XS.istore X0.here hx rfl (hb hby at_24) rfl (l' := #[.val (.int p0), .val (.int p1), .val (.int p2), .val (.int p3), .val (.int p4), .val (.int v46), .val (.int v61), .unset, .unset, .unset, .unset, .unset]) rfl ?_
    show Steps p.tables e below (s₁.setTop (mkF m 26 #[.val (.int p0), .val (.int p1), .val (.int p2), .val (.int p3), .val (.int p4), .val (.int v46), .val (.int v61), .unset, .unset, .unset, .unset, .unset] [])) _
    refine st62 _ ?_
    show Steps p.tables e below (T62.setTop (mkF m 29 #[.val (.int p0), .val (.int p1), .val (.int p2), .val (.int p3), .val (.int p4), .val (.int v46), .val (.int v61), .unset, .unset, .unset, .unset, .unset] [(.ref b62)])) _
    refine XS.dup X62.here hx rfl (hb hby at_29) rfl rfl ?_
    show Steps p.tables e below (T62.setTop (mkF m 30 #[.val (.int p0), .val (.int p1), .val (.int p2), .val (.int p3), .val (.int p4), .val (.int v46), .val (.int v61), .unset, .unset, .unset, .unset, .unset] [(.ref b62), (.ref b62)])) _
    refine XS.iload X62.here hx rfl (hb hby at_30) rfl ?_
    show Steps p.tables e below (T62.setTop (mkF m 32 #[.val (.int p0), .val (.int p1), .val (.int p2), .val (.int p3), .val (.int p4), .val (.int v46), .val (.int v61), .unset, .unset, .unset, .unset, .unset] [(.int v46), (.ref b62), (.ref b62)])) _
    refine XS.iload X62.here hx rfl (hb hby at_32) rfl ?_
    show Steps p.tables e below (T62.setTop (mkF m 34 #[.val (.int p0), .val (.int p1), .val (.int p2), .val (.int p3), .val (.int p4), .val (.int v46), .val (.int v61), .unset, .unset, .unset, .unset, .unset] [(.int v61), (.int v46), (.ref b62), (.ref b62)])) _
    refine st93.trans ?_
    show Steps p.tables e below (T93.setTop (mkF m 37 #[.val (.int p0), .val (.int p1), .val (.int p2), .val (.int p3), .val (.int p4), .val (.int v46), .val (.int v61), .unset, .unset, .unset, .unset, .unset] [(.ref b62)])) _
    refine XS.astore X93.here hx rfl (hb hby at_37) rfl rfl (l' := #[.val (.int p0), .val (.int p1), .val (.int p2), .val (.int p3), .val (.int p4), .val (.int v46), .val (.int v61), .val (.ref b62), .unset, .unset, .unset, .unset]) rfl ?_
    show Steps p.tables e below (T93.setTop (mkF m 39 #[.val (.int p0), .val (.int p1), .val (.int p2), .val (.int p3), .val (.int p4), .val (.int v46), .val (.int v61), .val (.ref b62), .unset, .unset, .unset, .unset] [])) _
    refine XS.iloadN X93.here hx rfl (hb hby at_39) rfl ?_
    show Steps p.tables e below (T93.setTop (mkF m 40 #[.val (.int p0), .val (.int p1), .val (.int p2), .val (.int p3), .val (.int p4), .val (.int v46), .val (.int v61), .val (.ref b62), .unset, .unset, .unset, .unset] [(.int p2)])) _
    refine XS.istore X93.here hx rfl (hb hby at_40) rfl (l' := #[.val (.int p0), .val (.int p1), .val (.int p2), .val (.int p3), .val (.int p4), .val (.int v46), .val (.int v61), .val (.ref b62), .val (.int p2), .unset, .unset, .unset]) rfl ?_
    show Steps p.tables e below (T93.setTop (mkF m 42 #[.val (.int p0), .val (.int p1), .val (.int p2), .val (.int p3), .val (.int p4), .val (.int v46), .val (.int v61), .val (.ref b62), .val (.int p2), .unset, .unset, .unset] [])) _
    refine XS.iloadN X93.here hx rfl (hb hby at_42) rfl ?_
    show Steps p.tables e below (T93.setTop (mkF m 43 #[.val (.int p0), .val (.int p1), .val (.int p2), .val (.int p3), .val (.int p4), .val (.int v46), .val (.int v61), .val (.ref b62), .val (.int p2), .unset, .unset, .unset] [(.int p3)])) _
    refine XS.iconst X93.here hx rfl (hb hby at_43) ?_
    show Steps p.tables e below (T93.setTop (mkF m 44 #[.val (.int p0), .val (.int p1), .val (.int p2), .val (.int p3), .val (.int p4), .val (.int v46), .val (.int v61), .val (.ref b62), .val (.int p2), .unset, .unset, .unset] [(.int (1 : Int32)), (.int p3)])) _
    refine XS.iand X93.here hx rfl (hb hby at_44) rfl ?_
    show Steps p.tables e below (T93.setTop (mkF m 45 #[.val (.int p0), .val (.int p1), .val (.int p2), .val (.int p3), .val (.int p4), .val (.int v46), .val (.int v61), .val (.ref b62), .val (.int p2), .unset, .unset, .unset] [(.int (p3 &&& (1 : Int32)))])) _
    exact kt
  have k96 : ∀ t, Steps p.tables e below (T93.setTop (mkF m 60 #[.val (.int p0), .val (.int p1), .val (.int p2), .val (.int p3), .val (.int p4), .val (.int v46), .val (.int v61), .val (.ref b62), .val (.int (if (p3 &&& (1 : Int32)) = (0 : Int32) then p2 else (((p2 &&& (2147483647 : Int32)) % (1442 : Int32)) - (1 : Int32)))), .unset, .unset, .unset] [])) t → Steps p.tables e below (s₁.setTop (entryFrame m #[(.int p0), (.int p1), (.int p2), (.int p3), (.int p4)] maxLocals)) t := by
    intro t kt
    refine k94 t ?_
    by_cases hj45_95 : (p3 &&& (1 : Int32)) = (0 : Int32)
    · refine XS.ifYes X93.here hx rfl (pc0 := 45) (pc' := 60) rfl (hb hby at_45) rfl ((if0 _ _).trans (teq hj45_95).1) (by decide) (by decide) ?_
      show Steps p.tables e below (T93.setTop (mkF m 60 #[.val (.int p0), .val (.int p1), .val (.int p2), .val (.int p3), .val (.int p4), .val (.int v46), .val (.int v61), .val (.ref b62), .val (.int p2), .unset, .unset, .unset] [])) _
      simpa only [if_pos hj45_95] using kt
    · refine XS.ifNo X93.here hx rfl (hb hby at_45) rfl ((if0 _ _).trans (feq hj45_95).1) ?_
      show Steps p.tables e below (T93.setTop (mkF m 48 #[.val (.int p0), .val (.int p1), .val (.int p2), .val (.int p3), .val (.int p4), .val (.int v46), .val (.int v61), .val (.ref b62), .val (.int p2), .unset, .unset, .unset] [])) _
      refine XS.iloadN X93.here hx rfl (hb hby at_48) rfl ?_
      show Steps p.tables e below (T93.setTop (mkF m 49 #[.val (.int p0), .val (.int p1), .val (.int p2), .val (.int p3), .val (.int p4), .val (.int v46), .val (.int v61), .val (.ref b62), .val (.int p2), .unset, .unset, .unset] [(.int p2)])) _
      refine X93.ldcInt hx hown (mvT hZ (hw _ (List.mem_of_getElem? (i := 0) rfl))) (g := (mkF m 49 #[.val (.int p0), .val (.int p1), .val (.int p2), .val (.int p3), .val (.int p4), .val (.int v46), .val (.int v61), .val (.ref b62), .val (.int p2), .unset, .unset, .unset] [(.int p2)])) rfl (hb hby at_49) _ ?_
      show Steps p.tables e below (T93.setTop (mkF m 51 #[.val (.int p0), .val (.int p1), .val (.int p2), .val (.int p3), .val (.int p4), .val (.int v46), .val (.int v61), .val (.ref b62), .val (.int p2), .unset, .unset, .unset] [(.int (2147483647 : Int32)), (.int p2)])) _
      refine XS.iand X93.here hx rfl (hb hby at_51) rfl ?_
      show Steps p.tables e below (T93.setTop (mkF m 52 #[.val (.int p0), .val (.int p1), .val (.int p2), .val (.int p3), .val (.int p4), .val (.int v46), .val (.int v61), .val (.ref b62), .val (.int p2), .unset, .unset, .unset] [(.int (p2 &&& (2147483647 : Int32)))])) _
      refine XS.sipush X93.here hx rfl (hb hby at_52) ?_
      show Steps p.tables e below (T93.setTop (mkF m 55 #[.val (.int p0), .val (.int p1), .val (.int p2), .val (.int p3), .val (.int p4), .val (.int v46), .val (.int v61), .val (.ref b62), .val (.int p2), .unset, .unset, .unset] [(.int (1442 : Int32)), (.int (p2 &&& (2147483647 : Int32)))])) _
      refine iremM X93 hx rfl (hb hby at_55) rfl (by decide) ?_
      show Steps p.tables e below (T93.setTop (mkF m 56 #[.val (.int p0), .val (.int p1), .val (.int p2), .val (.int p3), .val (.int p4), .val (.int v46), .val (.int v61), .val (.ref b62), .val (.int p2), .unset, .unset, .unset] [(.int ((p2 &&& (2147483647 : Int32)) % (1442 : Int32)))])) _
      refine XS.iconst X93.here hx rfl (hb hby at_56) ?_
      show Steps p.tables e below (T93.setTop (mkF m 57 #[.val (.int p0), .val (.int p1), .val (.int p2), .val (.int p3), .val (.int p4), .val (.int v46), .val (.int v61), .val (.ref b62), .val (.int p2), .unset, .unset, .unset] [(.int (1 : Int32)), (.int ((p2 &&& (2147483647 : Int32)) % (1442 : Int32)))])) _
      refine XS.isub X93.here hx rfl (hb hby at_57) rfl ?_
      show Steps p.tables e below (T93.setTop (mkF m 58 #[.val (.int p0), .val (.int p1), .val (.int p2), .val (.int p3), .val (.int p4), .val (.int v46), .val (.int v61), .val (.ref b62), .val (.int p2), .unset, .unset, .unset] [(.int (((p2 &&& (2147483647 : Int32)) % (1442 : Int32)) - (1 : Int32)))])) _
      refine XS.istore X93.here hx rfl (hb hby at_58) rfl (l' := #[.val (.int p0), .val (.int p1), .val (.int p2), .val (.int p3), .val (.int p4), .val (.int v46), .val (.int v61), .val (.ref b62), .val (.int (((p2 &&& (2147483647 : Int32)) % (1442 : Int32)) - (1 : Int32))), .unset, .unset, .unset]) rfl ?_
      show Steps p.tables e below (T93.setTop (mkF m 60 #[.val (.int p0), .val (.int p1), .val (.int p2), .val (.int p3), .val (.int p4), .val (.int v46), .val (.int v61), .val (.ref b62), .val (.int (((p2 &&& (2147483647 : Int32)) % (1442 : Int32)) - (1 : Int32))), .unset, .unset, .unset] [])) _
      simpa only [if_neg hj45_95] using kt
  obtain ⟨vm97, hvm97⟩ : ∃ z : Int32, z = (if (p3 &&& (1 : Int32)) = (0 : Int32) then p2 else (((p2 &&& (2147483647 : Int32)) % (1442 : Int32)) - (1 : Int32))) := ⟨_, rfl⟩
  rw [← hvm97] at k96
  have k98 : ∀ t, Steps p.tables e below (T93.setTop (mkF m 68 #[.val (.int p0), .val (.int p1), .val (.int p2), .val (.int p3), .val (.int p4), .val (.int v46), .val (.int v61), .val (.ref b62), .val (.int vm97), .unset, .unset, .unset] [(.int ((p4 &&& (2147483647 : Int32)) % (60 : Int32)))])) t → Steps p.tables e below (s₁.setTop (entryFrame m #[(.int p0), (.int p1), (.int p2), (.int p3), (.int p4)] maxLocals)) t := by
    intro t kt
    refine k96 t ?_
    refine XS.iload X93.here hx rfl (hb hby at_60) rfl ?_
    show Steps p.tables e below (T93.setTop (mkF m 62 #[.val (.int p0), .val (.int p1), .val (.int p2), .val (.int p3), .val (.int p4), .val (.int v46), .val (.int v61), .val (.ref b62), .val (.int vm97), .unset, .unset, .unset] [(.int p4)])) _
    refine X93.ldcInt hx hown (mvT hZ (hw _ (List.mem_of_getElem? (i := 0) rfl))) (g := (mkF m 62 #[.val (.int p0), .val (.int p1), .val (.int p2), .val (.int p3), .val (.int p4), .val (.int v46), .val (.int v61), .val (.ref b62), .val (.int vm97), .unset, .unset, .unset] [(.int p4)])) rfl (hb hby at_62) _ ?_
    show Steps p.tables e below (T93.setTop (mkF m 64 #[.val (.int p0), .val (.int p1), .val (.int p2), .val (.int p3), .val (.int p4), .val (.int v46), .val (.int v61), .val (.ref b62), .val (.int vm97), .unset, .unset, .unset] [(.int (2147483647 : Int32)), (.int p4)])) _
    refine XS.iand X93.here hx rfl (hb hby at_64) rfl ?_
    show Steps p.tables e below (T93.setTop (mkF m 65 #[.val (.int p0), .val (.int p1), .val (.int p2), .val (.int p3), .val (.int p4), .val (.int v46), .val (.int v61), .val (.ref b62), .val (.int vm97), .unset, .unset, .unset] [(.int (p4 &&& (2147483647 : Int32)))])) _
    refine XS.bipush X93.here hx rfl (hb hby at_65) ?_
    show Steps p.tables e below (T93.setTop (mkF m 67 #[.val (.int p0), .val (.int p1), .val (.int p2), .val (.int p3), .val (.int p4), .val (.int v46), .val (.int v61), .val (.ref b62), .val (.int vm97), .unset, .unset, .unset] [(.int (60 : Int32)), (.int (p4 &&& (2147483647 : Int32)))])) _
    refine iremM X93 hx rfl (hb hby at_67) rfl (by decide) ?_
    show Steps p.tables e below (T93.setTop (mkF m 68 #[.val (.int p0), .val (.int p1), .val (.int p2), .val (.int p3), .val (.int p4), .val (.int v46), .val (.int v61), .val (.ref b62), .val (.int vm97), .unset, .unset, .unset] [(.int ((p4 &&& (2147483647 : Int32)) % (60 : Int32)))])) _
    exact kt
  obtain ⟨v99, hv99⟩ : ∃ z : Int32, z = ((p4 &&& (2147483647 : Int32)) % (60 : Int32)) := ⟨_, rfl⟩
  rw [← hv99] at k98
  have f101 := (A62.keep oK93)
  obtain ⟨cq100, kq100, q100a, q100b, q100c⟩ := isOf hZ rfl f101
  obtain ⟨_, _, ⟨T100, L100, kc100, nc100⟩, -, X100, ⟨Lc100, hQ100, l100, y100, z100⟩, st100⟩ := X93.virtualBack hx (y := (⟨"com/example/tidegate/tidegate/model/OperatingDay", "containsMinute", "(I)Z"⟩ : MethodName)) (z := (⟨"com/example/tidegate/tidegate/model/OperatingDay", "containsMinute", "(I)Z"⟩ : MethodName)) hown (mvT hZ (hw _ (List.mem_of_getElem? (i := 22) rfl))) (mvT hZ (hw _ (List.mem_of_getElem? (i := 23) rfl))) (notFace_of_selects (args := #[]) (mvT hZ (hw _ (List.mem_of_getElem? (i := 25) rfl)))) (mvT hZ (hw _ (List.mem_of_getElem? (i := 25) rfl))) (mvT hZ (hw _ (List.mem_of_getElem? (i := 24) rfl))) (by decide) (backOf (W := 0) (rm5 l Z a0 hw [] b62 vm97 v46 v61 T93.heap n0 oFaopen93 oFaclose93) hZ (hw _ (List.mem_of_getElem? (i := 26) rfl)) (hw _ (List.mem_of_getElem? (i := 3) rfl)) (by decide) (by decide)) q100a q100c (g := (mkF m 74 #[.val (.int p0), .val (.int p1), .val (.int p2), .val (.int p3), .val (.int p4), .val (.int v46), .val (.int v61), .val (.ref b62), .val (.int vm97), .val (.int v99), .unset, .unset] [(.int vm97), (.ref b62)])) rfl (by rw [hml]; rfl) (Steps.refl _) (argsL := [(.int vm97)]) (rest := []) (lenOf pd_3 rfl) rfl (by show 2 * 0 + _ ≤ _; exact Nat.le_of_eq rfl) (hb hby at_74) (fun _ _ => ⟨rfl, rfl, (by decide : 1 + 0 ≤ _), (by decide : 2 + 0 ≤ _)⟩)
  dsimp only [Pt.U, Pt.locs, Pt.cells, Pt.slots] at X100 l100 y100 z100 st100 hQ100
  subst l100 y100 z100
  obtain ⟨rfl, Nq100, eq100⟩ := hQ100
  have N100 := Fr.app N93 Nq100
  have k102 : ∀ t, Steps p.tables e below (T100.setTop (mkF m 77 #[.val (.int p0), .val (.int p1), .val (.int p2), .val (.int p3), .val (.int p4), .val (.int v46), .val (.int v61), .val (.ref b62), .val (.int vm97), .val (.int v99), .unset, .unset] [(.int (own_cm vm97 v46 v61))])) t → Steps p.tables e below (s₁.setTop (entryFrame m #[(.int p0), (.int p1), (.int p2), (.int p3), (.int p4)] maxLocals)) t := by
    intro t kt
    refine k98 t ?_
    refine XS.istore X93.here hx rfl (hb hby at_68) rfl (l' := #[.val (.int p0), .val (.int p1), .val (.int p2), .val (.int p3), .val (.int p4), .val (.int v46), .val (.int v61), .val (.ref b62), .val (.int vm97), .val (.int v99), .unset, .unset]) rfl ?_
    show Steps p.tables e below (T93.setTop (mkF m 70 #[.val (.int p0), .val (.int p1), .val (.int p2), .val (.int p3), .val (.int p4), .val (.int v46), .val (.int v61), .val (.ref b62), .val (.int vm97), .val (.int v99), .unset, .unset] [])) _
    refine XS.aload X93.here hx rfl (hb hby at_70) rfl rfl ?_
    show Steps p.tables e below (T93.setTop (mkF m 72 #[.val (.int p0), .val (.int p1), .val (.int p2), .val (.int p3), .val (.int p4), .val (.int v46), .val (.int v61), .val (.ref b62), .val (.int vm97), .val (.int v99), .unset, .unset] [(.ref b62)])) _
    refine XS.iload X93.here hx rfl (hb hby at_72) rfl ?_
    show Steps p.tables e below (T93.setTop (mkF m 74 #[.val (.int p0), .val (.int p1), .val (.int p2), .val (.int p3), .val (.int p4), .val (.int v46), .val (.int v61), .val (.ref b62), .val (.int vm97), .val (.int v99), .unset, .unset] [(.int vm97), (.ref b62)])) _
    refine st100.trans ?_
    show Steps p.tables e below (T100.setTop (mkF m 77 #[.val (.int p0), .val (.int p1), .val (.int p2), .val (.int p3), .val (.int p4), .val (.int v46), .val (.int v61), .val (.ref b62), .val (.int vm97), .val (.int v99), .unset, .unset] [(.int (own_cm vm97 v46 v61))])) _
    exact kt
  obtain ⟨r103, hr103⟩ : ∃ z : Int32, z = (own_cm vm97 v46 v61) := ⟨_, rfl⟩
  rw [← hr103] at k102
  have k104 : ∀ t, Steps p.tables e below (T100.setTop (mkF m 81 #[.val (.int p0), .val (.int p1), .val (.int p2), .val (.int p3), .val (.int p4), .val (.int v46), .val (.int v61), .val (.ref b62), .val (.int vm97), .val (.int v99), .val (.int r103), .unset] [(.int vm97)])) t → Steps p.tables e below (s₁.setTop (entryFrame m #[(.int p0), (.int p1), (.int p2), (.int p3), (.int p4)] maxLocals)) t := by
    intro t kt
    refine k102 t ?_
    show Steps p.tables e below (T100.setTop (mkF m 77 #[.val (.int p0), .val (.int p1), .val (.int p2), .val (.int p3), .val (.int p4), .val (.int v46), .val (.int v61), .val (.ref b62), .val (.int vm97), .val (.int v99), .unset, .unset] [(.int r103)])) _
    refine XS.istore X100.here hx rfl (hb hby at_77) rfl (l' := #[.val (.int p0), .val (.int p1), .val (.int p2), .val (.int p3), .val (.int p4), .val (.int v46), .val (.int v61), .val (.ref b62), .val (.int vm97), .val (.int v99), .val (.int r103), .unset]) rfl ?_
    show Steps p.tables e below (T100.setTop (mkF m 79 #[.val (.int p0), .val (.int p1), .val (.int p2), .val (.int p3), .val (.int p4), .val (.int v46), .val (.int v61), .val (.ref b62), .val (.int vm97), .val (.int v99), .val (.int r103), .unset] [])) _
    refine XS.iload X100.here hx rfl (hb hby at_79) rfl ?_
    show Steps p.tables e below (T100.setTop (mkF m 81 #[.val (.int p0), .val (.int p1), .val (.int p2), .val (.int p3), .val (.int p4), .val (.int v46), .val (.int v61), .val (.ref b62), .val (.int vm97), .val (.int v99), .val (.int r103), .unset] [(.int vm97)])) _
    exact kt
  by_cases hc81_105 : vm97 < (0 : Int32)
  · have hc117_135 : r103 = (0 : Int32) := (by
        have ar106 := rng32 vm97
        have ar107 : (0 : Int32).toInt = 0 := by decide
        have ar108 : vm97.toInt < (0 : Int32).toInt := Int32.lt_iff_toInt_lt.mp hc81_105
        have ar109 := rng32 r103
        have ar110 := rng32 v46
        have ar111 := rng32 p0
        have ar112 : (2147483647 : Int32).toInt = 2147483647 := by decide
        have ar113 := c_mask p0 (2147483647 : Int32) 31 (by decide) (by decide)
        simp only [show (2 ^ 31 : Nat) = 2147483648 from by decide, Int.cast_ofNat_Int] at ar113
        have ar114 := rng32 (p0 &&& (2147483647 : Int32))
        have ar115 : (1440 : Int32).toInt = 1440 := by decide
        first | have ar116 := (c_irem (p0 &&& (2147483647 : Int32)) (1440 : Int32) 1440 (by decide)).1 (by omega) | have ar116 := c_irem (p0 &&& (2147483647 : Int32)) (1440 : Int32) 1440 (by decide)
        have ar117 := rng32 ((p0 &&& (2147483647 : Int32)) % (1440 : Int32))
        have ar118 := congrArg Int32.toInt hv46
        have ar119 := rng32 v61
        have ar120 := rng32 p1
        have ar121 := c_mask p1 (2147483647 : Int32) 31 (by decide) (by decide)
        simp only [show (2 ^ 31 : Nat) = 2147483648 from by decide, Int.cast_ofNat_Int] at ar121
        have ar122 := rng32 (p1 &&& (2147483647 : Int32))
        have ar123 := rng32 ((1440 : Int32) - v46)
        first | have ar124 : ((1440 : Int32) - v46).toInt = 1440 - v46.toInt := (by have qw := c_isub (1440 : Int32) v46; omega) | (have ar124 := c_isub (1440 : Int32) v46; skip)
        first | have ar125 := (c_iremV (p1 &&& (2147483647 : Int32)) ((1440 : Int32) - v46)).1 (by omega) (by omega) | have ar125 := c_iremV (p1 &&& (2147483647 : Int32)) ((1440 : Int32) - v46)
        have ar126 := rng32 ((p1 &&& (2147483647 : Int32)) % ((1440 : Int32) - v46))
        have ar127 := rng32 (v46 + ((p1 &&& (2147483647 : Int32)) % ((1440 : Int32) - v46)))
        first | have ar128 : (v46 + ((p1 &&& (2147483647 : Int32)) % ((1440 : Int32) - v46))).toInt = v46.toInt + ((p1 &&& (2147483647 : Int32)) % ((1440 : Int32) - v46)).toInt := (by have qw := c_iadd v46 ((p1 &&& (2147483647 : Int32)) % ((1440 : Int32) - v46)); omega) | (have ar128 := c_iadd v46 ((p1 &&& (2147483647 : Int32)) % ((1440 : Int32) - v46)); skip)
        have ar129 := congrArg Int32.toInt hv61
        have ar130 : (1 : Int32).toInt = 1 := by decide
        have ar131 : (v61.toInt < vm97.toInt ∧ (if v61 < vm97 then (0 : Int32) else (1 : Int32)).toInt = (0 : Int32).toInt) ∨ (¬ (v61.toInt < vm97.toInt) ∧ (if v61 < vm97 then (0 : Int32) else (1 : Int32)).toInt = (1 : Int32).toInt) := by
              by_cases q : v61 < vm97
              · exact Or.inl ⟨Int32.lt_iff_toInt_lt.mp q, by rw [if_pos q]⟩
              · exact Or.inr ⟨fun q' => q (Int32.lt_iff_toInt_lt.mpr q'), by rw [if_neg q]⟩
        have ar132 : (vm97.toInt < v46.toInt ∧ (if vm97 < v46 then (0 : Int32) else (if v61 < vm97 then (0 : Int32) else (1 : Int32))).toInt = (0 : Int32).toInt) ∨ (¬ (vm97.toInt < v46.toInt) ∧ (if vm97 < v46 then (0 : Int32) else (if v61 < vm97 then (0 : Int32) else (1 : Int32))).toInt = (if v61 < vm97 then (0 : Int32) else (1 : Int32)).toInt) := by
              by_cases q : vm97 < v46
              · exact Or.inl ⟨Int32.lt_iff_toInt_lt.mp q, by rw [if_pos q]⟩
              · exact Or.inr ⟨fun q' => q (Int32.lt_iff_toInt_lt.mpr q'), by rw [if_neg q]⟩
        have ar133 : (own_cm vm97 v46 v61).toInt = (if vm97 < v46 then (0 : Int32) else (if v61 < vm97 then (0 : Int32) else (1 : Int32))).toInt := congrArg _ (own_eq_own_cm vm97 v46 v61)
        have ar134 := congrArg Int32.toInt hr103
        exact Int32.toInt_inj.mp (by omega))
    obtain ⟨cq136, kq136, q136a, q136b, q136c⟩ := isOf hZ eq100 f101
    obtain ⟨_, _, ⟨T136, L136, kc136, nc136⟩, -, X136, ⟨Lc136, hQ136, l136, y136, z136⟩, st136⟩ := X100.virtualBack hx (y := (⟨"com/example/tidegate/tidegate/model/OperatingDay", "containsMinute", "(I)Z"⟩ : MethodName)) (z := (⟨"com/example/tidegate/tidegate/model/OperatingDay", "containsMinute", "(I)Z"⟩ : MethodName)) hown (mvT hZ (hw _ (List.mem_of_getElem? (i := 22) rfl))) (mvT hZ (hw _ (List.mem_of_getElem? (i := 23) rfl))) (notFace_of_selects (args := #[]) (mvT hZ (hw _ (List.mem_of_getElem? (i := 25) rfl)))) (mvT hZ (hw _ (List.mem_of_getElem? (i := 25) rfl))) (mvT hZ (hw _ (List.mem_of_getElem? (i := 24) rfl))) (by decide) (backOf (W := 0) (rm5 l Z a0 hw [] b62 v46 v46 v61 T93.heap n0 oFaopen93 oFaclose93) hZ (hw _ (List.mem_of_getElem? (i := 26) rfl)) (hw _ (List.mem_of_getElem? (i := 3) rfl)) (by decide) (by decide)) q136a q136c (g := (mkF m 126 #[.val (.int p0), .val (.int p1), .val (.int p2), .val (.int p3), .val (.int p4), .val (.int v46), .val (.int v61), .val (.ref b62), .val (.int vm97), .val (.int v99), .val (.int r103), .val (.int (0 : Int32))] [(.int v46), (.ref b62)])) rfl (by rw [hml]; rfl) (Steps.refl _) (argsL := [(.int v46)]) (rest := []) (lenOf pd_3 rfl) rfl (by show 2 * 0 + _ ≤ _; exact Nat.le_of_eq rfl) (hb hby at_126) (fun _ _ => ⟨rfl, eq100, (by decide : 1 + 0 ≤ _), (by decide : 2 + 0 ≤ _)⟩)
    dsimp only [Pt.U, Pt.locs, Pt.cells, Pt.slots] at X136 l136 y136 z136 st136 hQ136
    subst l136 y136 z136
    obtain ⟨rfl, Nq136, eq136⟩ := hQ136
    have N136 := Fr.app N100 Nq136
    have k137 : ∀ t, Steps p.tables e below (T136.setTop (mkF m 129 #[.val (.int p0), .val (.int p1), .val (.int p2), .val (.int p3), .val (.int p4), .val (.int v46), .val (.int v61), .val (.ref b62), .val (.int vm97), .val (.int v99), .val (.int r103), .val (.int (0 : Int32))] [(.int (own_cm v46 v46 v61))])) t → Steps p.tables e below (s₁.setTop (entryFrame m #[(.int p0), (.int p1), (.int p2), (.int p3), (.int p4)] maxLocals)) t := by
      intro t kt
      refine k104 t ?_
      refine XS.ifYes X100.here hx rfl (pc0 := 81) (pc' := 92) rfl (hb hby at_81) rfl ((if0 _ _).trans (tlt hc81_105).1) (by decide) (by decide) ?_
      show Steps p.tables e below (T100.setTop (mkF m 92 #[.val (.int p0), .val (.int p1), .val (.int p2), .val (.int p3), .val (.int p4), .val (.int v46), .val (.int v61), .val (.ref b62), .val (.int vm97), .val (.int v99), .val (.int r103), .unset] [])) _
      refine XS.iconst X100.here hx rfl (hb hby at_92) ?_
      show Steps p.tables e below (T100.setTop (mkF m 93 #[.val (.int p0), .val (.int p1), .val (.int p2), .val (.int p3), .val (.int p4), .val (.int v46), .val (.int v61), .val (.ref b62), .val (.int vm97), .val (.int v99), .val (.int r103), .unset] [(.int (0 : Int32))])) _
      refine XS.istore X100.here hx rfl (hb hby at_93) rfl (l' := #[.val (.int p0), .val (.int p1), .val (.int p2), .val (.int p3), .val (.int p4), .val (.int v46), .val (.int v61), .val (.ref b62), .val (.int vm97), .val (.int v99), .val (.int r103), .val (.int (0 : Int32))]) rfl ?_
      show Steps p.tables e below (T100.setTop (mkF m 95 #[.val (.int p0), .val (.int p1), .val (.int p2), .val (.int p3), .val (.int p4), .val (.int v46), .val (.int v61), .val (.ref b62), .val (.int vm97), .val (.int v99), .val (.int r103), .val (.int (0 : Int32))] [])) _
      refine XS.goto X100.here hx rfl (pc0 := 95) (pc' := 113) rfl (hb hby at_95) (by decide) (by decide) ?_
      show Steps p.tables e below (T100.setTop (mkF m 113 #[.val (.int p0), .val (.int p1), .val (.int p2), .val (.int p3), .val (.int p4), .val (.int v46), .val (.int v61), .val (.ref b62), .val (.int vm97), .val (.int v99), .val (.int r103), .val (.int (0 : Int32))] [])) _
      refine XS.iload X100.here hx rfl (hb hby at_113) rfl ?_
      show Steps p.tables e below (T100.setTop (mkF m 115 #[.val (.int p0), .val (.int p1), .val (.int p2), .val (.int p3), .val (.int p4), .val (.int v46), .val (.int v61), .val (.ref b62), .val (.int vm97), .val (.int v99), .val (.int r103), .val (.int (0 : Int32))] [(.int r103)])) _
      refine XS.iload X100.here hx rfl (hb hby at_115) rfl ?_
      show Steps p.tables e below (T100.setTop (mkF m 117 #[.val (.int p0), .val (.int p1), .val (.int p2), .val (.int p3), .val (.int p4), .val (.int v46), .val (.int v61), .val (.ref b62), .val (.int vm97), .val (.int v99), .val (.int r103), .val (.int (0 : Int32))] [(.int (0 : Int32)), (.int r103)])) _
      refine XS.icmpYes X100.here hx rfl (pc0 := 117) (pc' := 122) rfl (hb hby at_117) rfl (teq hc117_135).1 (by decide) (by decide) ?_
      show Steps p.tables e below (T100.setTop (mkF m 122 #[.val (.int p0), .val (.int p1), .val (.int p2), .val (.int p3), .val (.int p4), .val (.int v46), .val (.int v61), .val (.ref b62), .val (.int vm97), .val (.int v99), .val (.int r103), .val (.int (0 : Int32))] [])) _
      refine XS.aload X100.here hx rfl (hb hby at_122) rfl rfl ?_
      show Steps p.tables e below (T100.setTop (mkF m 124 #[.val (.int p0), .val (.int p1), .val (.int p2), .val (.int p3), .val (.int p4), .val (.int v46), .val (.int v61), .val (.ref b62), .val (.int vm97), .val (.int v99), .val (.int r103), .val (.int (0 : Int32))] [(.ref b62)])) _
      refine XS.iload X100.here hx rfl (hb hby at_124) rfl ?_
      show Steps p.tables e below (T100.setTop (mkF m 126 #[.val (.int p0), .val (.int p1), .val (.int p2), .val (.int p3), .val (.int p4), .val (.int v46), .val (.int v61), .val (.ref b62), .val (.int vm97), .val (.int v99), .val (.int r103), .val (.int (0 : Int32))] [(.int v46), (.ref b62)])) _
      refine st136.trans ?_
      show Steps p.tables e below (T136.setTop (mkF m 129 #[.val (.int p0), .val (.int p1), .val (.int p2), .val (.int p3), .val (.int p4), .val (.int v46), .val (.int v61), .val (.ref b62), .val (.int vm97), .val (.int v99), .val (.int r103), .val (.int (0 : Int32))] [(.int (own_cm v46 v46 v61))])) _
      exact kt
    obtain ⟨r138, hr138⟩ : ∃ z : Int32, z = (own_cm v46 v46 v61) := ⟨_, rfl⟩
    rw [← hr138] at k137
    have hc129_174 : ¬ (r138 = (0 : Int32)) := (by
        have ar139 := rng32 vm97
        have ar140 : (0 : Int32).toInt = 0 := by decide
        have ar141 : vm97.toInt < (0 : Int32).toInt := Int32.lt_iff_toInt_lt.mp hc81_105
        have ar142 := rng32 r103
        have ar143 := rng32 v46
        have ar144 := rng32 p0
        have ar145 : (2147483647 : Int32).toInt = 2147483647 := by decide
        have ar146 := c_mask p0 (2147483647 : Int32) 31 (by decide) (by decide)
        simp only [show (2 ^ 31 : Nat) = 2147483648 from by decide, Int.cast_ofNat_Int] at ar146
        have ar147 := rng32 (p0 &&& (2147483647 : Int32))
        have ar148 : (1440 : Int32).toInt = 1440 := by decide
        first | have ar149 := (c_irem (p0 &&& (2147483647 : Int32)) (1440 : Int32) 1440 (by decide)).1 (by omega) | have ar149 := c_irem (p0 &&& (2147483647 : Int32)) (1440 : Int32) 1440 (by decide)
        have ar150 := rng32 ((p0 &&& (2147483647 : Int32)) % (1440 : Int32))
        have ar151 := congrArg Int32.toInt hv46
        have ar152 := rng32 v61
        have ar153 := rng32 p1
        have ar154 := c_mask p1 (2147483647 : Int32) 31 (by decide) (by decide)
        simp only [show (2 ^ 31 : Nat) = 2147483648 from by decide, Int.cast_ofNat_Int] at ar154
        have ar155 := rng32 (p1 &&& (2147483647 : Int32))
        have ar156 := rng32 ((1440 : Int32) - v46)
        first | have ar157 : ((1440 : Int32) - v46).toInt = 1440 - v46.toInt := (by have qw := c_isub (1440 : Int32) v46; omega) | (have ar157 := c_isub (1440 : Int32) v46; skip)
        first | have ar158 := (c_iremV (p1 &&& (2147483647 : Int32)) ((1440 : Int32) - v46)).1 (by omega) (by omega) | have ar158 := c_iremV (p1 &&& (2147483647 : Int32)) ((1440 : Int32) - v46)
        have ar159 := rng32 ((p1 &&& (2147483647 : Int32)) % ((1440 : Int32) - v46))
        have ar160 := rng32 (v46 + ((p1 &&& (2147483647 : Int32)) % ((1440 : Int32) - v46)))
        first | have ar161 : (v46 + ((p1 &&& (2147483647 : Int32)) % ((1440 : Int32) - v46))).toInt = v46.toInt + ((p1 &&& (2147483647 : Int32)) % ((1440 : Int32) - v46)).toInt := (by have qw := c_iadd v46 ((p1 &&& (2147483647 : Int32)) % ((1440 : Int32) - v46)); omega) | (have ar161 := c_iadd v46 ((p1 &&& (2147483647 : Int32)) % ((1440 : Int32) - v46)); skip)
        have ar162 := congrArg Int32.toInt hv61
        have ar163 : (1 : Int32).toInt = 1 := by decide
        have ar164 : (v61.toInt < vm97.toInt ∧ (if v61 < vm97 then (0 : Int32) else (1 : Int32)).toInt = (0 : Int32).toInt) ∨ (¬ (v61.toInt < vm97.toInt) ∧ (if v61 < vm97 then (0 : Int32) else (1 : Int32)).toInt = (1 : Int32).toInt) := by
              by_cases q : v61 < vm97
              · exact Or.inl ⟨Int32.lt_iff_toInt_lt.mp q, by rw [if_pos q]⟩
              · exact Or.inr ⟨fun q' => q (Int32.lt_iff_toInt_lt.mpr q'), by rw [if_neg q]⟩
        have ar165 : (vm97.toInt < v46.toInt ∧ (if vm97 < v46 then (0 : Int32) else (if v61 < vm97 then (0 : Int32) else (1 : Int32))).toInt = (0 : Int32).toInt) ∨ (¬ (vm97.toInt < v46.toInt) ∧ (if vm97 < v46 then (0 : Int32) else (if v61 < vm97 then (0 : Int32) else (1 : Int32))).toInt = (if v61 < vm97 then (0 : Int32) else (1 : Int32)).toInt) := by
              by_cases q : vm97 < v46
              · exact Or.inl ⟨Int32.lt_iff_toInt_lt.mp q, by rw [if_pos q]⟩
              · exact Or.inr ⟨fun q' => q (Int32.lt_iff_toInt_lt.mpr q'), by rw [if_neg q]⟩
        have ar166 : (own_cm vm97 v46 v61).toInt = (if vm97 < v46 then (0 : Int32) else (if v61 < vm97 then (0 : Int32) else (1 : Int32))).toInt := congrArg _ (own_eq_own_cm vm97 v46 v61)
        have ar167 := congrArg Int32.toInt hr103
        have ar168 : r103.toInt = (0 : Int32).toInt := congrArg Int32.toInt hc117_135
        have ar169 := rng32 r138
        have ar170 : (v61.toInt < v46.toInt ∧ (if v61 < v46 then (0 : Int32) else (1 : Int32)).toInt = (0 : Int32).toInt) ∨ (¬ (v61.toInt < v46.toInt) ∧ (if v61 < v46 then (0 : Int32) else (1 : Int32)).toInt = (1 : Int32).toInt) := by
              by_cases q : v61 < v46
              · exact Or.inl ⟨Int32.lt_iff_toInt_lt.mp q, by rw [if_pos q]⟩
              · exact Or.inr ⟨fun q' => q (Int32.lt_iff_toInt_lt.mpr q'), by rw [if_neg q]⟩
        have ar171 : (v46.toInt < v46.toInt ∧ (if v46 < v46 then (0 : Int32) else (if v61 < v46 then (0 : Int32) else (1 : Int32))).toInt = (0 : Int32).toInt) ∨ (¬ (v46.toInt < v46.toInt) ∧ (if v46 < v46 then (0 : Int32) else (if v61 < v46 then (0 : Int32) else (1 : Int32))).toInt = (if v61 < v46 then (0 : Int32) else (1 : Int32)).toInt) := by
              by_cases q : v46 < v46
              · exact Or.inl ⟨Int32.lt_iff_toInt_lt.mp q, by rw [if_pos q]⟩
              · exact Or.inr ⟨fun q' => q (Int32.lt_iff_toInt_lt.mpr q'), by rw [if_neg q]⟩
        have ar172 : (own_cm v46 v46 v61).toInt = (if v46 < v46 then (0 : Int32) else (if v61 < v46 then (0 : Int32) else (1 : Int32))).toInt := congrArg _ (own_eq_own_cm v46 v46 v61)
        have ar173 := congrArg Int32.toInt hr138
        exact fun qq_ => absurd (congrArg Int32.toInt qq_) (by omega))
    obtain ⟨cq175, kq175, q175a, q175b, q175c⟩ := isOf hZ eq136 f101
    obtain ⟨_, _, ⟨T175, L175, kc175, nc175⟩, -, X175, ⟨Lc175, hQ175, l175, y175, z175⟩, st175⟩ := X136.virtualBack hx (y := (⟨"com/example/tidegate/tidegate/model/OperatingDay", "containsMinute", "(I)Z"⟩ : MethodName)) (z := (⟨"com/example/tidegate/tidegate/model/OperatingDay", "containsMinute", "(I)Z"⟩ : MethodName)) hown (mvT hZ (hw _ (List.mem_of_getElem? (i := 22) rfl))) (mvT hZ (hw _ (List.mem_of_getElem? (i := 23) rfl))) (notFace_of_selects (args := #[]) (mvT hZ (hw _ (List.mem_of_getElem? (i := 25) rfl)))) (mvT hZ (hw _ (List.mem_of_getElem? (i := 25) rfl))) (mvT hZ (hw _ (List.mem_of_getElem? (i := 24) rfl))) (by decide) (backOf (W := 0) (rm5 l Z a0 hw [] b62 v61 v46 v61 T93.heap n0 oFaopen93 oFaclose93) hZ (hw _ (List.mem_of_getElem? (i := 26) rfl)) (hw _ (List.mem_of_getElem? (i := 3) rfl)) (by decide) (by decide)) q175a q175c (g := (mkF m 138 #[.val (.int p0), .val (.int p1), .val (.int p2), .val (.int p3), .val (.int p4), .val (.int v46), .val (.int v61), .val (.ref b62), .val (.int vm97), .val (.int v99), .val (.int r103), .val (.int (0 : Int32))] [(.int v61), (.ref b62)])) rfl (by rw [hml]; rfl) (Steps.refl _) (argsL := [(.int v61)]) (rest := []) (lenOf pd_3 rfl) rfl (by show 2 * 0 + _ ≤ _; exact Nat.le_of_eq rfl) (hb hby at_138) (fun _ _ => ⟨rfl, eq136, (by decide : 1 + 0 ≤ _), (by decide : 2 + 0 ≤ _)⟩)
    dsimp only [Pt.U, Pt.locs, Pt.cells, Pt.slots] at X175 l175 y175 z175 st175 hQ175
    subst l175 y175 z175
    obtain ⟨rfl, Nq175, eq175⟩ := hQ175
    have N175 := Fr.app N136 Nq175
    have k176 : ∀ t, Steps p.tables e below (T175.setTop (mkF m 141 #[.val (.int p0), .val (.int p1), .val (.int p2), .val (.int p3), .val (.int p4), .val (.int v46), .val (.int v61), .val (.ref b62), .val (.int vm97), .val (.int v99), .val (.int r103), .val (.int (0 : Int32))] [(.int (own_cm v61 v46 v61))])) t → Steps p.tables e below (s₁.setTop (entryFrame m #[(.int p0), (.int p1), (.int p2), (.int p3), (.int p4)] maxLocals)) t := by
      intro t kt
      refine k137 t ?_
      show Steps p.tables e below (T136.setTop (mkF m 129 #[.val (.int p0), .val (.int p1), .val (.int p2), .val (.int p3), .val (.int p4), .val (.int v46), .val (.int v61), .val (.ref b62), .val (.int vm97), .val (.int v99), .val (.int r103), .val (.int (0 : Int32))] [(.int r138)])) _
      refine XS.ifYes X136.here hx rfl (pc0 := 129) (pc' := 134) rfl (hb hby at_129) rfl ((if0 _ _).trans (feq hc129_174).2) (by decide) (by decide) ?_
      show Steps p.tables e below (T136.setTop (mkF m 134 #[.val (.int p0), .val (.int p1), .val (.int p2), .val (.int p3), .val (.int p4), .val (.int v46), .val (.int v61), .val (.ref b62), .val (.int vm97), .val (.int v99), .val (.int r103), .val (.int (0 : Int32))] [])) _
      refine XS.aload X136.here hx rfl (hb hby at_134) rfl rfl ?_
      show Steps p.tables e below (T136.setTop (mkF m 136 #[.val (.int p0), .val (.int p1), .val (.int p2), .val (.int p3), .val (.int p4), .val (.int v46), .val (.int v61), .val (.ref b62), .val (.int vm97), .val (.int v99), .val (.int r103), .val (.int (0 : Int32))] [(.ref b62)])) _
      refine XS.iload X136.here hx rfl (hb hby at_136) rfl ?_
      show Steps p.tables e below (T136.setTop (mkF m 138 #[.val (.int p0), .val (.int p1), .val (.int p2), .val (.int p3), .val (.int p4), .val (.int v46), .val (.int v61), .val (.ref b62), .val (.int vm97), .val (.int v99), .val (.int r103), .val (.int (0 : Int32))] [(.int v61), (.ref b62)])) _
      refine st175.trans ?_
      show Steps p.tables e below (T175.setTop (mkF m 141 #[.val (.int p0), .val (.int p1), .val (.int p2), .val (.int p3), .val (.int p4), .val (.int v46), .val (.int v61), .val (.ref b62), .val (.int vm97), .val (.int v99), .val (.int r103), .val (.int (0 : Int32))] [(.int (own_cm v61 v46 v61))])) _
      exact kt
    obtain ⟨r177, hr177⟩ : ∃ z : Int32, z = (own_cm v61 v46 v61) := ⟨_, rfl⟩
    rw [← hr177] at k176
    have hc141_219 : ¬ (r177 = (0 : Int32)) := (by
        have ar178 := rng32 vm97
        have ar179 : (0 : Int32).toInt = 0 := by decide
        have ar180 : vm97.toInt < (0 : Int32).toInt := Int32.lt_iff_toInt_lt.mp hc81_105
        have ar181 := rng32 r103
        have ar182 := rng32 v46
        have ar183 := rng32 p0
        have ar184 : (2147483647 : Int32).toInt = 2147483647 := by decide
        have ar185 := c_mask p0 (2147483647 : Int32) 31 (by decide) (by decide)
        simp only [show (2 ^ 31 : Nat) = 2147483648 from by decide, Int.cast_ofNat_Int] at ar185
        have ar186 := rng32 (p0 &&& (2147483647 : Int32))
        have ar187 : (1440 : Int32).toInt = 1440 := by decide
        first | have ar188 := (c_irem (p0 &&& (2147483647 : Int32)) (1440 : Int32) 1440 (by decide)).1 (by omega) | have ar188 := c_irem (p0 &&& (2147483647 : Int32)) (1440 : Int32) 1440 (by decide)
        have ar189 := rng32 ((p0 &&& (2147483647 : Int32)) % (1440 : Int32))
        have ar190 := congrArg Int32.toInt hv46
        have ar191 := rng32 v61
        have ar192 := rng32 p1
        have ar193 := c_mask p1 (2147483647 : Int32) 31 (by decide) (by decide)
        simp only [show (2 ^ 31 : Nat) = 2147483648 from by decide, Int.cast_ofNat_Int] at ar193
        have ar194 := rng32 (p1 &&& (2147483647 : Int32))
        have ar195 := rng32 ((1440 : Int32) - v46)
        first | have ar196 : ((1440 : Int32) - v46).toInt = 1440 - v46.toInt := (by have qw := c_isub (1440 : Int32) v46; omega) | (have ar196 := c_isub (1440 : Int32) v46; skip)
        first | have ar197 := (c_iremV (p1 &&& (2147483647 : Int32)) ((1440 : Int32) - v46)).1 (by omega) (by omega) | have ar197 := c_iremV (p1 &&& (2147483647 : Int32)) ((1440 : Int32) - v46)
        have ar198 := rng32 ((p1 &&& (2147483647 : Int32)) % ((1440 : Int32) - v46))
        have ar199 := rng32 (v46 + ((p1 &&& (2147483647 : Int32)) % ((1440 : Int32) - v46)))
        first | have ar200 : (v46 + ((p1 &&& (2147483647 : Int32)) % ((1440 : Int32) - v46))).toInt = v46.toInt + ((p1 &&& (2147483647 : Int32)) % ((1440 : Int32) - v46)).toInt := (by have qw := c_iadd v46 ((p1 &&& (2147483647 : Int32)) % ((1440 : Int32) - v46)); omega) | (have ar200 := c_iadd v46 ((p1 &&& (2147483647 : Int32)) % ((1440 : Int32) - v46)); skip)
        have ar201 := congrArg Int32.toInt hv61
        have ar202 : (1 : Int32).toInt = 1 := by decide
        have ar203 : (v61.toInt < vm97.toInt ∧ (if v61 < vm97 then (0 : Int32) else (1 : Int32)).toInt = (0 : Int32).toInt) ∨ (¬ (v61.toInt < vm97.toInt) ∧ (if v61 < vm97 then (0 : Int32) else (1 : Int32)).toInt = (1 : Int32).toInt) := by
              by_cases q : v61 < vm97
              · exact Or.inl ⟨Int32.lt_iff_toInt_lt.mp q, by rw [if_pos q]⟩
              · exact Or.inr ⟨fun q' => q (Int32.lt_iff_toInt_lt.mpr q'), by rw [if_neg q]⟩
        have ar204 : (vm97.toInt < v46.toInt ∧ (if vm97 < v46 then (0 : Int32) else (if v61 < vm97 then (0 : Int32) else (1 : Int32))).toInt = (0 : Int32).toInt) ∨ (¬ (vm97.toInt < v46.toInt) ∧ (if vm97 < v46 then (0 : Int32) else (if v61 < vm97 then (0 : Int32) else (1 : Int32))).toInt = (if v61 < vm97 then (0 : Int32) else (1 : Int32)).toInt) := by
              by_cases q : vm97 < v46
              · exact Or.inl ⟨Int32.lt_iff_toInt_lt.mp q, by rw [if_pos q]⟩
              · exact Or.inr ⟨fun q' => q (Int32.lt_iff_toInt_lt.mpr q'), by rw [if_neg q]⟩
        have ar205 : (own_cm vm97 v46 v61).toInt = (if vm97 < v46 then (0 : Int32) else (if v61 < vm97 then (0 : Int32) else (1 : Int32))).toInt := congrArg _ (own_eq_own_cm vm97 v46 v61)
        have ar206 := congrArg Int32.toInt hr103
        have ar207 : r103.toInt = (0 : Int32).toInt := congrArg Int32.toInt hc117_135
        have ar208 := rng32 r138
        have ar209 : (v61.toInt < v46.toInt ∧ (if v61 < v46 then (0 : Int32) else (1 : Int32)).toInt = (0 : Int32).toInt) ∨ (¬ (v61.toInt < v46.toInt) ∧ (if v61 < v46 then (0 : Int32) else (1 : Int32)).toInt = (1 : Int32).toInt) := by
              by_cases q : v61 < v46
              · exact Or.inl ⟨Int32.lt_iff_toInt_lt.mp q, by rw [if_pos q]⟩
              · exact Or.inr ⟨fun q' => q (Int32.lt_iff_toInt_lt.mpr q'), by rw [if_neg q]⟩
        have ar210 : (v46.toInt < v46.toInt ∧ (if v46 < v46 then (0 : Int32) else (if v61 < v46 then (0 : Int32) else (1 : Int32))).toInt = (0 : Int32).toInt) ∨ (¬ (v46.toInt < v46.toInt) ∧ (if v46 < v46 then (0 : Int32) else (if v61 < v46 then (0 : Int32) else (1 : Int32))).toInt = (if v61 < v46 then (0 : Int32) else (1 : Int32)).toInt) := by
              by_cases q : v46 < v46
              · exact Or.inl ⟨Int32.lt_iff_toInt_lt.mp q, by rw [if_pos q]⟩
              · exact Or.inr ⟨fun q' => q (Int32.lt_iff_toInt_lt.mpr q'), by rw [if_neg q]⟩
        have ar211 : (own_cm v46 v46 v61).toInt = (if v46 < v46 then (0 : Int32) else (if v61 < v46 then (0 : Int32) else (1 : Int32))).toInt := congrArg _ (own_eq_own_cm v46 v46 v61)
        have ar212 := congrArg Int32.toInt hr138
        have ar213 : ¬ (r138.toInt = (0 : Int32).toInt) := fun qq_ => hc129_174 (Int32.toInt_inj.mp qq_)
        have ar214 := rng32 r177
        have ar215 : (v61.toInt < v61.toInt ∧ (if v61 < v61 then (0 : Int32) else (1 : Int32)).toInt = (0 : Int32).toInt) ∨ (¬ (v61.toInt < v61.toInt) ∧ (if v61 < v61 then (0 : Int32) else (1 : Int32)).toInt = (1 : Int32).toInt) := by
              by_cases q : v61 < v61
              · exact Or.inl ⟨Int32.lt_iff_toInt_lt.mp q, by rw [if_pos q]⟩
              · exact Or.inr ⟨fun q' => q (Int32.lt_iff_toInt_lt.mpr q'), by rw [if_neg q]⟩
        have ar216 : (v61.toInt < v46.toInt ∧ (if v61 < v46 then (0 : Int32) else (if v61 < v61 then (0 : Int32) else (1 : Int32))).toInt = (0 : Int32).toInt) ∨ (¬ (v61.toInt < v46.toInt) ∧ (if v61 < v46 then (0 : Int32) else (if v61 < v61 then (0 : Int32) else (1 : Int32))).toInt = (if v61 < v61 then (0 : Int32) else (1 : Int32)).toInt) := by
              by_cases q : v61 < v46
              · exact Or.inl ⟨Int32.lt_iff_toInt_lt.mp q, by rw [if_pos q]⟩
              · exact Or.inr ⟨fun q' => q (Int32.lt_iff_toInt_lt.mpr q'), by rw [if_neg q]⟩
        have ar217 : (own_cm v61 v46 v61).toInt = (if v61 < v46 then (0 : Int32) else (if v61 < v61 then (0 : Int32) else (1 : Int32))).toInt := congrArg _ (own_eq_own_cm v61 v46 v61)
        have ar218 := congrArg Int32.toInt hr177
        exact fun qq_ => absurd (congrArg Int32.toInt qq_) (by omega))
    obtain ⟨cq220, kq220, q220a, q220b, q220c⟩ := isOf hZ eq175 f101
    obtain ⟨_, _, ⟨T220, L220, kc220, nc220⟩, -, X220, ⟨Lc220, hQ220, l220, y220, z220⟩, st220⟩ := X175.virtualBack hx (y := (⟨"com/example/tidegate/tidegate/model/OperatingDay", "containsMinute", "(I)Z"⟩ : MethodName)) (z := (⟨"com/example/tidegate/tidegate/model/OperatingDay", "containsMinute", "(I)Z"⟩ : MethodName)) hown (mvT hZ (hw _ (List.mem_of_getElem? (i := 22) rfl))) (mvT hZ (hw _ (List.mem_of_getElem? (i := 23) rfl))) (notFace_of_selects (args := #[]) (mvT hZ (hw _ (List.mem_of_getElem? (i := 25) rfl)))) (mvT hZ (hw _ (List.mem_of_getElem? (i := 25) rfl))) (mvT hZ (hw _ (List.mem_of_getElem? (i := 24) rfl))) (by decide) (backOf (W := 0) (rm5 l Z a0 hw [] b62 (v46 - (1 : Int32)) v46 v61 T93.heap n0 oFaopen93 oFaclose93) hZ (hw _ (List.mem_of_getElem? (i := 26) rfl)) (hw _ (List.mem_of_getElem? (i := 3) rfl)) (by decide) (by decide)) q220a q220c (g := (mkF m 152 #[.val (.int p0), .val (.int p1), .val (.int p2), .val (.int p3), .val (.int p4), .val (.int v46), .val (.int v61), .val (.ref b62), .val (.int vm97), .val (.int v99), .val (.int r103), .val (.int (0 : Int32))] [(.int (v46 - (1 : Int32))), (.ref b62)])) rfl (by rw [hml]; rfl) (Steps.refl _) (argsL := [(.int (v46 - (1 : Int32)))]) (rest := []) (lenOf pd_3 rfl) rfl (by show 2 * 0 + _ ≤ _; exact Nat.le_of_eq rfl) (hb hby at_152) (fun _ _ => ⟨rfl, eq175, (by decide : 1 + 0 ≤ _), (by decide : 2 + 0 ≤ _)⟩)
    dsimp only [Pt.U, Pt.locs, Pt.cells, Pt.slots] at X220 l220 y220 z220 st220 hQ220
    subst l220 y220 z220
    obtain ⟨rfl, Nq220, eq220⟩ := hQ220
    have N220 := Fr.app N175 Nq220
    have k221 : ∀ t, Steps p.tables e below (T220.setTop (mkF m 155 #[.val (.int p0), .val (.int p1), .val (.int p2), .val (.int p3), .val (.int p4), .val (.int v46), .val (.int v61), .val (.ref b62), .val (.int vm97), .val (.int v99), .val (.int r103), .val (.int (0 : Int32))] [(.int (own_cm (v46 - (1 : Int32)) v46 v61))])) t → Steps p.tables e below (s₁.setTop (entryFrame m #[(.int p0), (.int p1), (.int p2), (.int p3), (.int p4)] maxLocals)) t := by
      intro t kt
      refine k176 t ?_
      show Steps p.tables e below (T175.setTop (mkF m 141 #[.val (.int p0), .val (.int p1), .val (.int p2), .val (.int p3), .val (.int p4), .val (.int v46), .val (.int v61), .val (.ref b62), .val (.int vm97), .val (.int v99), .val (.int r103), .val (.int (0 : Int32))] [(.int r177)])) _
      refine XS.ifYes X175.here hx rfl (pc0 := 141) (pc' := 146) rfl (hb hby at_141) rfl ((if0 _ _).trans (feq hc141_219).2) (by decide) (by decide) ?_
      show Steps p.tables e below (T175.setTop (mkF m 146 #[.val (.int p0), .val (.int p1), .val (.int p2), .val (.int p3), .val (.int p4), .val (.int v46), .val (.int v61), .val (.ref b62), .val (.int vm97), .val (.int v99), .val (.int r103), .val (.int (0 : Int32))] [])) _
      refine XS.aload X175.here hx rfl (hb hby at_146) rfl rfl ?_
      show Steps p.tables e below (T175.setTop (mkF m 148 #[.val (.int p0), .val (.int p1), .val (.int p2), .val (.int p3), .val (.int p4), .val (.int v46), .val (.int v61), .val (.ref b62), .val (.int vm97), .val (.int v99), .val (.int r103), .val (.int (0 : Int32))] [(.ref b62)])) _
      refine XS.iload X175.here hx rfl (hb hby at_148) rfl ?_
      show Steps p.tables e below (T175.setTop (mkF m 150 #[.val (.int p0), .val (.int p1), .val (.int p2), .val (.int p3), .val (.int p4), .val (.int v46), .val (.int v61), .val (.ref b62), .val (.int vm97), .val (.int v99), .val (.int r103), .val (.int (0 : Int32))] [(.int v46), (.ref b62)])) _
      refine XS.iconst X175.here hx rfl (hb hby at_150) ?_
      show Steps p.tables e below (T175.setTop (mkF m 151 #[.val (.int p0), .val (.int p1), .val (.int p2), .val (.int p3), .val (.int p4), .val (.int v46), .val (.int v61), .val (.ref b62), .val (.int vm97), .val (.int v99), .val (.int r103), .val (.int (0 : Int32))] [(.int (1 : Int32)), (.int v46), (.ref b62)])) _
      refine XS.isub X175.here hx rfl (hb hby at_151) rfl ?_
      show Steps p.tables e below (T175.setTop (mkF m 152 #[.val (.int p0), .val (.int p1), .val (.int p2), .val (.int p3), .val (.int p4), .val (.int v46), .val (.int v61), .val (.ref b62), .val (.int vm97), .val (.int v99), .val (.int r103), .val (.int (0 : Int32))] [(.int (v46 - (1 : Int32))), (.ref b62)])) _
      refine st220.trans ?_
      show Steps p.tables e below (T220.setTop (mkF m 155 #[.val (.int p0), .val (.int p1), .val (.int p2), .val (.int p3), .val (.int p4), .val (.int v46), .val (.int v61), .val (.ref b62), .val (.int vm97), .val (.int v99), .val (.int r103), .val (.int (0 : Int32))] [(.int (own_cm (v46 - (1 : Int32)) v46 v61))])) _
      exact kt
    obtain ⟨r222, hr222⟩ : ∃ z : Int32, z = (own_cm (v46 - (1 : Int32)) v46 v61) := ⟨_, rfl⟩
    rw [← hr222] at k221
    have hc155_272 : r222 = (0 : Int32) := (by
        have ar223 := rng32 vm97
        have ar224 : (0 : Int32).toInt = 0 := by decide
        have ar225 : vm97.toInt < (0 : Int32).toInt := Int32.lt_iff_toInt_lt.mp hc81_105
        have ar226 := rng32 r103
        have ar227 := rng32 v46
        have ar228 := rng32 p0
        have ar229 : (2147483647 : Int32).toInt = 2147483647 := by decide
        have ar230 := c_mask p0 (2147483647 : Int32) 31 (by decide) (by decide)
        simp only [show (2 ^ 31 : Nat) = 2147483648 from by decide, Int.cast_ofNat_Int] at ar230
        have ar231 := rng32 (p0 &&& (2147483647 : Int32))
        have ar232 : (1440 : Int32).toInt = 1440 := by decide
        first | have ar233 := (c_irem (p0 &&& (2147483647 : Int32)) (1440 : Int32) 1440 (by decide)).1 (by omega) | have ar233 := c_irem (p0 &&& (2147483647 : Int32)) (1440 : Int32) 1440 (by decide)
        have ar234 := rng32 ((p0 &&& (2147483647 : Int32)) % (1440 : Int32))
        have ar235 := congrArg Int32.toInt hv46
        have ar236 := rng32 v61
        have ar237 := rng32 p1
        have ar238 := c_mask p1 (2147483647 : Int32) 31 (by decide) (by decide)
        simp only [show (2 ^ 31 : Nat) = 2147483648 from by decide, Int.cast_ofNat_Int] at ar238
        have ar239 := rng32 (p1 &&& (2147483647 : Int32))
        have ar240 := rng32 ((1440 : Int32) - v46)
        first | have ar241 : ((1440 : Int32) - v46).toInt = 1440 - v46.toInt := (by have qw := c_isub (1440 : Int32) v46; omega) | (have ar241 := c_isub (1440 : Int32) v46; skip)
        first | have ar242 := (c_iremV (p1 &&& (2147483647 : Int32)) ((1440 : Int32) - v46)).1 (by omega) (by omega) | have ar242 := c_iremV (p1 &&& (2147483647 : Int32)) ((1440 : Int32) - v46)
        have ar243 := rng32 ((p1 &&& (2147483647 : Int32)) % ((1440 : Int32) - v46))
        have ar244 := rng32 (v46 + ((p1 &&& (2147483647 : Int32)) % ((1440 : Int32) - v46)))
        first | have ar245 : (v46 + ((p1 &&& (2147483647 : Int32)) % ((1440 : Int32) - v46))).toInt = v46.toInt + ((p1 &&& (2147483647 : Int32)) % ((1440 : Int32) - v46)).toInt := (by have qw := c_iadd v46 ((p1 &&& (2147483647 : Int32)) % ((1440 : Int32) - v46)); omega) | (have ar245 := c_iadd v46 ((p1 &&& (2147483647 : Int32)) % ((1440 : Int32) - v46)); skip)
        have ar246 := congrArg Int32.toInt hv61
        have ar247 : (1 : Int32).toInt = 1 := by decide
        have ar248 : (v61.toInt < vm97.toInt ∧ (if v61 < vm97 then (0 : Int32) else (1 : Int32)).toInt = (0 : Int32).toInt) ∨ (¬ (v61.toInt < vm97.toInt) ∧ (if v61 < vm97 then (0 : Int32) else (1 : Int32)).toInt = (1 : Int32).toInt) := by
              by_cases q : v61 < vm97
              · exact Or.inl ⟨Int32.lt_iff_toInt_lt.mp q, by rw [if_pos q]⟩
              · exact Or.inr ⟨fun q' => q (Int32.lt_iff_toInt_lt.mpr q'), by rw [if_neg q]⟩
        have ar249 : (vm97.toInt < v46.toInt ∧ (if vm97 < v46 then (0 : Int32) else (if v61 < vm97 then (0 : Int32) else (1 : Int32))).toInt = (0 : Int32).toInt) ∨ (¬ (vm97.toInt < v46.toInt) ∧ (if vm97 < v46 then (0 : Int32) else (if v61 < vm97 then (0 : Int32) else (1 : Int32))).toInt = (if v61 < vm97 then (0 : Int32) else (1 : Int32)).toInt) := by
              by_cases q : vm97 < v46
              · exact Or.inl ⟨Int32.lt_iff_toInt_lt.mp q, by rw [if_pos q]⟩
              · exact Or.inr ⟨fun q' => q (Int32.lt_iff_toInt_lt.mpr q'), by rw [if_neg q]⟩
        have ar250 : (own_cm vm97 v46 v61).toInt = (if vm97 < v46 then (0 : Int32) else (if v61 < vm97 then (0 : Int32) else (1 : Int32))).toInt := congrArg _ (own_eq_own_cm vm97 v46 v61)
        have ar251 := congrArg Int32.toInt hr103
        have ar252 : r103.toInt = (0 : Int32).toInt := congrArg Int32.toInt hc117_135
        have ar253 := rng32 r138
        have ar254 : (v61.toInt < v46.toInt ∧ (if v61 < v46 then (0 : Int32) else (1 : Int32)).toInt = (0 : Int32).toInt) ∨ (¬ (v61.toInt < v46.toInt) ∧ (if v61 < v46 then (0 : Int32) else (1 : Int32)).toInt = (1 : Int32).toInt) := by
              by_cases q : v61 < v46
              · exact Or.inl ⟨Int32.lt_iff_toInt_lt.mp q, by rw [if_pos q]⟩
              · exact Or.inr ⟨fun q' => q (Int32.lt_iff_toInt_lt.mpr q'), by rw [if_neg q]⟩
        have ar255 : (v46.toInt < v46.toInt ∧ (if v46 < v46 then (0 : Int32) else (if v61 < v46 then (0 : Int32) else (1 : Int32))).toInt = (0 : Int32).toInt) ∨ (¬ (v46.toInt < v46.toInt) ∧ (if v46 < v46 then (0 : Int32) else (if v61 < v46 then (0 : Int32) else (1 : Int32))).toInt = (if v61 < v46 then (0 : Int32) else (1 : Int32)).toInt) := by
              by_cases q : v46 < v46
              · exact Or.inl ⟨Int32.lt_iff_toInt_lt.mp q, by rw [if_pos q]⟩
              · exact Or.inr ⟨fun q' => q (Int32.lt_iff_toInt_lt.mpr q'), by rw [if_neg q]⟩
        have ar256 : (own_cm v46 v46 v61).toInt = (if v46 < v46 then (0 : Int32) else (if v61 < v46 then (0 : Int32) else (1 : Int32))).toInt := congrArg _ (own_eq_own_cm v46 v46 v61)
        have ar257 := congrArg Int32.toInt hr138
        have ar258 : ¬ (r138.toInt = (0 : Int32).toInt) := fun qq_ => hc129_174 (Int32.toInt_inj.mp qq_)
        have ar259 := rng32 r177
        have ar260 : (v61.toInt < v61.toInt ∧ (if v61 < v61 then (0 : Int32) else (1 : Int32)).toInt = (0 : Int32).toInt) ∨ (¬ (v61.toInt < v61.toInt) ∧ (if v61 < v61 then (0 : Int32) else (1 : Int32)).toInt = (1 : Int32).toInt) := by
              by_cases q : v61 < v61
              · exact Or.inl ⟨Int32.lt_iff_toInt_lt.mp q, by rw [if_pos q]⟩
              · exact Or.inr ⟨fun q' => q (Int32.lt_iff_toInt_lt.mpr q'), by rw [if_neg q]⟩
        have ar261 : (v61.toInt < v46.toInt ∧ (if v61 < v46 then (0 : Int32) else (if v61 < v61 then (0 : Int32) else (1 : Int32))).toInt = (0 : Int32).toInt) ∨ (¬ (v61.toInt < v46.toInt) ∧ (if v61 < v46 then (0 : Int32) else (if v61 < v61 then (0 : Int32) else (1 : Int32))).toInt = (if v61 < v61 then (0 : Int32) else (1 : Int32)).toInt) := by
              by_cases q : v61 < v46
              · exact Or.inl ⟨Int32.lt_iff_toInt_lt.mp q, by rw [if_pos q]⟩
              · exact Or.inr ⟨fun q' => q (Int32.lt_iff_toInt_lt.mpr q'), by rw [if_neg q]⟩
        have ar262 : (own_cm v61 v46 v61).toInt = (if v61 < v46 then (0 : Int32) else (if v61 < v61 then (0 : Int32) else (1 : Int32))).toInt := congrArg _ (own_eq_own_cm v61 v46 v61)
        have ar263 := congrArg Int32.toInt hr177
        have ar264 : ¬ (r177.toInt = (0 : Int32).toInt) := fun qq_ => hc141_219 (Int32.toInt_inj.mp qq_)
        have ar265 := rng32 r222
        have ar266 := rng32 (v46 - (1 : Int32))
        first | have ar267 : (v46 - (1 : Int32)).toInt = v46.toInt - 1 := (by have qw := c_isub v46 (1 : Int32); omega) | (have ar267 := c_isub v46 (1 : Int32); skip)
        have ar268 : (v61.toInt < (v46 - (1 : Int32)).toInt ∧ (if v61 < (v46 - (1 : Int32)) then (0 : Int32) else (1 : Int32)).toInt = (0 : Int32).toInt) ∨ (¬ (v61.toInt < (v46 - (1 : Int32)).toInt) ∧ (if v61 < (v46 - (1 : Int32)) then (0 : Int32) else (1 : Int32)).toInt = (1 : Int32).toInt) := by
              by_cases q : v61 < (v46 - (1 : Int32))
              · exact Or.inl ⟨Int32.lt_iff_toInt_lt.mp q, by rw [if_pos q]⟩
              · exact Or.inr ⟨fun q' => q (Int32.lt_iff_toInt_lt.mpr q'), by rw [if_neg q]⟩
        have ar269 : ((v46 - (1 : Int32)).toInt < v46.toInt ∧ (if (v46 - (1 : Int32)) < v46 then (0 : Int32) else (if v61 < (v46 - (1 : Int32)) then (0 : Int32) else (1 : Int32))).toInt = (0 : Int32).toInt) ∨ (¬ ((v46 - (1 : Int32)).toInt < v46.toInt) ∧ (if (v46 - (1 : Int32)) < v46 then (0 : Int32) else (if v61 < (v46 - (1 : Int32)) then (0 : Int32) else (1 : Int32))).toInt = (if v61 < (v46 - (1 : Int32)) then (0 : Int32) else (1 : Int32)).toInt) := by
              by_cases q : (v46 - (1 : Int32)) < v46
              · exact Or.inl ⟨Int32.lt_iff_toInt_lt.mp q, by rw [if_pos q]⟩
              · exact Or.inr ⟨fun q' => q (Int32.lt_iff_toInt_lt.mpr q'), by rw [if_neg q]⟩
        have ar270 : (own_cm (v46 - (1 : Int32)) v46 v61).toInt = (if (v46 - (1 : Int32)) < v46 then (0 : Int32) else (if v61 < (v46 - (1 : Int32)) then (0 : Int32) else (1 : Int32))).toInt := congrArg _ (own_eq_own_cm (v46 - (1 : Int32)) v46 v61)
        have ar271 := congrArg Int32.toInt hr222
        exact Int32.toInt_inj.mp (by omega))
    obtain ⟨cq273, kq273, q273a, q273b, q273c⟩ := isOf hZ eq220 f101
    obtain ⟨_, _, ⟨T273, L273, kc273, nc273⟩, -, X273, ⟨Lc273, hQ273, l273, y273, z273⟩, st273⟩ := X220.virtualBack hx (y := (⟨"com/example/tidegate/tidegate/model/OperatingDay", "containsMinute", "(I)Z"⟩ : MethodName)) (z := (⟨"com/example/tidegate/tidegate/model/OperatingDay", "containsMinute", "(I)Z"⟩ : MethodName)) hown (mvT hZ (hw _ (List.mem_of_getElem? (i := 22) rfl))) (mvT hZ (hw _ (List.mem_of_getElem? (i := 23) rfl))) (notFace_of_selects (args := #[]) (mvT hZ (hw _ (List.mem_of_getElem? (i := 25) rfl)))) (mvT hZ (hw _ (List.mem_of_getElem? (i := 25) rfl))) (mvT hZ (hw _ (List.mem_of_getElem? (i := 24) rfl))) (by decide) (backOf (W := 0) (rm5 l Z a0 hw [] b62 (v61 + (1 : Int32)) v46 v61 T93.heap n0 oFaopen93 oFaclose93) hZ (hw _ (List.mem_of_getElem? (i := 26) rfl)) (hw _ (List.mem_of_getElem? (i := 3) rfl)) (by decide) (by decide)) q273a q273c (g := (mkF m 166 #[.val (.int p0), .val (.int p1), .val (.int p2), .val (.int p3), .val (.int p4), .val (.int v46), .val (.int v61), .val (.ref b62), .val (.int vm97), .val (.int v99), .val (.int r103), .val (.int (0 : Int32))] [(.int (v61 + (1 : Int32))), (.ref b62)])) rfl (by rw [hml]; rfl) (Steps.refl _) (argsL := [(.int (v61 + (1 : Int32)))]) (rest := []) (lenOf pd_3 rfl) rfl (by show 2 * 0 + _ ≤ _; exact Nat.le_of_eq rfl) (hb hby at_166) (fun _ _ => ⟨rfl, eq220, (by decide : 1 + 0 ≤ _), (by decide : 2 + 0 ≤ _)⟩)
    dsimp only [Pt.U, Pt.locs, Pt.cells, Pt.slots] at X273 l273 y273 z273 st273 hQ273
    subst l273 y273 z273
    obtain ⟨rfl, Nq273, eq273⟩ := hQ273
    have N273 := Fr.app N220 Nq273
    have k274 : ∀ t, Steps p.tables e below (T273.setTop (mkF m 169 #[.val (.int p0), .val (.int p1), .val (.int p2), .val (.int p3), .val (.int p4), .val (.int v46), .val (.int v61), .val (.ref b62), .val (.int vm97), .val (.int v99), .val (.int r103), .val (.int (0 : Int32))] [(.int (own_cm (v61 + (1 : Int32)) v46 v61))])) t → Steps p.tables e below (s₁.setTop (entryFrame m #[(.int p0), (.int p1), (.int p2), (.int p3), (.int p4)] maxLocals)) t := by
      intro t kt
      refine k221 t ?_
      show Steps p.tables e below (T220.setTop (mkF m 155 #[.val (.int p0), .val (.int p1), .val (.int p2), .val (.int p3), .val (.int p4), .val (.int v46), .val (.int v61), .val (.ref b62), .val (.int vm97), .val (.int v99), .val (.int r103), .val (.int (0 : Int32))] [(.int r222)])) _
      refine XS.ifYes X220.here hx rfl (pc0 := 155) (pc' := 160) rfl (hb hby at_155) rfl ((if0 _ _).trans (teq hc155_272).1) (by decide) (by decide) ?_
      show Steps p.tables e below (T220.setTop (mkF m 160 #[.val (.int p0), .val (.int p1), .val (.int p2), .val (.int p3), .val (.int p4), .val (.int v46), .val (.int v61), .val (.ref b62), .val (.int vm97), .val (.int v99), .val (.int r103), .val (.int (0 : Int32))] [])) _
      refine XS.aload X220.here hx rfl (hb hby at_160) rfl rfl ?_
      show Steps p.tables e below (T220.setTop (mkF m 162 #[.val (.int p0), .val (.int p1), .val (.int p2), .val (.int p3), .val (.int p4), .val (.int v46), .val (.int v61), .val (.ref b62), .val (.int vm97), .val (.int v99), .val (.int r103), .val (.int (0 : Int32))] [(.ref b62)])) _
      refine XS.iload X220.here hx rfl (hb hby at_162) rfl ?_
      show Steps p.tables e below (T220.setTop (mkF m 164 #[.val (.int p0), .val (.int p1), .val (.int p2), .val (.int p3), .val (.int p4), .val (.int v46), .val (.int v61), .val (.ref b62), .val (.int vm97), .val (.int v99), .val (.int r103), .val (.int (0 : Int32))] [(.int v61), (.ref b62)])) _
      refine XS.iconst X220.here hx rfl (hb hby at_164) ?_
      show Steps p.tables e below (T220.setTop (mkF m 165 #[.val (.int p0), .val (.int p1), .val (.int p2), .val (.int p3), .val (.int p4), .val (.int v46), .val (.int v61), .val (.ref b62), .val (.int vm97), .val (.int v99), .val (.int r103), .val (.int (0 : Int32))] [(.int (1 : Int32)), (.int v61), (.ref b62)])) _
      refine XS.iadd X220.here hx rfl (hb hby at_165) rfl ?_
      show Steps p.tables e below (T220.setTop (mkF m 166 #[.val (.int p0), .val (.int p1), .val (.int p2), .val (.int p3), .val (.int p4), .val (.int v46), .val (.int v61), .val (.ref b62), .val (.int vm97), .val (.int v99), .val (.int r103), .val (.int (0 : Int32))] [(.int (v61 + (1 : Int32))), (.ref b62)])) _
      refine st273.trans ?_
      show Steps p.tables e below (T273.setTop (mkF m 169 #[.val (.int p0), .val (.int p1), .val (.int p2), .val (.int p3), .val (.int p4), .val (.int v46), .val (.int v61), .val (.ref b62), .val (.int vm97), .val (.int v99), .val (.int r103), .val (.int (0 : Int32))] [(.int (own_cm (v61 + (1 : Int32)) v46 v61))])) _
      exact kt
    obtain ⟨r275, hr275⟩ : ∃ z : Int32, z = (own_cm (v61 + (1 : Int32)) v46 v61) := ⟨_, rfl⟩
    rw [← hr275] at k274
    have hc169_333 : r275 = (0 : Int32) := (by
        have ar276 := rng32 vm97
        have ar277 : (0 : Int32).toInt = 0 := by decide
        have ar278 : vm97.toInt < (0 : Int32).toInt := Int32.lt_iff_toInt_lt.mp hc81_105
        have ar279 := rng32 r103
        have ar280 := rng32 v46
        have ar281 := rng32 p0
        have ar282 : (2147483647 : Int32).toInt = 2147483647 := by decide
        have ar283 := c_mask p0 (2147483647 : Int32) 31 (by decide) (by decide)
        simp only [show (2 ^ 31 : Nat) = 2147483648 from by decide, Int.cast_ofNat_Int] at ar283
        have ar284 := rng32 (p0 &&& (2147483647 : Int32))
        have ar285 : (1440 : Int32).toInt = 1440 := by decide
        first | have ar286 := (c_irem (p0 &&& (2147483647 : Int32)) (1440 : Int32) 1440 (by decide)).1 (by omega) | have ar286 := c_irem (p0 &&& (2147483647 : Int32)) (1440 : Int32) 1440 (by decide)
        have ar287 := rng32 ((p0 &&& (2147483647 : Int32)) % (1440 : Int32))
        have ar288 := congrArg Int32.toInt hv46
        have ar289 := rng32 v61
        have ar290 := rng32 p1
        have ar291 := c_mask p1 (2147483647 : Int32) 31 (by decide) (by decide)
        simp only [show (2 ^ 31 : Nat) = 2147483648 from by decide, Int.cast_ofNat_Int] at ar291
        have ar292 := rng32 (p1 &&& (2147483647 : Int32))
        have ar293 := rng32 ((1440 : Int32) - v46)
        first | have ar294 : ((1440 : Int32) - v46).toInt = 1440 - v46.toInt := (by have qw := c_isub (1440 : Int32) v46; omega) | (have ar294 := c_isub (1440 : Int32) v46; skip)
        first | have ar295 := (c_iremV (p1 &&& (2147483647 : Int32)) ((1440 : Int32) - v46)).1 (by omega) (by omega) | have ar295 := c_iremV (p1 &&& (2147483647 : Int32)) ((1440 : Int32) - v46)
        have ar296 := rng32 ((p1 &&& (2147483647 : Int32)) % ((1440 : Int32) - v46))
        have ar297 := rng32 (v46 + ((p1 &&& (2147483647 : Int32)) % ((1440 : Int32) - v46)))
        first | have ar298 : (v46 + ((p1 &&& (2147483647 : Int32)) % ((1440 : Int32) - v46))).toInt = v46.toInt + ((p1 &&& (2147483647 : Int32)) % ((1440 : Int32) - v46)).toInt := (by have qw := c_iadd v46 ((p1 &&& (2147483647 : Int32)) % ((1440 : Int32) - v46)); omega) | (have ar298 := c_iadd v46 ((p1 &&& (2147483647 : Int32)) % ((1440 : Int32) - v46)); skip)
        have ar299 := congrArg Int32.toInt hv61
        have ar300 : (1 : Int32).toInt = 1 := by decide
        have ar301 : (v61.toInt < vm97.toInt ∧ (if v61 < vm97 then (0 : Int32) else (1 : Int32)).toInt = (0 : Int32).toInt) ∨ (¬ (v61.toInt < vm97.toInt) ∧ (if v61 < vm97 then (0 : Int32) else (1 : Int32)).toInt = (1 : Int32).toInt) := by
              by_cases q : v61 < vm97
              · exact Or.inl ⟨Int32.lt_iff_toInt_lt.mp q, by rw [if_pos q]⟩
              · exact Or.inr ⟨fun q' => q (Int32.lt_iff_toInt_lt.mpr q'), by rw [if_neg q]⟩
        have ar302 : (vm97.toInt < v46.toInt ∧ (if vm97 < v46 then (0 : Int32) else (if v61 < vm97 then (0 : Int32) else (1 : Int32))).toInt = (0 : Int32).toInt) ∨ (¬ (vm97.toInt < v46.toInt) ∧ (if vm97 < v46 then (0 : Int32) else (if v61 < vm97 then (0 : Int32) else (1 : Int32))).toInt = (if v61 < vm97 then (0 : Int32) else (1 : Int32)).toInt) := by
              by_cases q : vm97 < v46
              · exact Or.inl ⟨Int32.lt_iff_toInt_lt.mp q, by rw [if_pos q]⟩
              · exact Or.inr ⟨fun q' => q (Int32.lt_iff_toInt_lt.mpr q'), by rw [if_neg q]⟩
        have ar303 : (own_cm vm97 v46 v61).toInt = (if vm97 < v46 then (0 : Int32) else (if v61 < vm97 then (0 : Int32) else (1 : Int32))).toInt := congrArg _ (own_eq_own_cm vm97 v46 v61)
        have ar304 := congrArg Int32.toInt hr103
        have ar305 : r103.toInt = (0 : Int32).toInt := congrArg Int32.toInt hc117_135
        have ar306 := rng32 r138
        have ar307 : (v61.toInt < v46.toInt ∧ (if v61 < v46 then (0 : Int32) else (1 : Int32)).toInt = (0 : Int32).toInt) ∨ (¬ (v61.toInt < v46.toInt) ∧ (if v61 < v46 then (0 : Int32) else (1 : Int32)).toInt = (1 : Int32).toInt) := by
              by_cases q : v61 < v46
              · exact Or.inl ⟨Int32.lt_iff_toInt_lt.mp q, by rw [if_pos q]⟩
              · exact Or.inr ⟨fun q' => q (Int32.lt_iff_toInt_lt.mpr q'), by rw [if_neg q]⟩
        have ar308 : (v46.toInt < v46.toInt ∧ (if v46 < v46 then (0 : Int32) else (if v61 < v46 then (0 : Int32) else (1 : Int32))).toInt = (0 : Int32).toInt) ∨ (¬ (v46.toInt < v46.toInt) ∧ (if v46 < v46 then (0 : Int32) else (if v61 < v46 then (0 : Int32) else (1 : Int32))).toInt = (if v61 < v46 then (0 : Int32) else (1 : Int32)).toInt) := by
              by_cases q : v46 < v46
              · exact Or.inl ⟨Int32.lt_iff_toInt_lt.mp q, by rw [if_pos q]⟩
              · exact Or.inr ⟨fun q' => q (Int32.lt_iff_toInt_lt.mpr q'), by rw [if_neg q]⟩
        have ar309 : (own_cm v46 v46 v61).toInt = (if v46 < v46 then (0 : Int32) else (if v61 < v46 then (0 : Int32) else (1 : Int32))).toInt := congrArg _ (own_eq_own_cm v46 v46 v61)
        have ar310 := congrArg Int32.toInt hr138
        have ar311 : ¬ (r138.toInt = (0 : Int32).toInt) := fun qq_ => hc129_174 (Int32.toInt_inj.mp qq_)
        have ar312 := rng32 r177
        have ar313 : (v61.toInt < v61.toInt ∧ (if v61 < v61 then (0 : Int32) else (1 : Int32)).toInt = (0 : Int32).toInt) ∨ (¬ (v61.toInt < v61.toInt) ∧ (if v61 < v61 then (0 : Int32) else (1 : Int32)).toInt = (1 : Int32).toInt) := by
              by_cases q : v61 < v61
              · exact Or.inl ⟨Int32.lt_iff_toInt_lt.mp q, by rw [if_pos q]⟩
              · exact Or.inr ⟨fun q' => q (Int32.lt_iff_toInt_lt.mpr q'), by rw [if_neg q]⟩
        have ar314 : (v61.toInt < v46.toInt ∧ (if v61 < v46 then (0 : Int32) else (if v61 < v61 then (0 : Int32) else (1 : Int32))).toInt = (0 : Int32).toInt) ∨ (¬ (v61.toInt < v46.toInt) ∧ (if v61 < v46 then (0 : Int32) else (if v61 < v61 then (0 : Int32) else (1 : Int32))).toInt = (if v61 < v61 then (0 : Int32) else (1 : Int32)).toInt) := by
              by_cases q : v61 < v46
              · exact Or.inl ⟨Int32.lt_iff_toInt_lt.mp q, by rw [if_pos q]⟩
              · exact Or.inr ⟨fun q' => q (Int32.lt_iff_toInt_lt.mpr q'), by rw [if_neg q]⟩
        have ar315 : (own_cm v61 v46 v61).toInt = (if v61 < v46 then (0 : Int32) else (if v61 < v61 then (0 : Int32) else (1 : Int32))).toInt := congrArg _ (own_eq_own_cm v61 v46 v61)
        have ar316 := congrArg Int32.toInt hr177
        have ar317 : ¬ (r177.toInt = (0 : Int32).toInt) := fun qq_ => hc141_219 (Int32.toInt_inj.mp qq_)
        have ar318 := rng32 r222
        have ar319 := rng32 (v46 - (1 : Int32))
        first | have ar320 : (v46 - (1 : Int32)).toInt = v46.toInt - 1 := (by have qw := c_isub v46 (1 : Int32); omega) | (have ar320 := c_isub v46 (1 : Int32); skip)
        have ar321 : (v61.toInt < (v46 - (1 : Int32)).toInt ∧ (if v61 < (v46 - (1 : Int32)) then (0 : Int32) else (1 : Int32)).toInt = (0 : Int32).toInt) ∨ (¬ (v61.toInt < (v46 - (1 : Int32)).toInt) ∧ (if v61 < (v46 - (1 : Int32)) then (0 : Int32) else (1 : Int32)).toInt = (1 : Int32).toInt) := by
              by_cases q : v61 < (v46 - (1 : Int32))
              · exact Or.inl ⟨Int32.lt_iff_toInt_lt.mp q, by rw [if_pos q]⟩
              · exact Or.inr ⟨fun q' => q (Int32.lt_iff_toInt_lt.mpr q'), by rw [if_neg q]⟩
        have ar322 : ((v46 - (1 : Int32)).toInt < v46.toInt ∧ (if (v46 - (1 : Int32)) < v46 then (0 : Int32) else (if v61 < (v46 - (1 : Int32)) then (0 : Int32) else (1 : Int32))).toInt = (0 : Int32).toInt) ∨ (¬ ((v46 - (1 : Int32)).toInt < v46.toInt) ∧ (if (v46 - (1 : Int32)) < v46 then (0 : Int32) else (if v61 < (v46 - (1 : Int32)) then (0 : Int32) else (1 : Int32))).toInt = (if v61 < (v46 - (1 : Int32)) then (0 : Int32) else (1 : Int32)).toInt) := by
              by_cases q : (v46 - (1 : Int32)) < v46
              · exact Or.inl ⟨Int32.lt_iff_toInt_lt.mp q, by rw [if_pos q]⟩
              · exact Or.inr ⟨fun q' => q (Int32.lt_iff_toInt_lt.mpr q'), by rw [if_neg q]⟩
        have ar323 : (own_cm (v46 - (1 : Int32)) v46 v61).toInt = (if (v46 - (1 : Int32)) < v46 then (0 : Int32) else (if v61 < (v46 - (1 : Int32)) then (0 : Int32) else (1 : Int32))).toInt := congrArg _ (own_eq_own_cm (v46 - (1 : Int32)) v46 v61)
        have ar324 := congrArg Int32.toInt hr222
        have ar325 : r222.toInt = (0 : Int32).toInt := congrArg Int32.toInt hc155_272
        have ar326 := rng32 r275
        have ar327 := rng32 (v61 + (1 : Int32))
        first | have ar328 : (v61 + (1 : Int32)).toInt = v61.toInt + 1 := (by have qw := c_iadd v61 (1 : Int32); omega) | (have ar328 := c_iadd v61 (1 : Int32); skip)
        have ar329 : (v61.toInt < (v61 + (1 : Int32)).toInt ∧ (if v61 < (v61 + (1 : Int32)) then (0 : Int32) else (1 : Int32)).toInt = (0 : Int32).toInt) ∨ (¬ (v61.toInt < (v61 + (1 : Int32)).toInt) ∧ (if v61 < (v61 + (1 : Int32)) then (0 : Int32) else (1 : Int32)).toInt = (1 : Int32).toInt) := by
              by_cases q : v61 < (v61 + (1 : Int32))
              · exact Or.inl ⟨Int32.lt_iff_toInt_lt.mp q, by rw [if_pos q]⟩
              · exact Or.inr ⟨fun q' => q (Int32.lt_iff_toInt_lt.mpr q'), by rw [if_neg q]⟩
        have ar330 : ((v61 + (1 : Int32)).toInt < v46.toInt ∧ (if (v61 + (1 : Int32)) < v46 then (0 : Int32) else (if v61 < (v61 + (1 : Int32)) then (0 : Int32) else (1 : Int32))).toInt = (0 : Int32).toInt) ∨ (¬ ((v61 + (1 : Int32)).toInt < v46.toInt) ∧ (if (v61 + (1 : Int32)) < v46 then (0 : Int32) else (if v61 < (v61 + (1 : Int32)) then (0 : Int32) else (1 : Int32))).toInt = (if v61 < (v61 + (1 : Int32)) then (0 : Int32) else (1 : Int32)).toInt) := by
              by_cases q : (v61 + (1 : Int32)) < v46
              · exact Or.inl ⟨Int32.lt_iff_toInt_lt.mp q, by rw [if_pos q]⟩
              · exact Or.inr ⟨fun q' => q (Int32.lt_iff_toInt_lt.mpr q'), by rw [if_neg q]⟩
        have ar331 : (own_cm (v61 + (1 : Int32)) v46 v61).toInt = (if (v61 + (1 : Int32)) < v46 then (0 : Int32) else (if v61 < (v61 + (1 : Int32)) then (0 : Int32) else (1 : Int32))).toInt := congrArg _ (own_eq_own_cm (v61 + (1 : Int32)) v46 v61)
        have ar332 := congrArg Int32.toInt hr275
        exact Int32.toInt_inj.mp (by omega))
    have k334 : ∀ t, Steps p.tables e below (T273.setTop (mkF m 175 #[.val (.int p0), .val (.int p1), .val (.int p2), .val (.int p3), .val (.int p4), .val (.int v46), .val (.int v61), .val (.ref b62), .val (.int vm97), .val (.int v99), .val (.int r103), .val (.int (0 : Int32))] [(.int (1 : Int32))])) t → Steps p.tables e below (s₁.setTop (entryFrame m #[(.int p0), (.int p1), (.int p2), (.int p3), (.int p4)] maxLocals)) t := by
      intro t kt
      refine k274 t ?_
      show Steps p.tables e below (T273.setTop (mkF m 169 #[.val (.int p0), .val (.int p1), .val (.int p2), .val (.int p3), .val (.int p4), .val (.int v46), .val (.int v61), .val (.ref b62), .val (.int vm97), .val (.int v99), .val (.int r103), .val (.int (0 : Int32))] [(.int r275)])) _
      refine XS.ifYes X273.here hx rfl (pc0 := 169) (pc' := 174) rfl (hb hby at_169) rfl ((if0 _ _).trans (teq hc169_333).1) (by decide) (by decide) ?_
      show Steps p.tables e below (T273.setTop (mkF m 174 #[.val (.int p0), .val (.int p1), .val (.int p2), .val (.int p3), .val (.int p4), .val (.int v46), .val (.int v61), .val (.ref b62), .val (.int vm97), .val (.int v99), .val (.int r103), .val (.int (0 : Int32))] [])) _
      refine XS.iconst X273.here hx rfl (hb hby at_174) ?_
      show Steps p.tables e below (T273.setTop (mkF m 175 #[.val (.int p0), .val (.int p1), .val (.int p2), .val (.int p3), .val (.int p4), .val (.int v46), .val (.int v61), .val (.ref b62), .val (.int vm97), .val (.int v99), .val (.int r103), .val (.int (0 : Int32))] [(.int (1 : Int32))])) _
      exact kt
    obtain ⟨fs, hr, hrun, hended, hW, hsame⟩ := X273.leave (v := some (.int (1 : Int32))) (fun h => by rw [Bd.returns] at h; cases h)
    refine ⟨_, _, k334 _ (retN X273 hx (t := .boolean) Bd.returns (by simp) (hb hby at_175) hr), hrun, hended, _, _, rfl, ?_, ⟨_, rfl⟩, hW, hsame.mono (by decide) (by decide)⟩
    show Q0 Z p0 p1 p2 p3 p4 h0 n0 _ T273.heap _
    rw [eq273]
    exact ⟨rfl, N273⟩
  · have k335 : ∀ t, Steps p.tables e below (T100.setTop (mkF m 89 #[.val (.int p0), .val (.int p1), .val (.int p2), .val (.int p3), .val (.int p4), .val (.int v46), .val (.int v61), .val (.ref b62), .val (.int vm97), .val (.int v99), .val (.int r103), .unset] [(.int (1440 : Int32)), (.int vm97)])) t → Steps p.tables e below (s₁.setTop (entryFrame m #[(.int p0), (.int p1), (.int p2), (.int p3), (.int p4)] maxLocals)) t := by
      intro t kt
      refine k104 t ?_
      refine XS.ifNo X100.here hx rfl (hb hby at_81) rfl ((if0 _ _).trans (flt hc81_105).1) ?_
      show Steps p.tables e below (T100.setTop (mkF m 84 #[.val (.int p0), .val (.int p1), .val (.int p2), .val (.int p3), .val (.int p4), .val (.int v46), .val (.int v61), .val (.ref b62), .val (.int vm97), .val (.int v99), .val (.int r103), .unset] [])) _
      refine XS.iload X100.here hx rfl (hb hby at_84) rfl ?_
      show Steps p.tables e below (T100.setTop (mkF m 86 #[.val (.int p0), .val (.int p1), .val (.int p2), .val (.int p3), .val (.int p4), .val (.int v46), .val (.int v61), .val (.ref b62), .val (.int vm97), .val (.int v99), .val (.int r103), .unset] [(.int vm97)])) _
      refine XS.sipush X100.here hx rfl (hb hby at_86) ?_
      show Steps p.tables e below (T100.setTop (mkF m 89 #[.val (.int p0), .val (.int p1), .val (.int p2), .val (.int p3), .val (.int p4), .val (.int v46), .val (.int v61), .val (.ref b62), .val (.int vm97), .val (.int v99), .val (.int r103), .unset] [(.int (1440 : Int32)), (.int vm97)])) _
      exact kt
    by_cases hc89_336 : vm97 < (1440 : Int32)
    · obtain ⟨cq337, kq337, q337a, q337b, q337c⟩ := isOf hZ eq100 f101
      obtain ⟨_, _, ⟨T337, L337, kc337, nc337⟩, -, X337, ⟨Lc337, hQ337, l337, y337, z337⟩, st337⟩ := X100.virtualBack hx (y := (⟨"com/example/tidegate/tidegate/model/OperatingDay", "contains", "(I)Z"⟩ : MethodName)) (z := (⟨"com/example/tidegate/tidegate/model/OperatingDay", "contains", "(I)Z"⟩ : MethodName)) hown (mvT hZ (hw _ (List.mem_of_getElem? (i := 27) rfl))) (mvT hZ (hw _ (List.mem_of_getElem? (i := 28) rfl))) (notFace_of_selects (args := #[]) (mvT hZ (hw _ (List.mem_of_getElem? (i := 30) rfl)))) (mvT hZ (hw _ (List.mem_of_getElem? (i := 30) rfl))) (mvT hZ (hw _ (List.mem_of_getElem? (i := 29) rfl))) (by decide) (backOf (W := 0) (rm6 l Z a0 hw [] b62 ((vm97 * (60 : Int32)) + v99) v46 v61 T93.heap n0 f101 oFaopen93 oFaclose93) hZ (hw _ (List.mem_of_getElem? (i := 31) rfl)) (hw _ (List.mem_of_getElem? (i := 3) rfl)) (by decide) (by decide)) q337a q337c (g := (mkF m 108 #[.val (.int p0), .val (.int p1), .val (.int p2), .val (.int p3), .val (.int p4), .val (.int v46), .val (.int v61), .val (.ref b62), .val (.int vm97), .val (.int v99), .val (.int r103), .unset] [(.int ((vm97 * (60 : Int32)) + v99)), (.ref b62)])) rfl (by rw [hml]; rfl) (Steps.refl _) (argsL := [(.int ((vm97 * (60 : Int32)) + v99))]) (rest := []) (lenOf pd_3 rfl) rfl (by show 2 * 0 + _ ≤ _; exact Nat.le_of_eq rfl) (hb hby at_108) (fun _ _ => ⟨rfl, eq100, (by decide : 1 + 0 ≤ _), (by decide : 2 + 0 ≤ _)⟩)
      dsimp only [Pt.U, Pt.locs, Pt.cells, Pt.slots] at X337 l337 y337 z337 st337 hQ337
      subst l337 y337 z337
      obtain ⟨rfl, Nq337, eq337⟩ := hQ337
      have N337 := Fr.app N100 Nq337
      have k338 : ∀ t, Steps p.tables e below (T337.setTop (mkF m 111 #[.val (.int p0), .val (.int p1), .val (.int p2), .val (.int p3), .val (.int p4), .val (.int v46), .val (.int v61), .val (.ref b62), .val (.int vm97), .val (.int v99), .val (.int r103), .unset] [(.int (own_ct ((vm97 * (60 : Int32)) + v99) v46 v61))])) t → Steps p.tables e below (s₁.setTop (entryFrame m #[(.int p0), (.int p1), (.int p2), (.int p3), (.int p4)] maxLocals)) t := by
        intro t kt
        refine k335 t ?_
        refine XS.icmpYes X100.here hx rfl (pc0 := 89) (pc' := 98) rfl (hb hby at_89) rfl (tlt hc89_336).1 (by decide) (by decide) ?_
        show Steps p.tables e below (T100.setTop (mkF m 98 #[.val (.int p0), .val (.int p1), .val (.int p2), .val (.int p3), .val (.int p4), .val (.int v46), .val (.int v61), .val (.ref b62), .val (.int vm97), .val (.int v99), .val (.int r103), .unset] [])) _
        refine XS.aload X100.here hx rfl (hb hby at_98) rfl rfl ?_
        show Steps p.tables e below (T100.setTop (mkF m 100 #[.val (.int p0), .val (.int p1), .val (.int p2), .val (.int p3), .val (.int p4), .val (.int v46), .val (.int v61), .val (.ref b62), .val (.int vm97), .val (.int v99), .val (.int r103), .unset] [(.ref b62)])) _
        refine XS.iload X100.here hx rfl (hb hby at_100) rfl ?_
        show Steps p.tables e below (T100.setTop (mkF m 102 #[.val (.int p0), .val (.int p1), .val (.int p2), .val (.int p3), .val (.int p4), .val (.int v46), .val (.int v61), .val (.ref b62), .val (.int vm97), .val (.int v99), .val (.int r103), .unset] [(.int vm97), (.ref b62)])) _
        refine XS.bipush X100.here hx rfl (hb hby at_102) ?_
        show Steps p.tables e below (T100.setTop (mkF m 104 #[.val (.int p0), .val (.int p1), .val (.int p2), .val (.int p3), .val (.int p4), .val (.int v46), .val (.int v61), .val (.ref b62), .val (.int vm97), .val (.int v99), .val (.int r103), .unset] [(.int (60 : Int32)), (.int vm97), (.ref b62)])) _
        refine XS.imul X100.here hx rfl (hb hby at_104) rfl ?_
        show Steps p.tables e below (T100.setTop (mkF m 105 #[.val (.int p0), .val (.int p1), .val (.int p2), .val (.int p3), .val (.int p4), .val (.int v46), .val (.int v61), .val (.ref b62), .val (.int vm97), .val (.int v99), .val (.int r103), .unset] [(.int (vm97 * (60 : Int32))), (.ref b62)])) _
        refine XS.iload X100.here hx rfl (hb hby at_105) rfl ?_
        show Steps p.tables e below (T100.setTop (mkF m 107 #[.val (.int p0), .val (.int p1), .val (.int p2), .val (.int p3), .val (.int p4), .val (.int v46), .val (.int v61), .val (.ref b62), .val (.int vm97), .val (.int v99), .val (.int r103), .unset] [(.int v99), (.int (vm97 * (60 : Int32))), (.ref b62)])) _
        refine XS.iadd X100.here hx rfl (hb hby at_107) rfl ?_
        show Steps p.tables e below (T100.setTop (mkF m 108 #[.val (.int p0), .val (.int p1), .val (.int p2), .val (.int p3), .val (.int p4), .val (.int v46), .val (.int v61), .val (.ref b62), .val (.int vm97), .val (.int v99), .val (.int r103), .unset] [(.int ((vm97 * (60 : Int32)) + v99)), (.ref b62)])) _
        refine st337.trans ?_
        show Steps p.tables e below (T337.setTop (mkF m 111 #[.val (.int p0), .val (.int p1), .val (.int p2), .val (.int p3), .val (.int p4), .val (.int v46), .val (.int v61), .val (.ref b62), .val (.int vm97), .val (.int v99), .val (.int r103), .unset] [(.int (own_ct ((vm97 * (60 : Int32)) + v99) v46 v61))])) _
        exact kt
      obtain ⟨r339, hr339⟩ : ∃ z : Int32, z = (own_ct ((vm97 * (60 : Int32)) + v99) v46 v61) := ⟨_, rfl⟩
      rw [← hr339] at k338
      have hc117_393 : r103 = r339 := (by
          have ar340 := rng32 vm97
          have ar341 : (0 : Int32).toInt = 0 := by decide
          have ar342 : ¬ (vm97.toInt < (0 : Int32).toInt) := fun qq_ => hc81_105 (Int32.lt_iff_toInt_lt.mpr qq_)
          have ar343 : (1440 : Int32).toInt = 1440 := by decide
          have ar344 : vm97.toInt < (1440 : Int32).toInt := Int32.lt_iff_toInt_lt.mp hc89_336
          have ar345 := rng32 r103
          have ar346 := rng32 v46
          have ar347 := rng32 p0
          have ar348 : (2147483647 : Int32).toInt = 2147483647 := by decide
          have ar349 := c_mask p0 (2147483647 : Int32) 31 (by decide) (by decide)
          simp only [show (2 ^ 31 : Nat) = 2147483648 from by decide, Int.cast_ofNat_Int] at ar349
          have ar350 := rng32 (p0 &&& (2147483647 : Int32))
          first | have ar351 := (c_irem (p0 &&& (2147483647 : Int32)) (1440 : Int32) 1440 (by decide)).1 (by omega) | have ar351 := c_irem (p0 &&& (2147483647 : Int32)) (1440 : Int32) 1440 (by decide)
          have ar352 := rng32 ((p0 &&& (2147483647 : Int32)) % (1440 : Int32))
          have ar353 := congrArg Int32.toInt hv46
          have ar354 := rng32 v61
          have ar355 := rng32 p1
          have ar356 := c_mask p1 (2147483647 : Int32) 31 (by decide) (by decide)
          simp only [show (2 ^ 31 : Nat) = 2147483648 from by decide, Int.cast_ofNat_Int] at ar356
          have ar357 := rng32 (p1 &&& (2147483647 : Int32))
          have ar358 := rng32 ((1440 : Int32) - v46)
          first | have ar359 : ((1440 : Int32) - v46).toInt = 1440 - v46.toInt := (by have qw := c_isub (1440 : Int32) v46; omega) | (have ar359 := c_isub (1440 : Int32) v46; skip)
          first | have ar360 := (c_iremV (p1 &&& (2147483647 : Int32)) ((1440 : Int32) - v46)).1 (by omega) (by omega) | have ar360 := c_iremV (p1 &&& (2147483647 : Int32)) ((1440 : Int32) - v46)
          have ar361 := rng32 ((p1 &&& (2147483647 : Int32)) % ((1440 : Int32) - v46))
          have ar362 := rng32 (v46 + ((p1 &&& (2147483647 : Int32)) % ((1440 : Int32) - v46)))
          first | have ar363 : (v46 + ((p1 &&& (2147483647 : Int32)) % ((1440 : Int32) - v46))).toInt = v46.toInt + ((p1 &&& (2147483647 : Int32)) % ((1440 : Int32) - v46)).toInt := (by have qw := c_iadd v46 ((p1 &&& (2147483647 : Int32)) % ((1440 : Int32) - v46)); omega) | (have ar363 := c_iadd v46 ((p1 &&& (2147483647 : Int32)) % ((1440 : Int32) - v46)); skip)
          have ar364 := congrArg Int32.toInt hv61
          have ar365 : (1 : Int32).toInt = 1 := by decide
          have ar366 : (v61.toInt < vm97.toInt ∧ (if v61 < vm97 then (0 : Int32) else (1 : Int32)).toInt = (0 : Int32).toInt) ∨ (¬ (v61.toInt < vm97.toInt) ∧ (if v61 < vm97 then (0 : Int32) else (1 : Int32)).toInt = (1 : Int32).toInt) := by
                by_cases q : v61 < vm97
                · exact Or.inl ⟨Int32.lt_iff_toInt_lt.mp q, by rw [if_pos q]⟩
                · exact Or.inr ⟨fun q' => q (Int32.lt_iff_toInt_lt.mpr q'), by rw [if_neg q]⟩
          have ar367 : (vm97.toInt < v46.toInt ∧ (if vm97 < v46 then (0 : Int32) else (if v61 < vm97 then (0 : Int32) else (1 : Int32))).toInt = (0 : Int32).toInt) ∨ (¬ (vm97.toInt < v46.toInt) ∧ (if vm97 < v46 then (0 : Int32) else (if v61 < vm97 then (0 : Int32) else (1 : Int32))).toInt = (if v61 < vm97 then (0 : Int32) else (1 : Int32)).toInt) := by
                by_cases q : vm97 < v46
                · exact Or.inl ⟨Int32.lt_iff_toInt_lt.mp q, by rw [if_pos q]⟩
                · exact Or.inr ⟨fun q' => q (Int32.lt_iff_toInt_lt.mpr q'), by rw [if_neg q]⟩
          have ar368 : (own_cm vm97 v46 v61).toInt = (if vm97 < v46 then (0 : Int32) else (if v61 < vm97 then (0 : Int32) else (1 : Int32))).toInt := congrArg _ (own_eq_own_cm vm97 v46 v61)
          have ar369 := congrArg Int32.toInt hr103
          have ar370 := rng32 r339
          have ar371 : (60 : Int32).toInt = 60 := by decide
          have ar372 := rng32 (vm97 * (60 : Int32))
          first | have ar373 : (vm97 * (60 : Int32)).toInt = vm97.toInt * 60 := (by have qw := c_imul vm97 (60 : Int32); rw [show (60 : Int32).toInt = 60 from by decide] at qw; omega) | (have ar373 := c_imul vm97 (60 : Int32); rw [show (60 : Int32).toInt = 60 from by decide] at ar373)
          have ar374 := rng32 v99
          have ar375 := rng32 p4
          have ar376 := c_mask p4 (2147483647 : Int32) 31 (by decide) (by decide)
          simp only [show (2 ^ 31 : Nat) = 2147483648 from by decide, Int.cast_ofNat_Int] at ar376
          have ar377 := rng32 (p4 &&& (2147483647 : Int32))
          first | have ar378 := (c_irem (p4 &&& (2147483647 : Int32)) (60 : Int32) 60 (by decide)).1 (by omega) | have ar378 := c_irem (p4 &&& (2147483647 : Int32)) (60 : Int32) 60 (by decide)
          have ar379 := rng32 ((p4 &&& (2147483647 : Int32)) % (60 : Int32))
          have ar380 := congrArg Int32.toInt hv99
          have ar381 := rng32 ((vm97 * (60 : Int32)) + v99)
          first | have ar382 : ((vm97 * (60 : Int32)) + v99).toInt = (vm97 * (60 : Int32)).toInt + v99.toInt := (by have qw := c_iadd (vm97 * (60 : Int32)) v99; omega) | (have ar382 := c_iadd (vm97 * (60 : Int32)) v99; skip)
          have ar383 := rng32 (v46 * (60 : Int32))
          first | have ar384 : (v46 * (60 : Int32)).toInt = v46.toInt * 60 := (by have qw := c_imul v46 (60 : Int32); rw [show (60 : Int32).toInt = 60 from by decide] at qw; omega) | (have ar384 := c_imul v46 (60 : Int32); rw [show (60 : Int32).toInt = 60 from by decide] at ar384)
          have ar385 := rng32 (v61 + (1 : Int32))
          first | have ar386 : (v61 + (1 : Int32)).toInt = v61.toInt + 1 := (by have qw := c_iadd v61 (1 : Int32); omega) | (have ar386 := c_iadd v61 (1 : Int32); skip)
          have ar387 := rng32 ((v61 + (1 : Int32)) * (60 : Int32))
          first | have ar388 : ((v61 + (1 : Int32)) * (60 : Int32)).toInt = (v61 + (1 : Int32)).toInt * 60 := (by have qw := c_imul (v61 + (1 : Int32)) (60 : Int32); rw [show (60 : Int32).toInt = 60 from by decide] at qw; omega) | (have ar388 := c_imul (v61 + (1 : Int32)) (60 : Int32); rw [show (60 : Int32).toInt = 60 from by decide] at ar388)
          have ar389 : (((vm97 * (60 : Int32)) + v99).toInt < ((v61 + (1 : Int32)) * (60 : Int32)).toInt ∧ (if ((vm97 * (60 : Int32)) + v99) < ((v61 + (1 : Int32)) * (60 : Int32)) then (1 : Int32) else (0 : Int32)).toInt = (1 : Int32).toInt) ∨ (¬ (((vm97 * (60 : Int32)) + v99).toInt < ((v61 + (1 : Int32)) * (60 : Int32)).toInt) ∧ (if ((vm97 * (60 : Int32)) + v99) < ((v61 + (1 : Int32)) * (60 : Int32)) then (1 : Int32) else (0 : Int32)).toInt = (0 : Int32).toInt) := by
                by_cases q : ((vm97 * (60 : Int32)) + v99) < ((v61 + (1 : Int32)) * (60 : Int32))
                · exact Or.inl ⟨Int32.lt_iff_toInt_lt.mp q, by rw [if_pos q]⟩
                · exact Or.inr ⟨fun q' => q (Int32.lt_iff_toInt_lt.mpr q'), by rw [if_neg q]⟩
          have ar390 : (((vm97 * (60 : Int32)) + v99).toInt < (v46 * (60 : Int32)).toInt ∧ (if ((vm97 * (60 : Int32)) + v99) < (v46 * (60 : Int32)) then (0 : Int32) else (if ((vm97 * (60 : Int32)) + v99) < ((v61 + (1 : Int32)) * (60 : Int32)) then (1 : Int32) else (0 : Int32))).toInt = (0 : Int32).toInt) ∨ (¬ (((vm97 * (60 : Int32)) + v99).toInt < (v46 * (60 : Int32)).toInt) ∧ (if ((vm97 * (60 : Int32)) + v99) < (v46 * (60 : Int32)) then (0 : Int32) else (if ((vm97 * (60 : Int32)) + v99) < ((v61 + (1 : Int32)) * (60 : Int32)) then (1 : Int32) else (0 : Int32))).toInt = (if ((vm97 * (60 : Int32)) + v99) < ((v61 + (1 : Int32)) * (60 : Int32)) then (1 : Int32) else (0 : Int32)).toInt) := by
                by_cases q : ((vm97 * (60 : Int32)) + v99) < (v46 * (60 : Int32))
                · exact Or.inl ⟨Int32.lt_iff_toInt_lt.mp q, by rw [if_pos q]⟩
                · exact Or.inr ⟨fun q' => q (Int32.lt_iff_toInt_lt.mpr q'), by rw [if_neg q]⟩
          have ar391 : (own_ct ((vm97 * (60 : Int32)) + v99) v46 v61).toInt = (if ((vm97 * (60 : Int32)) + v99) < (v46 * (60 : Int32)) then (0 : Int32) else (if ((vm97 * (60 : Int32)) + v99) < ((v61 + (1 : Int32)) * (60 : Int32)) then (1 : Int32) else (0 : Int32))).toInt := congrArg _ (own_eq_own_ct ((vm97 * (60 : Int32)) + v99) v46 v61)
          have ar392 := congrArg Int32.toInt hr339
          exact Int32.toInt_inj.mp (by omega))
      obtain ⟨cq394, kq394, q394a, q394b, q394c⟩ := isOf hZ eq337 f101
      obtain ⟨_, _, ⟨T394, L394, kc394, nc394⟩, -, X394, ⟨Lc394, hQ394, l394, y394, z394⟩, st394⟩ := X337.virtualBack hx (y := (⟨"com/example/tidegate/tidegate/model/OperatingDay", "containsMinute", "(I)Z"⟩ : MethodName)) (z := (⟨"com/example/tidegate/tidegate/model/OperatingDay", "containsMinute", "(I)Z"⟩ : MethodName)) hown (mvT hZ (hw _ (List.mem_of_getElem? (i := 22) rfl))) (mvT hZ (hw _ (List.mem_of_getElem? (i := 23) rfl))) (notFace_of_selects (args := #[]) (mvT hZ (hw _ (List.mem_of_getElem? (i := 25) rfl)))) (mvT hZ (hw _ (List.mem_of_getElem? (i := 25) rfl))) (mvT hZ (hw _ (List.mem_of_getElem? (i := 24) rfl))) (by decide) (backOf (W := 0) (rm5 l Z a0 hw [] b62 v46 v46 v61 T93.heap n0 oFaopen93 oFaclose93) hZ (hw _ (List.mem_of_getElem? (i := 26) rfl)) (hw _ (List.mem_of_getElem? (i := 3) rfl)) (by decide) (by decide)) q394a q394c (g := (mkF m 126 #[.val (.int p0), .val (.int p1), .val (.int p2), .val (.int p3), .val (.int p4), .val (.int v46), .val (.int v61), .val (.ref b62), .val (.int vm97), .val (.int v99), .val (.int r103), .val (.int r339)] [(.int v46), (.ref b62)])) rfl (by rw [hml]; rfl) (Steps.refl _) (argsL := [(.int v46)]) (rest := []) (lenOf pd_3 rfl) rfl (by show 2 * 0 + _ ≤ _; exact Nat.le_of_eq rfl) (hb hby at_126) (fun _ _ => ⟨rfl, eq337, (by decide : 1 + 0 ≤ _), (by decide : 2 + 0 ≤ _)⟩)
      dsimp only [Pt.U, Pt.locs, Pt.cells, Pt.slots] at X394 l394 y394 z394 st394 hQ394
      subst l394 y394 z394
      obtain ⟨rfl, Nq394, eq394⟩ := hQ394
      have N394 := Fr.app N337 Nq394
      have k395 : ∀ t, Steps p.tables e below (T394.setTop (mkF m 129 #[.val (.int p0), .val (.int p1), .val (.int p2), .val (.int p3), .val (.int p4), .val (.int v46), .val (.int v61), .val (.ref b62), .val (.int vm97), .val (.int v99), .val (.int r103), .val (.int r339)] [(.int (own_cm v46 v46 v61))])) t → Steps p.tables e below (s₁.setTop (entryFrame m #[(.int p0), (.int p1), (.int p2), (.int p3), (.int p4)] maxLocals)) t := by
        intro t kt
        refine k338 t ?_
        show Steps p.tables e below (T337.setTop (mkF m 111 #[.val (.int p0), .val (.int p1), .val (.int p2), .val (.int p3), .val (.int p4), .val (.int v46), .val (.int v61), .val (.ref b62), .val (.int vm97), .val (.int v99), .val (.int r103), .unset] [(.int r339)])) _
        refine XS.istore X337.here hx rfl (hb hby at_111) rfl (l' := #[.val (.int p0), .val (.int p1), .val (.int p2), .val (.int p3), .val (.int p4), .val (.int v46), .val (.int v61), .val (.ref b62), .val (.int vm97), .val (.int v99), .val (.int r103), .val (.int r339)]) rfl ?_
        show Steps p.tables e below (T337.setTop (mkF m 113 #[.val (.int p0), .val (.int p1), .val (.int p2), .val (.int p3), .val (.int p4), .val (.int v46), .val (.int v61), .val (.ref b62), .val (.int vm97), .val (.int v99), .val (.int r103), .val (.int r339)] [])) _
        refine XS.iload X337.here hx rfl (hb hby at_113) rfl ?_
        show Steps p.tables e below (T337.setTop (mkF m 115 #[.val (.int p0), .val (.int p1), .val (.int p2), .val (.int p3), .val (.int p4), .val (.int v46), .val (.int v61), .val (.ref b62), .val (.int vm97), .val (.int v99), .val (.int r103), .val (.int r339)] [(.int r103)])) _
        refine XS.iload X337.here hx rfl (hb hby at_115) rfl ?_
        show Steps p.tables e below (T337.setTop (mkF m 117 #[.val (.int p0), .val (.int p1), .val (.int p2), .val (.int p3), .val (.int p4), .val (.int v46), .val (.int v61), .val (.ref b62), .val (.int vm97), .val (.int v99), .val (.int r103), .val (.int r339)] [(.int r339), (.int r103)])) _
        refine XS.icmpYes X337.here hx rfl (pc0 := 117) (pc' := 122) rfl (hb hby at_117) rfl (teq hc117_393).1 (by decide) (by decide) ?_
        show Steps p.tables e below (T337.setTop (mkF m 122 #[.val (.int p0), .val (.int p1), .val (.int p2), .val (.int p3), .val (.int p4), .val (.int v46), .val (.int v61), .val (.ref b62), .val (.int vm97), .val (.int v99), .val (.int r103), .val (.int r339)] [])) _
        refine XS.aload X337.here hx rfl (hb hby at_122) rfl rfl ?_
        show Steps p.tables e below (T337.setTop (mkF m 124 #[.val (.int p0), .val (.int p1), .val (.int p2), .val (.int p3), .val (.int p4), .val (.int v46), .val (.int v61), .val (.ref b62), .val (.int vm97), .val (.int v99), .val (.int r103), .val (.int r339)] [(.ref b62)])) _
        refine XS.iload X337.here hx rfl (hb hby at_124) rfl ?_
        show Steps p.tables e below (T337.setTop (mkF m 126 #[.val (.int p0), .val (.int p1), .val (.int p2), .val (.int p3), .val (.int p4), .val (.int v46), .val (.int v61), .val (.ref b62), .val (.int vm97), .val (.int v99), .val (.int r103), .val (.int r339)] [(.int v46), (.ref b62)])) _
        refine st394.trans ?_
        show Steps p.tables e below (T394.setTop (mkF m 129 #[.val (.int p0), .val (.int p1), .val (.int p2), .val (.int p3), .val (.int p4), .val (.int v46), .val (.int v61), .val (.ref b62), .val (.int vm97), .val (.int v99), .val (.int r103), .val (.int r339)] [(.int (own_cm v46 v46 v61))])) _
        exact kt
      obtain ⟨r396, hr396⟩ : ∃ z : Int32, z = (own_cm v46 v46 v61) := ⟨_, rfl⟩
      rw [← hr396] at k395
      have hc129_456 : ¬ (r396 = (0 : Int32)) := (by
          have ar397 := rng32 vm97
          have ar398 : (0 : Int32).toInt = 0 := by decide
          have ar399 : ¬ (vm97.toInt < (0 : Int32).toInt) := fun qq_ => hc81_105 (Int32.lt_iff_toInt_lt.mpr qq_)
          have ar400 : (1440 : Int32).toInt = 1440 := by decide
          have ar401 : vm97.toInt < (1440 : Int32).toInt := Int32.lt_iff_toInt_lt.mp hc89_336
          have ar402 := rng32 r103
          have ar403 := rng32 v46
          have ar404 := rng32 p0
          have ar405 : (2147483647 : Int32).toInt = 2147483647 := by decide
          have ar406 := c_mask p0 (2147483647 : Int32) 31 (by decide) (by decide)
          simp only [show (2 ^ 31 : Nat) = 2147483648 from by decide, Int.cast_ofNat_Int] at ar406
          have ar407 := rng32 (p0 &&& (2147483647 : Int32))
          first | have ar408 := (c_irem (p0 &&& (2147483647 : Int32)) (1440 : Int32) 1440 (by decide)).1 (by omega) | have ar408 := c_irem (p0 &&& (2147483647 : Int32)) (1440 : Int32) 1440 (by decide)
          have ar409 := rng32 ((p0 &&& (2147483647 : Int32)) % (1440 : Int32))
          have ar410 := congrArg Int32.toInt hv46
          have ar411 := rng32 v61
          have ar412 := rng32 p1
          have ar413 := c_mask p1 (2147483647 : Int32) 31 (by decide) (by decide)
          simp only [show (2 ^ 31 : Nat) = 2147483648 from by decide, Int.cast_ofNat_Int] at ar413
          have ar414 := rng32 (p1 &&& (2147483647 : Int32))
          have ar415 := rng32 ((1440 : Int32) - v46)
          first | have ar416 : ((1440 : Int32) - v46).toInt = 1440 - v46.toInt := (by have qw := c_isub (1440 : Int32) v46; omega) | (have ar416 := c_isub (1440 : Int32) v46; skip)
          first | have ar417 := (c_iremV (p1 &&& (2147483647 : Int32)) ((1440 : Int32) - v46)).1 (by omega) (by omega) | have ar417 := c_iremV (p1 &&& (2147483647 : Int32)) ((1440 : Int32) - v46)
          have ar418 := rng32 ((p1 &&& (2147483647 : Int32)) % ((1440 : Int32) - v46))
          have ar419 := rng32 (v46 + ((p1 &&& (2147483647 : Int32)) % ((1440 : Int32) - v46)))
          first | have ar420 : (v46 + ((p1 &&& (2147483647 : Int32)) % ((1440 : Int32) - v46))).toInt = v46.toInt + ((p1 &&& (2147483647 : Int32)) % ((1440 : Int32) - v46)).toInt := (by have qw := c_iadd v46 ((p1 &&& (2147483647 : Int32)) % ((1440 : Int32) - v46)); omega) | (have ar420 := c_iadd v46 ((p1 &&& (2147483647 : Int32)) % ((1440 : Int32) - v46)); skip)
          have ar421 := congrArg Int32.toInt hv61
          have ar422 : (1 : Int32).toInt = 1 := by decide
          have ar423 : (v61.toInt < vm97.toInt ∧ (if v61 < vm97 then (0 : Int32) else (1 : Int32)).toInt = (0 : Int32).toInt) ∨ (¬ (v61.toInt < vm97.toInt) ∧ (if v61 < vm97 then (0 : Int32) else (1 : Int32)).toInt = (1 : Int32).toInt) := by
                by_cases q : v61 < vm97
                · exact Or.inl ⟨Int32.lt_iff_toInt_lt.mp q, by rw [if_pos q]⟩
                · exact Or.inr ⟨fun q' => q (Int32.lt_iff_toInt_lt.mpr q'), by rw [if_neg q]⟩
          have ar424 : (vm97.toInt < v46.toInt ∧ (if vm97 < v46 then (0 : Int32) else (if v61 < vm97 then (0 : Int32) else (1 : Int32))).toInt = (0 : Int32).toInt) ∨ (¬ (vm97.toInt < v46.toInt) ∧ (if vm97 < v46 then (0 : Int32) else (if v61 < vm97 then (0 : Int32) else (1 : Int32))).toInt = (if v61 < vm97 then (0 : Int32) else (1 : Int32)).toInt) := by
                by_cases q : vm97 < v46
                · exact Or.inl ⟨Int32.lt_iff_toInt_lt.mp q, by rw [if_pos q]⟩
                · exact Or.inr ⟨fun q' => q (Int32.lt_iff_toInt_lt.mpr q'), by rw [if_neg q]⟩
          have ar425 : (own_cm vm97 v46 v61).toInt = (if vm97 < v46 then (0 : Int32) else (if v61 < vm97 then (0 : Int32) else (1 : Int32))).toInt := congrArg _ (own_eq_own_cm vm97 v46 v61)
          have ar426 := congrArg Int32.toInt hr103
          have ar427 := rng32 r339
          have ar428 : (60 : Int32).toInt = 60 := by decide
          have ar429 := rng32 (vm97 * (60 : Int32))
          first | have ar430 : (vm97 * (60 : Int32)).toInt = vm97.toInt * 60 := (by have qw := c_imul vm97 (60 : Int32); rw [show (60 : Int32).toInt = 60 from by decide] at qw; omega) | (have ar430 := c_imul vm97 (60 : Int32); rw [show (60 : Int32).toInt = 60 from by decide] at ar430)
          have ar431 := rng32 v99
          have ar432 := rng32 p4
          have ar433 := c_mask p4 (2147483647 : Int32) 31 (by decide) (by decide)
          simp only [show (2 ^ 31 : Nat) = 2147483648 from by decide, Int.cast_ofNat_Int] at ar433
          have ar434 := rng32 (p4 &&& (2147483647 : Int32))
          first | have ar435 := (c_irem (p4 &&& (2147483647 : Int32)) (60 : Int32) 60 (by decide)).1 (by omega) | have ar435 := c_irem (p4 &&& (2147483647 : Int32)) (60 : Int32) 60 (by decide)
          have ar436 := rng32 ((p4 &&& (2147483647 : Int32)) % (60 : Int32))
          have ar437 := congrArg Int32.toInt hv99
          have ar438 := rng32 ((vm97 * (60 : Int32)) + v99)
          first | have ar439 : ((vm97 * (60 : Int32)) + v99).toInt = (vm97 * (60 : Int32)).toInt + v99.toInt := (by have qw := c_iadd (vm97 * (60 : Int32)) v99; omega) | (have ar439 := c_iadd (vm97 * (60 : Int32)) v99; skip)
          have ar440 := rng32 (v46 * (60 : Int32))
          first | have ar441 : (v46 * (60 : Int32)).toInt = v46.toInt * 60 := (by have qw := c_imul v46 (60 : Int32); rw [show (60 : Int32).toInt = 60 from by decide] at qw; omega) | (have ar441 := c_imul v46 (60 : Int32); rw [show (60 : Int32).toInt = 60 from by decide] at ar441)
          have ar442 := rng32 (v61 + (1 : Int32))
          first | have ar443 : (v61 + (1 : Int32)).toInt = v61.toInt + 1 := (by have qw := c_iadd v61 (1 : Int32); omega) | (have ar443 := c_iadd v61 (1 : Int32); skip)
          have ar444 := rng32 ((v61 + (1 : Int32)) * (60 : Int32))
          first | have ar445 : ((v61 + (1 : Int32)) * (60 : Int32)).toInt = (v61 + (1 : Int32)).toInt * 60 := (by have qw := c_imul (v61 + (1 : Int32)) (60 : Int32); rw [show (60 : Int32).toInt = 60 from by decide] at qw; omega) | (have ar445 := c_imul (v61 + (1 : Int32)) (60 : Int32); rw [show (60 : Int32).toInt = 60 from by decide] at ar445)
          have ar446 : (((vm97 * (60 : Int32)) + v99).toInt < ((v61 + (1 : Int32)) * (60 : Int32)).toInt ∧ (if ((vm97 * (60 : Int32)) + v99) < ((v61 + (1 : Int32)) * (60 : Int32)) then (1 : Int32) else (0 : Int32)).toInt = (1 : Int32).toInt) ∨ (¬ (((vm97 * (60 : Int32)) + v99).toInt < ((v61 + (1 : Int32)) * (60 : Int32)).toInt) ∧ (if ((vm97 * (60 : Int32)) + v99) < ((v61 + (1 : Int32)) * (60 : Int32)) then (1 : Int32) else (0 : Int32)).toInt = (0 : Int32).toInt) := by
                by_cases q : ((vm97 * (60 : Int32)) + v99) < ((v61 + (1 : Int32)) * (60 : Int32))
                · exact Or.inl ⟨Int32.lt_iff_toInt_lt.mp q, by rw [if_pos q]⟩
                · exact Or.inr ⟨fun q' => q (Int32.lt_iff_toInt_lt.mpr q'), by rw [if_neg q]⟩
          have ar447 : (((vm97 * (60 : Int32)) + v99).toInt < (v46 * (60 : Int32)).toInt ∧ (if ((vm97 * (60 : Int32)) + v99) < (v46 * (60 : Int32)) then (0 : Int32) else (if ((vm97 * (60 : Int32)) + v99) < ((v61 + (1 : Int32)) * (60 : Int32)) then (1 : Int32) else (0 : Int32))).toInt = (0 : Int32).toInt) ∨ (¬ (((vm97 * (60 : Int32)) + v99).toInt < (v46 * (60 : Int32)).toInt) ∧ (if ((vm97 * (60 : Int32)) + v99) < (v46 * (60 : Int32)) then (0 : Int32) else (if ((vm97 * (60 : Int32)) + v99) < ((v61 + (1 : Int32)) * (60 : Int32)) then (1 : Int32) else (0 : Int32))).toInt = (if ((vm97 * (60 : Int32)) + v99) < ((v61 + (1 : Int32)) * (60 : Int32)) then (1 : Int32) else (0 : Int32)).toInt) := by
                by_cases q : ((vm97 * (60 : Int32)) + v99) < (v46 * (60 : Int32))
                · exact Or.inl ⟨Int32.lt_iff_toInt_lt.mp q, by rw [if_pos q]⟩
                · exact Or.inr ⟨fun q' => q (Int32.lt_iff_toInt_lt.mpr q'), by rw [if_neg q]⟩
          have ar448 : (own_ct ((vm97 * (60 : Int32)) + v99) v46 v61).toInt = (if ((vm97 * (60 : Int32)) + v99) < (v46 * (60 : Int32)) then (0 : Int32) else (if ((vm97 * (60 : Int32)) + v99) < ((v61 + (1 : Int32)) * (60 : Int32)) then (1 : Int32) else (0 : Int32))).toInt := congrArg _ (own_eq_own_ct ((vm97 * (60 : Int32)) + v99) v46 v61)
          have ar449 := congrArg Int32.toInt hr339
          have ar450 : r103.toInt = r339.toInt := congrArg Int32.toInt hc117_393
          have ar451 := rng32 r396
          have ar452 : (v61.toInt < v46.toInt ∧ (if v61 < v46 then (0 : Int32) else (1 : Int32)).toInt = (0 : Int32).toInt) ∨ (¬ (v61.toInt < v46.toInt) ∧ (if v61 < v46 then (0 : Int32) else (1 : Int32)).toInt = (1 : Int32).toInt) := by
                by_cases q : v61 < v46
                · exact Or.inl ⟨Int32.lt_iff_toInt_lt.mp q, by rw [if_pos q]⟩
                · exact Or.inr ⟨fun q' => q (Int32.lt_iff_toInt_lt.mpr q'), by rw [if_neg q]⟩
          have ar453 : (v46.toInt < v46.toInt ∧ (if v46 < v46 then (0 : Int32) else (if v61 < v46 then (0 : Int32) else (1 : Int32))).toInt = (0 : Int32).toInt) ∨ (¬ (v46.toInt < v46.toInt) ∧ (if v46 < v46 then (0 : Int32) else (if v61 < v46 then (0 : Int32) else (1 : Int32))).toInt = (if v61 < v46 then (0 : Int32) else (1 : Int32)).toInt) := by
                by_cases q : v46 < v46
                · exact Or.inl ⟨Int32.lt_iff_toInt_lt.mp q, by rw [if_pos q]⟩
                · exact Or.inr ⟨fun q' => q (Int32.lt_iff_toInt_lt.mpr q'), by rw [if_neg q]⟩
          have ar454 : (own_cm v46 v46 v61).toInt = (if v46 < v46 then (0 : Int32) else (if v61 < v46 then (0 : Int32) else (1 : Int32))).toInt := congrArg _ (own_eq_own_cm v46 v46 v61)
          have ar455 := congrArg Int32.toInt hr396
          exact fun qq_ => absurd (congrArg Int32.toInt qq_) (by omega))
      obtain ⟨cq457, kq457, q457a, q457b, q457c⟩ := isOf hZ eq394 f101
      obtain ⟨_, _, ⟨T457, L457, kc457, nc457⟩, -, X457, ⟨Lc457, hQ457, l457, y457, z457⟩, st457⟩ := X394.virtualBack hx (y := (⟨"com/example/tidegate/tidegate/model/OperatingDay", "containsMinute", "(I)Z"⟩ : MethodName)) (z := (⟨"com/example/tidegate/tidegate/model/OperatingDay", "containsMinute", "(I)Z"⟩ : MethodName)) hown (mvT hZ (hw _ (List.mem_of_getElem? (i := 22) rfl))) (mvT hZ (hw _ (List.mem_of_getElem? (i := 23) rfl))) (notFace_of_selects (args := #[]) (mvT hZ (hw _ (List.mem_of_getElem? (i := 25) rfl)))) (mvT hZ (hw _ (List.mem_of_getElem? (i := 25) rfl))) (mvT hZ (hw _ (List.mem_of_getElem? (i := 24) rfl))) (by decide) (backOf (W := 0) (rm5 l Z a0 hw [] b62 v61 v46 v61 T93.heap n0 oFaopen93 oFaclose93) hZ (hw _ (List.mem_of_getElem? (i := 26) rfl)) (hw _ (List.mem_of_getElem? (i := 3) rfl)) (by decide) (by decide)) q457a q457c (g := (mkF m 138 #[.val (.int p0), .val (.int p1), .val (.int p2), .val (.int p3), .val (.int p4), .val (.int v46), .val (.int v61), .val (.ref b62), .val (.int vm97), .val (.int v99), .val (.int r103), .val (.int r339)] [(.int v61), (.ref b62)])) rfl (by rw [hml]; rfl) (Steps.refl _) (argsL := [(.int v61)]) (rest := []) (lenOf pd_3 rfl) rfl (by show 2 * 0 + _ ≤ _; exact Nat.le_of_eq rfl) (hb hby at_138) (fun _ _ => ⟨rfl, eq394, (by decide : 1 + 0 ≤ _), (by decide : 2 + 0 ≤ _)⟩)
      dsimp only [Pt.U, Pt.locs, Pt.cells, Pt.slots] at X457 l457 y457 z457 st457 hQ457
      subst l457 y457 z457
      obtain ⟨rfl, Nq457, eq457⟩ := hQ457
      have N457 := Fr.app N394 Nq457
      have k458 : ∀ t, Steps p.tables e below (T457.setTop (mkF m 141 #[.val (.int p0), .val (.int p1), .val (.int p2), .val (.int p3), .val (.int p4), .val (.int v46), .val (.int v61), .val (.ref b62), .val (.int vm97), .val (.int v99), .val (.int r103), .val (.int r339)] [(.int (own_cm v61 v46 v61))])) t → Steps p.tables e below (s₁.setTop (entryFrame m #[(.int p0), (.int p1), (.int p2), (.int p3), (.int p4)] maxLocals)) t := by
        intro t kt
        refine k395 t ?_
        show Steps p.tables e below (T394.setTop (mkF m 129 #[.val (.int p0), .val (.int p1), .val (.int p2), .val (.int p3), .val (.int p4), .val (.int v46), .val (.int v61), .val (.ref b62), .val (.int vm97), .val (.int v99), .val (.int r103), .val (.int r339)] [(.int r396)])) _
        refine XS.ifYes X394.here hx rfl (pc0 := 129) (pc' := 134) rfl (hb hby at_129) rfl ((if0 _ _).trans (feq hc129_456).2) (by decide) (by decide) ?_
        show Steps p.tables e below (T394.setTop (mkF m 134 #[.val (.int p0), .val (.int p1), .val (.int p2), .val (.int p3), .val (.int p4), .val (.int v46), .val (.int v61), .val (.ref b62), .val (.int vm97), .val (.int v99), .val (.int r103), .val (.int r339)] [])) _
        refine XS.aload X394.here hx rfl (hb hby at_134) rfl rfl ?_
        show Steps p.tables e below (T394.setTop (mkF m 136 #[.val (.int p0), .val (.int p1), .val (.int p2), .val (.int p3), .val (.int p4), .val (.int v46), .val (.int v61), .val (.ref b62), .val (.int vm97), .val (.int v99), .val (.int r103), .val (.int r339)] [(.ref b62)])) _
        refine XS.iload X394.here hx rfl (hb hby at_136) rfl ?_
        show Steps p.tables e below (T394.setTop (mkF m 138 #[.val (.int p0), .val (.int p1), .val (.int p2), .val (.int p3), .val (.int p4), .val (.int v46), .val (.int v61), .val (.ref b62), .val (.int vm97), .val (.int v99), .val (.int r103), .val (.int r339)] [(.int v61), (.ref b62)])) _
        refine st457.trans ?_
        show Steps p.tables e below (T457.setTop (mkF m 141 #[.val (.int p0), .val (.int p1), .val (.int p2), .val (.int p3), .val (.int p4), .val (.int v46), .val (.int v61), .val (.ref b62), .val (.int vm97), .val (.int v99), .val (.int r103), .val (.int r339)] [(.int (own_cm v61 v46 v61))])) _
        exact kt
      obtain ⟨r459, hr459⟩ : ∃ z : Int32, z = (own_cm v61 v46 v61) := ⟨_, rfl⟩
      rw [← hr459] at k458
      have hc141_525 : ¬ (r459 = (0 : Int32)) := (by
          have ar460 := rng32 vm97
          have ar461 : (0 : Int32).toInt = 0 := by decide
          have ar462 : ¬ (vm97.toInt < (0 : Int32).toInt) := fun qq_ => hc81_105 (Int32.lt_iff_toInt_lt.mpr qq_)
          have ar463 : (1440 : Int32).toInt = 1440 := by decide
          have ar464 : vm97.toInt < (1440 : Int32).toInt := Int32.lt_iff_toInt_lt.mp hc89_336
          have ar465 := rng32 r103
          have ar466 := rng32 v46
          have ar467 := rng32 p0
          have ar468 : (2147483647 : Int32).toInt = 2147483647 := by decide
          have ar469 := c_mask p0 (2147483647 : Int32) 31 (by decide) (by decide)
          simp only [show (2 ^ 31 : Nat) = 2147483648 from by decide, Int.cast_ofNat_Int] at ar469
          have ar470 := rng32 (p0 &&& (2147483647 : Int32))
          first | have ar471 := (c_irem (p0 &&& (2147483647 : Int32)) (1440 : Int32) 1440 (by decide)).1 (by omega) | have ar471 := c_irem (p0 &&& (2147483647 : Int32)) (1440 : Int32) 1440 (by decide)
          have ar472 := rng32 ((p0 &&& (2147483647 : Int32)) % (1440 : Int32))
          have ar473 := congrArg Int32.toInt hv46
          have ar474 := rng32 v61
          have ar475 := rng32 p1
          have ar476 := c_mask p1 (2147483647 : Int32) 31 (by decide) (by decide)
          simp only [show (2 ^ 31 : Nat) = 2147483648 from by decide, Int.cast_ofNat_Int] at ar476
          have ar477 := rng32 (p1 &&& (2147483647 : Int32))
          have ar478 := rng32 ((1440 : Int32) - v46)
          first | have ar479 : ((1440 : Int32) - v46).toInt = 1440 - v46.toInt := (by have qw := c_isub (1440 : Int32) v46; omega) | (have ar479 := c_isub (1440 : Int32) v46; skip)
          first | have ar480 := (c_iremV (p1 &&& (2147483647 : Int32)) ((1440 : Int32) - v46)).1 (by omega) (by omega) | have ar480 := c_iremV (p1 &&& (2147483647 : Int32)) ((1440 : Int32) - v46)
          have ar481 := rng32 ((p1 &&& (2147483647 : Int32)) % ((1440 : Int32) - v46))
          have ar482 := rng32 (v46 + ((p1 &&& (2147483647 : Int32)) % ((1440 : Int32) - v46)))
          first | have ar483 : (v46 + ((p1 &&& (2147483647 : Int32)) % ((1440 : Int32) - v46))).toInt = v46.toInt + ((p1 &&& (2147483647 : Int32)) % ((1440 : Int32) - v46)).toInt := (by have qw := c_iadd v46 ((p1 &&& (2147483647 : Int32)) % ((1440 : Int32) - v46)); omega) | (have ar483 := c_iadd v46 ((p1 &&& (2147483647 : Int32)) % ((1440 : Int32) - v46)); skip)
          have ar484 := congrArg Int32.toInt hv61
          have ar485 : (1 : Int32).toInt = 1 := by decide
          have ar486 : (v61.toInt < vm97.toInt ∧ (if v61 < vm97 then (0 : Int32) else (1 : Int32)).toInt = (0 : Int32).toInt) ∨ (¬ (v61.toInt < vm97.toInt) ∧ (if v61 < vm97 then (0 : Int32) else (1 : Int32)).toInt = (1 : Int32).toInt) := by
                by_cases q : v61 < vm97
                · exact Or.inl ⟨Int32.lt_iff_toInt_lt.mp q, by rw [if_pos q]⟩
                · exact Or.inr ⟨fun q' => q (Int32.lt_iff_toInt_lt.mpr q'), by rw [if_neg q]⟩
          have ar487 : (vm97.toInt < v46.toInt ∧ (if vm97 < v46 then (0 : Int32) else (if v61 < vm97 then (0 : Int32) else (1 : Int32))).toInt = (0 : Int32).toInt) ∨ (¬ (vm97.toInt < v46.toInt) ∧ (if vm97 < v46 then (0 : Int32) else (if v61 < vm97 then (0 : Int32) else (1 : Int32))).toInt = (if v61 < vm97 then (0 : Int32) else (1 : Int32)).toInt) := by
                by_cases q : vm97 < v46
                · exact Or.inl ⟨Int32.lt_iff_toInt_lt.mp q, by rw [if_pos q]⟩
                · exact Or.inr ⟨fun q' => q (Int32.lt_iff_toInt_lt.mpr q'), by rw [if_neg q]⟩
          have ar488 : (own_cm vm97 v46 v61).toInt = (if vm97 < v46 then (0 : Int32) else (if v61 < vm97 then (0 : Int32) else (1 : Int32))).toInt := congrArg _ (own_eq_own_cm vm97 v46 v61)
          have ar489 := congrArg Int32.toInt hr103
          have ar490 := rng32 r339
          have ar491 : (60 : Int32).toInt = 60 := by decide
          have ar492 := rng32 (vm97 * (60 : Int32))
          first | have ar493 : (vm97 * (60 : Int32)).toInt = vm97.toInt * 60 := (by have qw := c_imul vm97 (60 : Int32); rw [show (60 : Int32).toInt = 60 from by decide] at qw; omega) | (have ar493 := c_imul vm97 (60 : Int32); rw [show (60 : Int32).toInt = 60 from by decide] at ar493)
          have ar494 := rng32 v99
          have ar495 := rng32 p4
          have ar496 := c_mask p4 (2147483647 : Int32) 31 (by decide) (by decide)
          simp only [show (2 ^ 31 : Nat) = 2147483648 from by decide, Int.cast_ofNat_Int] at ar496
          have ar497 := rng32 (p4 &&& (2147483647 : Int32))
          first | have ar498 := (c_irem (p4 &&& (2147483647 : Int32)) (60 : Int32) 60 (by decide)).1 (by omega) | have ar498 := c_irem (p4 &&& (2147483647 : Int32)) (60 : Int32) 60 (by decide)
          have ar499 := rng32 ((p4 &&& (2147483647 : Int32)) % (60 : Int32))
          have ar500 := congrArg Int32.toInt hv99
          have ar501 := rng32 ((vm97 * (60 : Int32)) + v99)
          first | have ar502 : ((vm97 * (60 : Int32)) + v99).toInt = (vm97 * (60 : Int32)).toInt + v99.toInt := (by have qw := c_iadd (vm97 * (60 : Int32)) v99; omega) | (have ar502 := c_iadd (vm97 * (60 : Int32)) v99; skip)
          have ar503 := rng32 (v46 * (60 : Int32))
          first | have ar504 : (v46 * (60 : Int32)).toInt = v46.toInt * 60 := (by have qw := c_imul v46 (60 : Int32); rw [show (60 : Int32).toInt = 60 from by decide] at qw; omega) | (have ar504 := c_imul v46 (60 : Int32); rw [show (60 : Int32).toInt = 60 from by decide] at ar504)
          have ar505 := rng32 (v61 + (1 : Int32))
          first | have ar506 : (v61 + (1 : Int32)).toInt = v61.toInt + 1 := (by have qw := c_iadd v61 (1 : Int32); omega) | (have ar506 := c_iadd v61 (1 : Int32); skip)
          have ar507 := rng32 ((v61 + (1 : Int32)) * (60 : Int32))
          first | have ar508 : ((v61 + (1 : Int32)) * (60 : Int32)).toInt = (v61 + (1 : Int32)).toInt * 60 := (by have qw := c_imul (v61 + (1 : Int32)) (60 : Int32); rw [show (60 : Int32).toInt = 60 from by decide] at qw; omega) | (have ar508 := c_imul (v61 + (1 : Int32)) (60 : Int32); rw [show (60 : Int32).toInt = 60 from by decide] at ar508)
          have ar509 : (((vm97 * (60 : Int32)) + v99).toInt < ((v61 + (1 : Int32)) * (60 : Int32)).toInt ∧ (if ((vm97 * (60 : Int32)) + v99) < ((v61 + (1 : Int32)) * (60 : Int32)) then (1 : Int32) else (0 : Int32)).toInt = (1 : Int32).toInt) ∨ (¬ (((vm97 * (60 : Int32)) + v99).toInt < ((v61 + (1 : Int32)) * (60 : Int32)).toInt) ∧ (if ((vm97 * (60 : Int32)) + v99) < ((v61 + (1 : Int32)) * (60 : Int32)) then (1 : Int32) else (0 : Int32)).toInt = (0 : Int32).toInt) := by
                by_cases q : ((vm97 * (60 : Int32)) + v99) < ((v61 + (1 : Int32)) * (60 : Int32))
                · exact Or.inl ⟨Int32.lt_iff_toInt_lt.mp q, by rw [if_pos q]⟩
                · exact Or.inr ⟨fun q' => q (Int32.lt_iff_toInt_lt.mpr q'), by rw [if_neg q]⟩
          have ar510 : (((vm97 * (60 : Int32)) + v99).toInt < (v46 * (60 : Int32)).toInt ∧ (if ((vm97 * (60 : Int32)) + v99) < (v46 * (60 : Int32)) then (0 : Int32) else (if ((vm97 * (60 : Int32)) + v99) < ((v61 + (1 : Int32)) * (60 : Int32)) then (1 : Int32) else (0 : Int32))).toInt = (0 : Int32).toInt) ∨ (¬ (((vm97 * (60 : Int32)) + v99).toInt < (v46 * (60 : Int32)).toInt) ∧ (if ((vm97 * (60 : Int32)) + v99) < (v46 * (60 : Int32)) then (0 : Int32) else (if ((vm97 * (60 : Int32)) + v99) < ((v61 + (1 : Int32)) * (60 : Int32)) then (1 : Int32) else (0 : Int32))).toInt = (if ((vm97 * (60 : Int32)) + v99) < ((v61 + (1 : Int32)) * (60 : Int32)) then (1 : Int32) else (0 : Int32)).toInt) := by
                by_cases q : ((vm97 * (60 : Int32)) + v99) < (v46 * (60 : Int32))
                · exact Or.inl ⟨Int32.lt_iff_toInt_lt.mp q, by rw [if_pos q]⟩
                · exact Or.inr ⟨fun q' => q (Int32.lt_iff_toInt_lt.mpr q'), by rw [if_neg q]⟩
          have ar511 : (own_ct ((vm97 * (60 : Int32)) + v99) v46 v61).toInt = (if ((vm97 * (60 : Int32)) + v99) < (v46 * (60 : Int32)) then (0 : Int32) else (if ((vm97 * (60 : Int32)) + v99) < ((v61 + (1 : Int32)) * (60 : Int32)) then (1 : Int32) else (0 : Int32))).toInt := congrArg _ (own_eq_own_ct ((vm97 * (60 : Int32)) + v99) v46 v61)
          have ar512 := congrArg Int32.toInt hr339
          have ar513 : r103.toInt = r339.toInt := congrArg Int32.toInt hc117_393
          have ar514 := rng32 r396
          have ar515 : (v61.toInt < v46.toInt ∧ (if v61 < v46 then (0 : Int32) else (1 : Int32)).toInt = (0 : Int32).toInt) ∨ (¬ (v61.toInt < v46.toInt) ∧ (if v61 < v46 then (0 : Int32) else (1 : Int32)).toInt = (1 : Int32).toInt) := by
                by_cases q : v61 < v46
                · exact Or.inl ⟨Int32.lt_iff_toInt_lt.mp q, by rw [if_pos q]⟩
                · exact Or.inr ⟨fun q' => q (Int32.lt_iff_toInt_lt.mpr q'), by rw [if_neg q]⟩
          have ar516 : (v46.toInt < v46.toInt ∧ (if v46 < v46 then (0 : Int32) else (if v61 < v46 then (0 : Int32) else (1 : Int32))).toInt = (0 : Int32).toInt) ∨ (¬ (v46.toInt < v46.toInt) ∧ (if v46 < v46 then (0 : Int32) else (if v61 < v46 then (0 : Int32) else (1 : Int32))).toInt = (if v61 < v46 then (0 : Int32) else (1 : Int32)).toInt) := by
                by_cases q : v46 < v46
                · exact Or.inl ⟨Int32.lt_iff_toInt_lt.mp q, by rw [if_pos q]⟩
                · exact Or.inr ⟨fun q' => q (Int32.lt_iff_toInt_lt.mpr q'), by rw [if_neg q]⟩
          have ar517 : (own_cm v46 v46 v61).toInt = (if v46 < v46 then (0 : Int32) else (if v61 < v46 then (0 : Int32) else (1 : Int32))).toInt := congrArg _ (own_eq_own_cm v46 v46 v61)
          have ar518 := congrArg Int32.toInt hr396
          have ar519 : ¬ (r396.toInt = (0 : Int32).toInt) := fun qq_ => hc129_456 (Int32.toInt_inj.mp qq_)
          have ar520 := rng32 r459
          have ar521 : (v61.toInt < v61.toInt ∧ (if v61 < v61 then (0 : Int32) else (1 : Int32)).toInt = (0 : Int32).toInt) ∨ (¬ (v61.toInt < v61.toInt) ∧ (if v61 < v61 then (0 : Int32) else (1 : Int32)).toInt = (1 : Int32).toInt) := by
                by_cases q : v61 < v61
                · exact Or.inl ⟨Int32.lt_iff_toInt_lt.mp q, by rw [if_pos q]⟩
                · exact Or.inr ⟨fun q' => q (Int32.lt_iff_toInt_lt.mpr q'), by rw [if_neg q]⟩
          have ar522 : (v61.toInt < v46.toInt ∧ (if v61 < v46 then (0 : Int32) else (if v61 < v61 then (0 : Int32) else (1 : Int32))).toInt = (0 : Int32).toInt) ∨ (¬ (v61.toInt < v46.toInt) ∧ (if v61 < v46 then (0 : Int32) else (if v61 < v61 then (0 : Int32) else (1 : Int32))).toInt = (if v61 < v61 then (0 : Int32) else (1 : Int32)).toInt) := by
                by_cases q : v61 < v46
                · exact Or.inl ⟨Int32.lt_iff_toInt_lt.mp q, by rw [if_pos q]⟩
                · exact Or.inr ⟨fun q' => q (Int32.lt_iff_toInt_lt.mpr q'), by rw [if_neg q]⟩
          have ar523 : (own_cm v61 v46 v61).toInt = (if v61 < v46 then (0 : Int32) else (if v61 < v61 then (0 : Int32) else (1 : Int32))).toInt := congrArg _ (own_eq_own_cm v61 v46 v61)
          have ar524 := congrArg Int32.toInt hr459
          exact fun qq_ => absurd (congrArg Int32.toInt qq_) (by omega))
      obtain ⟨cq526, kq526, q526a, q526b, q526c⟩ := isOf hZ eq457 f101
      obtain ⟨_, _, ⟨T526, L526, kc526, nc526⟩, -, X526, ⟨Lc526, hQ526, l526, y526, z526⟩, st526⟩ := X457.virtualBack hx (y := (⟨"com/example/tidegate/tidegate/model/OperatingDay", "containsMinute", "(I)Z"⟩ : MethodName)) (z := (⟨"com/example/tidegate/tidegate/model/OperatingDay", "containsMinute", "(I)Z"⟩ : MethodName)) hown (mvT hZ (hw _ (List.mem_of_getElem? (i := 22) rfl))) (mvT hZ (hw _ (List.mem_of_getElem? (i := 23) rfl))) (notFace_of_selects (args := #[]) (mvT hZ (hw _ (List.mem_of_getElem? (i := 25) rfl)))) (mvT hZ (hw _ (List.mem_of_getElem? (i := 25) rfl))) (mvT hZ (hw _ (List.mem_of_getElem? (i := 24) rfl))) (by decide) (backOf (W := 0) (rm5 l Z a0 hw [] b62 (v46 - (1 : Int32)) v46 v61 T93.heap n0 oFaopen93 oFaclose93) hZ (hw _ (List.mem_of_getElem? (i := 26) rfl)) (hw _ (List.mem_of_getElem? (i := 3) rfl)) (by decide) (by decide)) q526a q526c (g := (mkF m 152 #[.val (.int p0), .val (.int p1), .val (.int p2), .val (.int p3), .val (.int p4), .val (.int v46), .val (.int v61), .val (.ref b62), .val (.int vm97), .val (.int v99), .val (.int r103), .val (.int r339)] [(.int (v46 - (1 : Int32))), (.ref b62)])) rfl (by rw [hml]; rfl) (Steps.refl _) (argsL := [(.int (v46 - (1 : Int32)))]) (rest := []) (lenOf pd_3 rfl) rfl (by show 2 * 0 + _ ≤ _; exact Nat.le_of_eq rfl) (hb hby at_152) (fun _ _ => ⟨rfl, eq457, (by decide : 1 + 0 ≤ _), (by decide : 2 + 0 ≤ _)⟩)
      dsimp only [Pt.U, Pt.locs, Pt.cells, Pt.slots] at X526 l526 y526 z526 st526 hQ526
      subst l526 y526 z526
      obtain ⟨rfl, Nq526, eq526⟩ := hQ526
      have N526 := Fr.app N457 Nq526
      have k527 : ∀ t, Steps p.tables e below (T526.setTop (mkF m 155 #[.val (.int p0), .val (.int p1), .val (.int p2), .val (.int p3), .val (.int p4), .val (.int v46), .val (.int v61), .val (.ref b62), .val (.int vm97), .val (.int v99), .val (.int r103), .val (.int r339)] [(.int (own_cm (v46 - (1 : Int32)) v46 v61))])) t → Steps p.tables e below (s₁.setTop (entryFrame m #[(.int p0), (.int p1), (.int p2), (.int p3), (.int p4)] maxLocals)) t := by
        intro t kt
        refine k458 t ?_
        show Steps p.tables e below (T457.setTop (mkF m 141 #[.val (.int p0), .val (.int p1), .val (.int p2), .val (.int p3), .val (.int p4), .val (.int v46), .val (.int v61), .val (.ref b62), .val (.int vm97), .val (.int v99), .val (.int r103), .val (.int r339)] [(.int r459)])) _
        refine XS.ifYes X457.here hx rfl (pc0 := 141) (pc' := 146) rfl (hb hby at_141) rfl ((if0 _ _).trans (feq hc141_525).2) (by decide) (by decide) ?_
        show Steps p.tables e below (T457.setTop (mkF m 146 #[.val (.int p0), .val (.int p1), .val (.int p2), .val (.int p3), .val (.int p4), .val (.int v46), .val (.int v61), .val (.ref b62), .val (.int vm97), .val (.int v99), .val (.int r103), .val (.int r339)] [])) _
        refine XS.aload X457.here hx rfl (hb hby at_146) rfl rfl ?_
        show Steps p.tables e below (T457.setTop (mkF m 148 #[.val (.int p0), .val (.int p1), .val (.int p2), .val (.int p3), .val (.int p4), .val (.int v46), .val (.int v61), .val (.ref b62), .val (.int vm97), .val (.int v99), .val (.int r103), .val (.int r339)] [(.ref b62)])) _
        refine XS.iload X457.here hx rfl (hb hby at_148) rfl ?_
        show Steps p.tables e below (T457.setTop (mkF m 150 #[.val (.int p0), .val (.int p1), .val (.int p2), .val (.int p3), .val (.int p4), .val (.int v46), .val (.int v61), .val (.ref b62), .val (.int vm97), .val (.int v99), .val (.int r103), .val (.int r339)] [(.int v46), (.ref b62)])) _
        refine XS.iconst X457.here hx rfl (hb hby at_150) ?_
        show Steps p.tables e below (T457.setTop (mkF m 151 #[.val (.int p0), .val (.int p1), .val (.int p2), .val (.int p3), .val (.int p4), .val (.int v46), .val (.int v61), .val (.ref b62), .val (.int vm97), .val (.int v99), .val (.int r103), .val (.int r339)] [(.int (1 : Int32)), (.int v46), (.ref b62)])) _
        refine XS.isub X457.here hx rfl (hb hby at_151) rfl ?_
        show Steps p.tables e below (T457.setTop (mkF m 152 #[.val (.int p0), .val (.int p1), .val (.int p2), .val (.int p3), .val (.int p4), .val (.int v46), .val (.int v61), .val (.ref b62), .val (.int vm97), .val (.int v99), .val (.int r103), .val (.int r339)] [(.int (v46 - (1 : Int32))), (.ref b62)])) _
        refine st526.trans ?_
        show Steps p.tables e below (T526.setTop (mkF m 155 #[.val (.int p0), .val (.int p1), .val (.int p2), .val (.int p3), .val (.int p4), .val (.int v46), .val (.int v61), .val (.ref b62), .val (.int vm97), .val (.int v99), .val (.int r103), .val (.int r339)] [(.int (own_cm (v46 - (1 : Int32)) v46 v61))])) _
        exact kt
      obtain ⟨r528, hr528⟩ : ∃ z : Int32, z = (own_cm (v46 - (1 : Int32)) v46 v61) := ⟨_, rfl⟩
      rw [← hr528] at k527
      have hc155_602 : r528 = (0 : Int32) := (by
          have ar529 := rng32 vm97
          have ar530 : (0 : Int32).toInt = 0 := by decide
          have ar531 : ¬ (vm97.toInt < (0 : Int32).toInt) := fun qq_ => hc81_105 (Int32.lt_iff_toInt_lt.mpr qq_)
          have ar532 : (1440 : Int32).toInt = 1440 := by decide
          have ar533 : vm97.toInt < (1440 : Int32).toInt := Int32.lt_iff_toInt_lt.mp hc89_336
          have ar534 := rng32 r103
          have ar535 := rng32 v46
          have ar536 := rng32 p0
          have ar537 : (2147483647 : Int32).toInt = 2147483647 := by decide
          have ar538 := c_mask p0 (2147483647 : Int32) 31 (by decide) (by decide)
          simp only [show (2 ^ 31 : Nat) = 2147483648 from by decide, Int.cast_ofNat_Int] at ar538
          have ar539 := rng32 (p0 &&& (2147483647 : Int32))
          first | have ar540 := (c_irem (p0 &&& (2147483647 : Int32)) (1440 : Int32) 1440 (by decide)).1 (by omega) | have ar540 := c_irem (p0 &&& (2147483647 : Int32)) (1440 : Int32) 1440 (by decide)
          have ar541 := rng32 ((p0 &&& (2147483647 : Int32)) % (1440 : Int32))
          have ar542 := congrArg Int32.toInt hv46
          have ar543 := rng32 v61
          have ar544 := rng32 p1
          have ar545 := c_mask p1 (2147483647 : Int32) 31 (by decide) (by decide)
          simp only [show (2 ^ 31 : Nat) = 2147483648 from by decide, Int.cast_ofNat_Int] at ar545
          have ar546 := rng32 (p1 &&& (2147483647 : Int32))
          have ar547 := rng32 ((1440 : Int32) - v46)
          first | have ar548 : ((1440 : Int32) - v46).toInt = 1440 - v46.toInt := (by have qw := c_isub (1440 : Int32) v46; omega) | (have ar548 := c_isub (1440 : Int32) v46; skip)
          first | have ar549 := (c_iremV (p1 &&& (2147483647 : Int32)) ((1440 : Int32) - v46)).1 (by omega) (by omega) | have ar549 := c_iremV (p1 &&& (2147483647 : Int32)) ((1440 : Int32) - v46)
          have ar550 := rng32 ((p1 &&& (2147483647 : Int32)) % ((1440 : Int32) - v46))
          have ar551 := rng32 (v46 + ((p1 &&& (2147483647 : Int32)) % ((1440 : Int32) - v46)))
          first | have ar552 : (v46 + ((p1 &&& (2147483647 : Int32)) % ((1440 : Int32) - v46))).toInt = v46.toInt + ((p1 &&& (2147483647 : Int32)) % ((1440 : Int32) - v46)).toInt := (by have qw := c_iadd v46 ((p1 &&& (2147483647 : Int32)) % ((1440 : Int32) - v46)); omega) | (have ar552 := c_iadd v46 ((p1 &&& (2147483647 : Int32)) % ((1440 : Int32) - v46)); skip)
          have ar553 := congrArg Int32.toInt hv61
          have ar554 : (1 : Int32).toInt = 1 := by decide
          have ar555 : (v61.toInt < vm97.toInt ∧ (if v61 < vm97 then (0 : Int32) else (1 : Int32)).toInt = (0 : Int32).toInt) ∨ (¬ (v61.toInt < vm97.toInt) ∧ (if v61 < vm97 then (0 : Int32) else (1 : Int32)).toInt = (1 : Int32).toInt) := by
                by_cases q : v61 < vm97
                · exact Or.inl ⟨Int32.lt_iff_toInt_lt.mp q, by rw [if_pos q]⟩
                · exact Or.inr ⟨fun q' => q (Int32.lt_iff_toInt_lt.mpr q'), by rw [if_neg q]⟩
          have ar556 : (vm97.toInt < v46.toInt ∧ (if vm97 < v46 then (0 : Int32) else (if v61 < vm97 then (0 : Int32) else (1 : Int32))).toInt = (0 : Int32).toInt) ∨ (¬ (vm97.toInt < v46.toInt) ∧ (if vm97 < v46 then (0 : Int32) else (if v61 < vm97 then (0 : Int32) else (1 : Int32))).toInt = (if v61 < vm97 then (0 : Int32) else (1 : Int32)).toInt) := by
                by_cases q : vm97 < v46
                · exact Or.inl ⟨Int32.lt_iff_toInt_lt.mp q, by rw [if_pos q]⟩
                · exact Or.inr ⟨fun q' => q (Int32.lt_iff_toInt_lt.mpr q'), by rw [if_neg q]⟩
          have ar557 : (own_cm vm97 v46 v61).toInt = (if vm97 < v46 then (0 : Int32) else (if v61 < vm97 then (0 : Int32) else (1 : Int32))).toInt := congrArg _ (own_eq_own_cm vm97 v46 v61)
          have ar558 := congrArg Int32.toInt hr103
          have ar559 := rng32 r339
          have ar560 : (60 : Int32).toInt = 60 := by decide
          have ar561 := rng32 (vm97 * (60 : Int32))
          first | have ar562 : (vm97 * (60 : Int32)).toInt = vm97.toInt * 60 := (by have qw := c_imul vm97 (60 : Int32); rw [show (60 : Int32).toInt = 60 from by decide] at qw; omega) | (have ar562 := c_imul vm97 (60 : Int32); rw [show (60 : Int32).toInt = 60 from by decide] at ar562)
          have ar563 := rng32 v99
          have ar564 := rng32 p4
          have ar565 := c_mask p4 (2147483647 : Int32) 31 (by decide) (by decide)
          simp only [show (2 ^ 31 : Nat) = 2147483648 from by decide, Int.cast_ofNat_Int] at ar565
          have ar566 := rng32 (p4 &&& (2147483647 : Int32))
          first | have ar567 := (c_irem (p4 &&& (2147483647 : Int32)) (60 : Int32) 60 (by decide)).1 (by omega) | have ar567 := c_irem (p4 &&& (2147483647 : Int32)) (60 : Int32) 60 (by decide)
          have ar568 := rng32 ((p4 &&& (2147483647 : Int32)) % (60 : Int32))
          have ar569 := congrArg Int32.toInt hv99
          have ar570 := rng32 ((vm97 * (60 : Int32)) + v99)
          first | have ar571 : ((vm97 * (60 : Int32)) + v99).toInt = (vm97 * (60 : Int32)).toInt + v99.toInt := (by have qw := c_iadd (vm97 * (60 : Int32)) v99; omega) | (have ar571 := c_iadd (vm97 * (60 : Int32)) v99; skip)
          have ar572 := rng32 (v46 * (60 : Int32))
          first | have ar573 : (v46 * (60 : Int32)).toInt = v46.toInt * 60 := (by have qw := c_imul v46 (60 : Int32); rw [show (60 : Int32).toInt = 60 from by decide] at qw; omega) | (have ar573 := c_imul v46 (60 : Int32); rw [show (60 : Int32).toInt = 60 from by decide] at ar573)
          have ar574 := rng32 (v61 + (1 : Int32))
          first | have ar575 : (v61 + (1 : Int32)).toInt = v61.toInt + 1 := (by have qw := c_iadd v61 (1 : Int32); omega) | (have ar575 := c_iadd v61 (1 : Int32); skip)
          have ar576 := rng32 ((v61 + (1 : Int32)) * (60 : Int32))
          first | have ar577 : ((v61 + (1 : Int32)) * (60 : Int32)).toInt = (v61 + (1 : Int32)).toInt * 60 := (by have qw := c_imul (v61 + (1 : Int32)) (60 : Int32); rw [show (60 : Int32).toInt = 60 from by decide] at qw; omega) | (have ar577 := c_imul (v61 + (1 : Int32)) (60 : Int32); rw [show (60 : Int32).toInt = 60 from by decide] at ar577)
          have ar578 : (((vm97 * (60 : Int32)) + v99).toInt < ((v61 + (1 : Int32)) * (60 : Int32)).toInt ∧ (if ((vm97 * (60 : Int32)) + v99) < ((v61 + (1 : Int32)) * (60 : Int32)) then (1 : Int32) else (0 : Int32)).toInt = (1 : Int32).toInt) ∨ (¬ (((vm97 * (60 : Int32)) + v99).toInt < ((v61 + (1 : Int32)) * (60 : Int32)).toInt) ∧ (if ((vm97 * (60 : Int32)) + v99) < ((v61 + (1 : Int32)) * (60 : Int32)) then (1 : Int32) else (0 : Int32)).toInt = (0 : Int32).toInt) := by
                by_cases q : ((vm97 * (60 : Int32)) + v99) < ((v61 + (1 : Int32)) * (60 : Int32))
                · exact Or.inl ⟨Int32.lt_iff_toInt_lt.mp q, by rw [if_pos q]⟩
                · exact Or.inr ⟨fun q' => q (Int32.lt_iff_toInt_lt.mpr q'), by rw [if_neg q]⟩
          have ar579 : (((vm97 * (60 : Int32)) + v99).toInt < (v46 * (60 : Int32)).toInt ∧ (if ((vm97 * (60 : Int32)) + v99) < (v46 * (60 : Int32)) then (0 : Int32) else (if ((vm97 * (60 : Int32)) + v99) < ((v61 + (1 : Int32)) * (60 : Int32)) then (1 : Int32) else (0 : Int32))).toInt = (0 : Int32).toInt) ∨ (¬ (((vm97 * (60 : Int32)) + v99).toInt < (v46 * (60 : Int32)).toInt) ∧ (if ((vm97 * (60 : Int32)) + v99) < (v46 * (60 : Int32)) then (0 : Int32) else (if ((vm97 * (60 : Int32)) + v99) < ((v61 + (1 : Int32)) * (60 : Int32)) then (1 : Int32) else (0 : Int32))).toInt = (if ((vm97 * (60 : Int32)) + v99) < ((v61 + (1 : Int32)) * (60 : Int32)) then (1 : Int32) else (0 : Int32)).toInt) := by
                by_cases q : ((vm97 * (60 : Int32)) + v99) < (v46 * (60 : Int32))
                · exact Or.inl ⟨Int32.lt_iff_toInt_lt.mp q, by rw [if_pos q]⟩
                · exact Or.inr ⟨fun q' => q (Int32.lt_iff_toInt_lt.mpr q'), by rw [if_neg q]⟩
          have ar580 : (own_ct ((vm97 * (60 : Int32)) + v99) v46 v61).toInt = (if ((vm97 * (60 : Int32)) + v99) < (v46 * (60 : Int32)) then (0 : Int32) else (if ((vm97 * (60 : Int32)) + v99) < ((v61 + (1 : Int32)) * (60 : Int32)) then (1 : Int32) else (0 : Int32))).toInt := congrArg _ (own_eq_own_ct ((vm97 * (60 : Int32)) + v99) v46 v61)
          have ar581 := congrArg Int32.toInt hr339
          have ar582 : r103.toInt = r339.toInt := congrArg Int32.toInt hc117_393
          have ar583 := rng32 r396
          have ar584 : (v61.toInt < v46.toInt ∧ (if v61 < v46 then (0 : Int32) else (1 : Int32)).toInt = (0 : Int32).toInt) ∨ (¬ (v61.toInt < v46.toInt) ∧ (if v61 < v46 then (0 : Int32) else (1 : Int32)).toInt = (1 : Int32).toInt) := by
                by_cases q : v61 < v46
                · exact Or.inl ⟨Int32.lt_iff_toInt_lt.mp q, by rw [if_pos q]⟩
                · exact Or.inr ⟨fun q' => q (Int32.lt_iff_toInt_lt.mpr q'), by rw [if_neg q]⟩
          have ar585 : (v46.toInt < v46.toInt ∧ (if v46 < v46 then (0 : Int32) else (if v61 < v46 then (0 : Int32) else (1 : Int32))).toInt = (0 : Int32).toInt) ∨ (¬ (v46.toInt < v46.toInt) ∧ (if v46 < v46 then (0 : Int32) else (if v61 < v46 then (0 : Int32) else (1 : Int32))).toInt = (if v61 < v46 then (0 : Int32) else (1 : Int32)).toInt) := by
                by_cases q : v46 < v46
                · exact Or.inl ⟨Int32.lt_iff_toInt_lt.mp q, by rw [if_pos q]⟩
                · exact Or.inr ⟨fun q' => q (Int32.lt_iff_toInt_lt.mpr q'), by rw [if_neg q]⟩
          have ar586 : (own_cm v46 v46 v61).toInt = (if v46 < v46 then (0 : Int32) else (if v61 < v46 then (0 : Int32) else (1 : Int32))).toInt := congrArg _ (own_eq_own_cm v46 v46 v61)
          have ar587 := congrArg Int32.toInt hr396
          have ar588 : ¬ (r396.toInt = (0 : Int32).toInt) := fun qq_ => hc129_456 (Int32.toInt_inj.mp qq_)
          have ar589 := rng32 r459
          have ar590 : (v61.toInt < v61.toInt ∧ (if v61 < v61 then (0 : Int32) else (1 : Int32)).toInt = (0 : Int32).toInt) ∨ (¬ (v61.toInt < v61.toInt) ∧ (if v61 < v61 then (0 : Int32) else (1 : Int32)).toInt = (1 : Int32).toInt) := by
                by_cases q : v61 < v61
                · exact Or.inl ⟨Int32.lt_iff_toInt_lt.mp q, by rw [if_pos q]⟩
                · exact Or.inr ⟨fun q' => q (Int32.lt_iff_toInt_lt.mpr q'), by rw [if_neg q]⟩
          have ar591 : (v61.toInt < v46.toInt ∧ (if v61 < v46 then (0 : Int32) else (if v61 < v61 then (0 : Int32) else (1 : Int32))).toInt = (0 : Int32).toInt) ∨ (¬ (v61.toInt < v46.toInt) ∧ (if v61 < v46 then (0 : Int32) else (if v61 < v61 then (0 : Int32) else (1 : Int32))).toInt = (if v61 < v61 then (0 : Int32) else (1 : Int32)).toInt) := by
                by_cases q : v61 < v46
                · exact Or.inl ⟨Int32.lt_iff_toInt_lt.mp q, by rw [if_pos q]⟩
                · exact Or.inr ⟨fun q' => q (Int32.lt_iff_toInt_lt.mpr q'), by rw [if_neg q]⟩
          have ar592 : (own_cm v61 v46 v61).toInt = (if v61 < v46 then (0 : Int32) else (if v61 < v61 then (0 : Int32) else (1 : Int32))).toInt := congrArg _ (own_eq_own_cm v61 v46 v61)
          have ar593 := congrArg Int32.toInt hr459
          have ar594 : ¬ (r459.toInt = (0 : Int32).toInt) := fun qq_ => hc141_525 (Int32.toInt_inj.mp qq_)
          have ar595 := rng32 r528
          have ar596 := rng32 (v46 - (1 : Int32))
          first | have ar597 : (v46 - (1 : Int32)).toInt = v46.toInt - 1 := (by have qw := c_isub v46 (1 : Int32); omega) | (have ar597 := c_isub v46 (1 : Int32); skip)
          have ar598 : (v61.toInt < (v46 - (1 : Int32)).toInt ∧ (if v61 < (v46 - (1 : Int32)) then (0 : Int32) else (1 : Int32)).toInt = (0 : Int32).toInt) ∨ (¬ (v61.toInt < (v46 - (1 : Int32)).toInt) ∧ (if v61 < (v46 - (1 : Int32)) then (0 : Int32) else (1 : Int32)).toInt = (1 : Int32).toInt) := by
                by_cases q : v61 < (v46 - (1 : Int32))
                · exact Or.inl ⟨Int32.lt_iff_toInt_lt.mp q, by rw [if_pos q]⟩
                · exact Or.inr ⟨fun q' => q (Int32.lt_iff_toInt_lt.mpr q'), by rw [if_neg q]⟩
          have ar599 : ((v46 - (1 : Int32)).toInt < v46.toInt ∧ (if (v46 - (1 : Int32)) < v46 then (0 : Int32) else (if v61 < (v46 - (1 : Int32)) then (0 : Int32) else (1 : Int32))).toInt = (0 : Int32).toInt) ∨ (¬ ((v46 - (1 : Int32)).toInt < v46.toInt) ∧ (if (v46 - (1 : Int32)) < v46 then (0 : Int32) else (if v61 < (v46 - (1 : Int32)) then (0 : Int32) else (1 : Int32))).toInt = (if v61 < (v46 - (1 : Int32)) then (0 : Int32) else (1 : Int32)).toInt) := by
                by_cases q : (v46 - (1 : Int32)) < v46
                · exact Or.inl ⟨Int32.lt_iff_toInt_lt.mp q, by rw [if_pos q]⟩
                · exact Or.inr ⟨fun q' => q (Int32.lt_iff_toInt_lt.mpr q'), by rw [if_neg q]⟩
          have ar600 : (own_cm (v46 - (1 : Int32)) v46 v61).toInt = (if (v46 - (1 : Int32)) < v46 then (0 : Int32) else (if v61 < (v46 - (1 : Int32)) then (0 : Int32) else (1 : Int32))).toInt := congrArg _ (own_eq_own_cm (v46 - (1 : Int32)) v46 v61)
          have ar601 := congrArg Int32.toInt hr528
          exact Int32.toInt_inj.mp (by omega))
      obtain ⟨cq603, kq603, q603a, q603b, q603c⟩ := isOf hZ eq526 f101
      obtain ⟨_, _, ⟨T603, L603, kc603, nc603⟩, -, X603, ⟨Lc603, hQ603, l603, y603, z603⟩, st603⟩ := X526.virtualBack hx (y := (⟨"com/example/tidegate/tidegate/model/OperatingDay", "containsMinute", "(I)Z"⟩ : MethodName)) (z := (⟨"com/example/tidegate/tidegate/model/OperatingDay", "containsMinute", "(I)Z"⟩ : MethodName)) hown (mvT hZ (hw _ (List.mem_of_getElem? (i := 22) rfl))) (mvT hZ (hw _ (List.mem_of_getElem? (i := 23) rfl))) (notFace_of_selects (args := #[]) (mvT hZ (hw _ (List.mem_of_getElem? (i := 25) rfl)))) (mvT hZ (hw _ (List.mem_of_getElem? (i := 25) rfl))) (mvT hZ (hw _ (List.mem_of_getElem? (i := 24) rfl))) (by decide) (backOf (W := 0) (rm5 l Z a0 hw [] b62 (v61 + (1 : Int32)) v46 v61 T93.heap n0 oFaopen93 oFaclose93) hZ (hw _ (List.mem_of_getElem? (i := 26) rfl)) (hw _ (List.mem_of_getElem? (i := 3) rfl)) (by decide) (by decide)) q603a q603c (g := (mkF m 166 #[.val (.int p0), .val (.int p1), .val (.int p2), .val (.int p3), .val (.int p4), .val (.int v46), .val (.int v61), .val (.ref b62), .val (.int vm97), .val (.int v99), .val (.int r103), .val (.int r339)] [(.int (v61 + (1 : Int32))), (.ref b62)])) rfl (by rw [hml]; rfl) (Steps.refl _) (argsL := [(.int (v61 + (1 : Int32)))]) (rest := []) (lenOf pd_3 rfl) rfl (by show 2 * 0 + _ ≤ _; exact Nat.le_of_eq rfl) (hb hby at_166) (fun _ _ => ⟨rfl, eq526, (by decide : 1 + 0 ≤ _), (by decide : 2 + 0 ≤ _)⟩)
      dsimp only [Pt.U, Pt.locs, Pt.cells, Pt.slots] at X603 l603 y603 z603 st603 hQ603
      subst l603 y603 z603
      obtain ⟨rfl, Nq603, eq603⟩ := hQ603
      have N603 := Fr.app N526 Nq603
      have k604 : ∀ t, Steps p.tables e below (T603.setTop (mkF m 169 #[.val (.int p0), .val (.int p1), .val (.int p2), .val (.int p3), .val (.int p4), .val (.int v46), .val (.int v61), .val (.ref b62), .val (.int vm97), .val (.int v99), .val (.int r103), .val (.int r339)] [(.int (own_cm (v61 + (1 : Int32)) v46 v61))])) t → Steps p.tables e below (s₁.setTop (entryFrame m #[(.int p0), (.int p1), (.int p2), (.int p3), (.int p4)] maxLocals)) t := by
        intro t kt
        refine k527 t ?_
        show Steps p.tables e below (T526.setTop (mkF m 155 #[.val (.int p0), .val (.int p1), .val (.int p2), .val (.int p3), .val (.int p4), .val (.int v46), .val (.int v61), .val (.ref b62), .val (.int vm97), .val (.int v99), .val (.int r103), .val (.int r339)] [(.int r528)])) _
        refine XS.ifYes X526.here hx rfl (pc0 := 155) (pc' := 160) rfl (hb hby at_155) rfl ((if0 _ _).trans (teq hc155_602).1) (by decide) (by decide) ?_
        show Steps p.tables e below (T526.setTop (mkF m 160 #[.val (.int p0), .val (.int p1), .val (.int p2), .val (.int p3), .val (.int p4), .val (.int v46), .val (.int v61), .val (.ref b62), .val (.int vm97), .val (.int v99), .val (.int r103), .val (.int r339)] [])) _
        refine XS.aload X526.here hx rfl (hb hby at_160) rfl rfl ?_
        show Steps p.tables e below (T526.setTop (mkF m 162 #[.val (.int p0), .val (.int p1), .val (.int p2), .val (.int p3), .val (.int p4), .val (.int v46), .val (.int v61), .val (.ref b62), .val (.int vm97), .val (.int v99), .val (.int r103), .val (.int r339)] [(.ref b62)])) _
        refine XS.iload X526.here hx rfl (hb hby at_162) rfl ?_
        show Steps p.tables e below (T526.setTop (mkF m 164 #[.val (.int p0), .val (.int p1), .val (.int p2), .val (.int p3), .val (.int p4), .val (.int v46), .val (.int v61), .val (.ref b62), .val (.int vm97), .val (.int v99), .val (.int r103), .val (.int r339)] [(.int v61), (.ref b62)])) _
        refine XS.iconst X526.here hx rfl (hb hby at_164) ?_
        show Steps p.tables e below (T526.setTop (mkF m 165 #[.val (.int p0), .val (.int p1), .val (.int p2), .val (.int p3), .val (.int p4), .val (.int v46), .val (.int v61), .val (.ref b62), .val (.int vm97), .val (.int v99), .val (.int r103), .val (.int r339)] [(.int (1 : Int32)), (.int v61), (.ref b62)])) _
        refine XS.iadd X526.here hx rfl (hb hby at_165) rfl ?_
        show Steps p.tables e below (T526.setTop (mkF m 166 #[.val (.int p0), .val (.int p1), .val (.int p2), .val (.int p3), .val (.int p4), .val (.int v46), .val (.int v61), .val (.ref b62), .val (.int vm97), .val (.int v99), .val (.int r103), .val (.int r339)] [(.int (v61 + (1 : Int32))), (.ref b62)])) _
        refine st603.trans ?_
        show Steps p.tables e below (T603.setTop (mkF m 169 #[.val (.int p0), .val (.int p1), .val (.int p2), .val (.int p3), .val (.int p4), .val (.int v46), .val (.int v61), .val (.ref b62), .val (.int vm97), .val (.int v99), .val (.int r103), .val (.int r339)] [(.int (own_cm (v61 + (1 : Int32)) v46 v61))])) _
        exact kt
      obtain ⟨r605, hr605⟩ : ∃ z : Int32, z = (own_cm (v61 + (1 : Int32)) v46 v61) := ⟨_, rfl⟩
      rw [← hr605] at k604
      have hc169_685 : r605 = (0 : Int32) := (by
          have ar606 := rng32 vm97
          have ar607 : (0 : Int32).toInt = 0 := by decide
          have ar608 : ¬ (vm97.toInt < (0 : Int32).toInt) := fun qq_ => hc81_105 (Int32.lt_iff_toInt_lt.mpr qq_)
          have ar609 : (1440 : Int32).toInt = 1440 := by decide
          have ar610 : vm97.toInt < (1440 : Int32).toInt := Int32.lt_iff_toInt_lt.mp hc89_336
          have ar611 := rng32 r103
          have ar612 := rng32 v46
          have ar613 := rng32 p0
          have ar614 : (2147483647 : Int32).toInt = 2147483647 := by decide
          have ar615 := c_mask p0 (2147483647 : Int32) 31 (by decide) (by decide)
          simp only [show (2 ^ 31 : Nat) = 2147483648 from by decide, Int.cast_ofNat_Int] at ar615
          have ar616 := rng32 (p0 &&& (2147483647 : Int32))
          first | have ar617 := (c_irem (p0 &&& (2147483647 : Int32)) (1440 : Int32) 1440 (by decide)).1 (by omega) | have ar617 := c_irem (p0 &&& (2147483647 : Int32)) (1440 : Int32) 1440 (by decide)
          have ar618 := rng32 ((p0 &&& (2147483647 : Int32)) % (1440 : Int32))
          have ar619 := congrArg Int32.toInt hv46
          have ar620 := rng32 v61
          have ar621 := rng32 p1
          have ar622 := c_mask p1 (2147483647 : Int32) 31 (by decide) (by decide)
          simp only [show (2 ^ 31 : Nat) = 2147483648 from by decide, Int.cast_ofNat_Int] at ar622
          have ar623 := rng32 (p1 &&& (2147483647 : Int32))
          have ar624 := rng32 ((1440 : Int32) - v46)
          first | have ar625 : ((1440 : Int32) - v46).toInt = 1440 - v46.toInt := (by have qw := c_isub (1440 : Int32) v46; omega) | (have ar625 := c_isub (1440 : Int32) v46; skip)
          first | have ar626 := (c_iremV (p1 &&& (2147483647 : Int32)) ((1440 : Int32) - v46)).1 (by omega) (by omega) | have ar626 := c_iremV (p1 &&& (2147483647 : Int32)) ((1440 : Int32) - v46)
          have ar627 := rng32 ((p1 &&& (2147483647 : Int32)) % ((1440 : Int32) - v46))
          have ar628 := rng32 (v46 + ((p1 &&& (2147483647 : Int32)) % ((1440 : Int32) - v46)))
          first | have ar629 : (v46 + ((p1 &&& (2147483647 : Int32)) % ((1440 : Int32) - v46))).toInt = v46.toInt + ((p1 &&& (2147483647 : Int32)) % ((1440 : Int32) - v46)).toInt := (by have qw := c_iadd v46 ((p1 &&& (2147483647 : Int32)) % ((1440 : Int32) - v46)); omega) | (have ar629 := c_iadd v46 ((p1 &&& (2147483647 : Int32)) % ((1440 : Int32) - v46)); skip)
          have ar630 := congrArg Int32.toInt hv61
          have ar631 : (1 : Int32).toInt = 1 := by decide
          have ar632 : (v61.toInt < vm97.toInt ∧ (if v61 < vm97 then (0 : Int32) else (1 : Int32)).toInt = (0 : Int32).toInt) ∨ (¬ (v61.toInt < vm97.toInt) ∧ (if v61 < vm97 then (0 : Int32) else (1 : Int32)).toInt = (1 : Int32).toInt) := by
                by_cases q : v61 < vm97
                · exact Or.inl ⟨Int32.lt_iff_toInt_lt.mp q, by rw [if_pos q]⟩
                · exact Or.inr ⟨fun q' => q (Int32.lt_iff_toInt_lt.mpr q'), by rw [if_neg q]⟩
          have ar633 : (vm97.toInt < v46.toInt ∧ (if vm97 < v46 then (0 : Int32) else (if v61 < vm97 then (0 : Int32) else (1 : Int32))).toInt = (0 : Int32).toInt) ∨ (¬ (vm97.toInt < v46.toInt) ∧ (if vm97 < v46 then (0 : Int32) else (if v61 < vm97 then (0 : Int32) else (1 : Int32))).toInt = (if v61 < vm97 then (0 : Int32) else (1 : Int32)).toInt) := by
                by_cases q : vm97 < v46
                · exact Or.inl ⟨Int32.lt_iff_toInt_lt.mp q, by rw [if_pos q]⟩
                · exact Or.inr ⟨fun q' => q (Int32.lt_iff_toInt_lt.mpr q'), by rw [if_neg q]⟩
          have ar634 : (own_cm vm97 v46 v61).toInt = (if vm97 < v46 then (0 : Int32) else (if v61 < vm97 then (0 : Int32) else (1 : Int32))).toInt := congrArg _ (own_eq_own_cm vm97 v46 v61)
          have ar635 := congrArg Int32.toInt hr103
          have ar636 := rng32 r339
          have ar637 : (60 : Int32).toInt = 60 := by decide
          have ar638 := rng32 (vm97 * (60 : Int32))
          first | have ar639 : (vm97 * (60 : Int32)).toInt = vm97.toInt * 60 := (by have qw := c_imul vm97 (60 : Int32); rw [show (60 : Int32).toInt = 60 from by decide] at qw; omega) | (have ar639 := c_imul vm97 (60 : Int32); rw [show (60 : Int32).toInt = 60 from by decide] at ar639)
          have ar640 := rng32 v99
          have ar641 := rng32 p4
          have ar642 := c_mask p4 (2147483647 : Int32) 31 (by decide) (by decide)
          simp only [show (2 ^ 31 : Nat) = 2147483648 from by decide, Int.cast_ofNat_Int] at ar642
          have ar643 := rng32 (p4 &&& (2147483647 : Int32))
          first | have ar644 := (c_irem (p4 &&& (2147483647 : Int32)) (60 : Int32) 60 (by decide)).1 (by omega) | have ar644 := c_irem (p4 &&& (2147483647 : Int32)) (60 : Int32) 60 (by decide)
          have ar645 := rng32 ((p4 &&& (2147483647 : Int32)) % (60 : Int32))
          have ar646 := congrArg Int32.toInt hv99
          have ar647 := rng32 ((vm97 * (60 : Int32)) + v99)
          first | have ar648 : ((vm97 * (60 : Int32)) + v99).toInt = (vm97 * (60 : Int32)).toInt + v99.toInt := (by have qw := c_iadd (vm97 * (60 : Int32)) v99; omega) | (have ar648 := c_iadd (vm97 * (60 : Int32)) v99; skip)
          have ar649 := rng32 (v46 * (60 : Int32))
          first | have ar650 : (v46 * (60 : Int32)).toInt = v46.toInt * 60 := (by have qw := c_imul v46 (60 : Int32); rw [show (60 : Int32).toInt = 60 from by decide] at qw; omega) | (have ar650 := c_imul v46 (60 : Int32); rw [show (60 : Int32).toInt = 60 from by decide] at ar650)
          have ar651 := rng32 (v61 + (1 : Int32))
          first | have ar652 : (v61 + (1 : Int32)).toInt = v61.toInt + 1 := (by have qw := c_iadd v61 (1 : Int32); omega) | (have ar652 := c_iadd v61 (1 : Int32); skip)
          have ar653 := rng32 ((v61 + (1 : Int32)) * (60 : Int32))
          first | have ar654 : ((v61 + (1 : Int32)) * (60 : Int32)).toInt = (v61 + (1 : Int32)).toInt * 60 := (by have qw := c_imul (v61 + (1 : Int32)) (60 : Int32); rw [show (60 : Int32).toInt = 60 from by decide] at qw; omega) | (have ar654 := c_imul (v61 + (1 : Int32)) (60 : Int32); rw [show (60 : Int32).toInt = 60 from by decide] at ar654)
          have ar655 : (((vm97 * (60 : Int32)) + v99).toInt < ((v61 + (1 : Int32)) * (60 : Int32)).toInt ∧ (if ((vm97 * (60 : Int32)) + v99) < ((v61 + (1 : Int32)) * (60 : Int32)) then (1 : Int32) else (0 : Int32)).toInt = (1 : Int32).toInt) ∨ (¬ (((vm97 * (60 : Int32)) + v99).toInt < ((v61 + (1 : Int32)) * (60 : Int32)).toInt) ∧ (if ((vm97 * (60 : Int32)) + v99) < ((v61 + (1 : Int32)) * (60 : Int32)) then (1 : Int32) else (0 : Int32)).toInt = (0 : Int32).toInt) := by
                by_cases q : ((vm97 * (60 : Int32)) + v99) < ((v61 + (1 : Int32)) * (60 : Int32))
                · exact Or.inl ⟨Int32.lt_iff_toInt_lt.mp q, by rw [if_pos q]⟩
                · exact Or.inr ⟨fun q' => q (Int32.lt_iff_toInt_lt.mpr q'), by rw [if_neg q]⟩
          have ar656 : (((vm97 * (60 : Int32)) + v99).toInt < (v46 * (60 : Int32)).toInt ∧ (if ((vm97 * (60 : Int32)) + v99) < (v46 * (60 : Int32)) then (0 : Int32) else (if ((vm97 * (60 : Int32)) + v99) < ((v61 + (1 : Int32)) * (60 : Int32)) then (1 : Int32) else (0 : Int32))).toInt = (0 : Int32).toInt) ∨ (¬ (((vm97 * (60 : Int32)) + v99).toInt < (v46 * (60 : Int32)).toInt) ∧ (if ((vm97 * (60 : Int32)) + v99) < (v46 * (60 : Int32)) then (0 : Int32) else (if ((vm97 * (60 : Int32)) + v99) < ((v61 + (1 : Int32)) * (60 : Int32)) then (1 : Int32) else (0 : Int32))).toInt = (if ((vm97 * (60 : Int32)) + v99) < ((v61 + (1 : Int32)) * (60 : Int32)) then (1 : Int32) else (0 : Int32)).toInt) := by
                by_cases q : ((vm97 * (60 : Int32)) + v99) < (v46 * (60 : Int32))
                · exact Or.inl ⟨Int32.lt_iff_toInt_lt.mp q, by rw [if_pos q]⟩
                · exact Or.inr ⟨fun q' => q (Int32.lt_iff_toInt_lt.mpr q'), by rw [if_neg q]⟩
          have ar657 : (own_ct ((vm97 * (60 : Int32)) + v99) v46 v61).toInt = (if ((vm97 * (60 : Int32)) + v99) < (v46 * (60 : Int32)) then (0 : Int32) else (if ((vm97 * (60 : Int32)) + v99) < ((v61 + (1 : Int32)) * (60 : Int32)) then (1 : Int32) else (0 : Int32))).toInt := congrArg _ (own_eq_own_ct ((vm97 * (60 : Int32)) + v99) v46 v61)
          have ar658 := congrArg Int32.toInt hr339
          have ar659 : r103.toInt = r339.toInt := congrArg Int32.toInt hc117_393
          have ar660 := rng32 r396
          have ar661 : (v61.toInt < v46.toInt ∧ (if v61 < v46 then (0 : Int32) else (1 : Int32)).toInt = (0 : Int32).toInt) ∨ (¬ (v61.toInt < v46.toInt) ∧ (if v61 < v46 then (0 : Int32) else (1 : Int32)).toInt = (1 : Int32).toInt) := by
                by_cases q : v61 < v46
                · exact Or.inl ⟨Int32.lt_iff_toInt_lt.mp q, by rw [if_pos q]⟩
                · exact Or.inr ⟨fun q' => q (Int32.lt_iff_toInt_lt.mpr q'), by rw [if_neg q]⟩
          have ar662 : (v46.toInt < v46.toInt ∧ (if v46 < v46 then (0 : Int32) else (if v61 < v46 then (0 : Int32) else (1 : Int32))).toInt = (0 : Int32).toInt) ∨ (¬ (v46.toInt < v46.toInt) ∧ (if v46 < v46 then (0 : Int32) else (if v61 < v46 then (0 : Int32) else (1 : Int32))).toInt = (if v61 < v46 then (0 : Int32) else (1 : Int32)).toInt) := by
                by_cases q : v46 < v46
                · exact Or.inl ⟨Int32.lt_iff_toInt_lt.mp q, by rw [if_pos q]⟩
                · exact Or.inr ⟨fun q' => q (Int32.lt_iff_toInt_lt.mpr q'), by rw [if_neg q]⟩
          have ar663 : (own_cm v46 v46 v61).toInt = (if v46 < v46 then (0 : Int32) else (if v61 < v46 then (0 : Int32) else (1 : Int32))).toInt := congrArg _ (own_eq_own_cm v46 v46 v61)
          have ar664 := congrArg Int32.toInt hr396
          have ar665 : ¬ (r396.toInt = (0 : Int32).toInt) := fun qq_ => hc129_456 (Int32.toInt_inj.mp qq_)
          have ar666 := rng32 r459
          have ar667 : (v61.toInt < v61.toInt ∧ (if v61 < v61 then (0 : Int32) else (1 : Int32)).toInt = (0 : Int32).toInt) ∨ (¬ (v61.toInt < v61.toInt) ∧ (if v61 < v61 then (0 : Int32) else (1 : Int32)).toInt = (1 : Int32).toInt) := by
                by_cases q : v61 < v61
                · exact Or.inl ⟨Int32.lt_iff_toInt_lt.mp q, by rw [if_pos q]⟩
                · exact Or.inr ⟨fun q' => q (Int32.lt_iff_toInt_lt.mpr q'), by rw [if_neg q]⟩
          have ar668 : (v61.toInt < v46.toInt ∧ (if v61 < v46 then (0 : Int32) else (if v61 < v61 then (0 : Int32) else (1 : Int32))).toInt = (0 : Int32).toInt) ∨ (¬ (v61.toInt < v46.toInt) ∧ (if v61 < v46 then (0 : Int32) else (if v61 < v61 then (0 : Int32) else (1 : Int32))).toInt = (if v61 < v61 then (0 : Int32) else (1 : Int32)).toInt) := by
                by_cases q : v61 < v46
                · exact Or.inl ⟨Int32.lt_iff_toInt_lt.mp q, by rw [if_pos q]⟩
                · exact Or.inr ⟨fun q' => q (Int32.lt_iff_toInt_lt.mpr q'), by rw [if_neg q]⟩
          have ar669 : (own_cm v61 v46 v61).toInt = (if v61 < v46 then (0 : Int32) else (if v61 < v61 then (0 : Int32) else (1 : Int32))).toInt := congrArg _ (own_eq_own_cm v61 v46 v61)
          have ar670 := congrArg Int32.toInt hr459
          have ar671 : ¬ (r459.toInt = (0 : Int32).toInt) := fun qq_ => hc141_525 (Int32.toInt_inj.mp qq_)
          have ar672 := rng32 r528
          have ar673 := rng32 (v46 - (1 : Int32))
          first | have ar674 : (v46 - (1 : Int32)).toInt = v46.toInt - 1 := (by have qw := c_isub v46 (1 : Int32); omega) | (have ar674 := c_isub v46 (1 : Int32); skip)
          have ar675 : (v61.toInt < (v46 - (1 : Int32)).toInt ∧ (if v61 < (v46 - (1 : Int32)) then (0 : Int32) else (1 : Int32)).toInt = (0 : Int32).toInt) ∨ (¬ (v61.toInt < (v46 - (1 : Int32)).toInt) ∧ (if v61 < (v46 - (1 : Int32)) then (0 : Int32) else (1 : Int32)).toInt = (1 : Int32).toInt) := by
                by_cases q : v61 < (v46 - (1 : Int32))
                · exact Or.inl ⟨Int32.lt_iff_toInt_lt.mp q, by rw [if_pos q]⟩
                · exact Or.inr ⟨fun q' => q (Int32.lt_iff_toInt_lt.mpr q'), by rw [if_neg q]⟩
          have ar676 : ((v46 - (1 : Int32)).toInt < v46.toInt ∧ (if (v46 - (1 : Int32)) < v46 then (0 : Int32) else (if v61 < (v46 - (1 : Int32)) then (0 : Int32) else (1 : Int32))).toInt = (0 : Int32).toInt) ∨ (¬ ((v46 - (1 : Int32)).toInt < v46.toInt) ∧ (if (v46 - (1 : Int32)) < v46 then (0 : Int32) else (if v61 < (v46 - (1 : Int32)) then (0 : Int32) else (1 : Int32))).toInt = (if v61 < (v46 - (1 : Int32)) then (0 : Int32) else (1 : Int32)).toInt) := by
                by_cases q : (v46 - (1 : Int32)) < v46
                · exact Or.inl ⟨Int32.lt_iff_toInt_lt.mp q, by rw [if_pos q]⟩
                · exact Or.inr ⟨fun q' => q (Int32.lt_iff_toInt_lt.mpr q'), by rw [if_neg q]⟩
          have ar677 : (own_cm (v46 - (1 : Int32)) v46 v61).toInt = (if (v46 - (1 : Int32)) < v46 then (0 : Int32) else (if v61 < (v46 - (1 : Int32)) then (0 : Int32) else (1 : Int32))).toInt := congrArg _ (own_eq_own_cm (v46 - (1 : Int32)) v46 v61)
          have ar678 := congrArg Int32.toInt hr528
          have ar679 : r528.toInt = (0 : Int32).toInt := congrArg Int32.toInt hc155_602
          have ar680 := rng32 r605
          have ar681 : (v61.toInt < (v61 + (1 : Int32)).toInt ∧ (if v61 < (v61 + (1 : Int32)) then (0 : Int32) else (1 : Int32)).toInt = (0 : Int32).toInt) ∨ (¬ (v61.toInt < (v61 + (1 : Int32)).toInt) ∧ (if v61 < (v61 + (1 : Int32)) then (0 : Int32) else (1 : Int32)).toInt = (1 : Int32).toInt) := by
                by_cases q : v61 < (v61 + (1 : Int32))
                · exact Or.inl ⟨Int32.lt_iff_toInt_lt.mp q, by rw [if_pos q]⟩
                · exact Or.inr ⟨fun q' => q (Int32.lt_iff_toInt_lt.mpr q'), by rw [if_neg q]⟩
          have ar682 : ((v61 + (1 : Int32)).toInt < v46.toInt ∧ (if (v61 + (1 : Int32)) < v46 then (0 : Int32) else (if v61 < (v61 + (1 : Int32)) then (0 : Int32) else (1 : Int32))).toInt = (0 : Int32).toInt) ∨ (¬ ((v61 + (1 : Int32)).toInt < v46.toInt) ∧ (if (v61 + (1 : Int32)) < v46 then (0 : Int32) else (if v61 < (v61 + (1 : Int32)) then (0 : Int32) else (1 : Int32))).toInt = (if v61 < (v61 + (1 : Int32)) then (0 : Int32) else (1 : Int32)).toInt) := by
                by_cases q : (v61 + (1 : Int32)) < v46
                · exact Or.inl ⟨Int32.lt_iff_toInt_lt.mp q, by rw [if_pos q]⟩
                · exact Or.inr ⟨fun q' => q (Int32.lt_iff_toInt_lt.mpr q'), by rw [if_neg q]⟩
          have ar683 : (own_cm (v61 + (1 : Int32)) v46 v61).toInt = (if (v61 + (1 : Int32)) < v46 then (0 : Int32) else (if v61 < (v61 + (1 : Int32)) then (0 : Int32) else (1 : Int32))).toInt := congrArg _ (own_eq_own_cm (v61 + (1 : Int32)) v46 v61)
          have ar684 := congrArg Int32.toInt hr605
          exact Int32.toInt_inj.mp (by omega))
      have k686 : ∀ t, Steps p.tables e below (T603.setTop (mkF m 175 #[.val (.int p0), .val (.int p1), .val (.int p2), .val (.int p3), .val (.int p4), .val (.int v46), .val (.int v61), .val (.ref b62), .val (.int vm97), .val (.int v99), .val (.int r103), .val (.int r339)] [(.int (1 : Int32))])) t → Steps p.tables e below (s₁.setTop (entryFrame m #[(.int p0), (.int p1), (.int p2), (.int p3), (.int p4)] maxLocals)) t := by
        intro t kt
        refine k604 t ?_
        show Steps p.tables e below (T603.setTop (mkF m 169 #[.val (.int p0), .val (.int p1), .val (.int p2), .val (.int p3), .val (.int p4), .val (.int v46), .val (.int v61), .val (.ref b62), .val (.int vm97), .val (.int v99), .val (.int r103), .val (.int r339)] [(.int r605)])) _
        refine XS.ifYes X603.here hx rfl (pc0 := 169) (pc' := 174) rfl (hb hby at_169) rfl ((if0 _ _).trans (teq hc169_685).1) (by decide) (by decide) ?_
        show Steps p.tables e below (T603.setTop (mkF m 174 #[.val (.int p0), .val (.int p1), .val (.int p2), .val (.int p3), .val (.int p4), .val (.int v46), .val (.int v61), .val (.ref b62), .val (.int vm97), .val (.int v99), .val (.int r103), .val (.int r339)] [])) _
        refine XS.iconst X603.here hx rfl (hb hby at_174) ?_
        show Steps p.tables e below (T603.setTop (mkF m 175 #[.val (.int p0), .val (.int p1), .val (.int p2), .val (.int p3), .val (.int p4), .val (.int v46), .val (.int v61), .val (.ref b62), .val (.int vm97), .val (.int v99), .val (.int r103), .val (.int r339)] [(.int (1 : Int32))])) _
        exact kt
      obtain ⟨fs, hr, hrun, hended, hW, hsame⟩ := X603.leave (v := some (.int (1 : Int32))) (fun h => by rw [Bd.returns] at h; cases h)
      refine ⟨_, _, k686 _ (retN X603 hx (t := .boolean) Bd.returns (by simp) (hb hby at_175) hr), hrun, hended, _, _, rfl, ?_, ⟨_, rfl⟩, hW, hsame.mono (by decide) (by decide)⟩
      show Q0 Z p0 p1 p2 p3 p4 h0 n0 _ T603.heap _
      rw [eq603]
      exact ⟨rfl, N603⟩
    · have hc117_717 : r103 = (0 : Int32) := (by
          have ar687 := rng32 vm97
          have ar688 : (0 : Int32).toInt = 0 := by decide
          have ar689 : ¬ (vm97.toInt < (0 : Int32).toInt) := fun qq_ => hc81_105 (Int32.lt_iff_toInt_lt.mpr qq_)
          have ar690 : (1440 : Int32).toInt = 1440 := by decide
          have ar691 : ¬ (vm97.toInt < (1440 : Int32).toInt) := fun qq_ => hc89_336 (Int32.lt_iff_toInt_lt.mpr qq_)
          have ar692 := rng32 r103
          have ar693 := rng32 v46
          have ar694 := rng32 p0
          have ar695 : (2147483647 : Int32).toInt = 2147483647 := by decide
          have ar696 := c_mask p0 (2147483647 : Int32) 31 (by decide) (by decide)
          simp only [show (2 ^ 31 : Nat) = 2147483648 from by decide, Int.cast_ofNat_Int] at ar696
          have ar697 := rng32 (p0 &&& (2147483647 : Int32))
          first | have ar698 := (c_irem (p0 &&& (2147483647 : Int32)) (1440 : Int32) 1440 (by decide)).1 (by omega) | have ar698 := c_irem (p0 &&& (2147483647 : Int32)) (1440 : Int32) 1440 (by decide)
          have ar699 := rng32 ((p0 &&& (2147483647 : Int32)) % (1440 : Int32))
          have ar700 := congrArg Int32.toInt hv46
          have ar701 := rng32 v61
          have ar702 := rng32 p1
          have ar703 := c_mask p1 (2147483647 : Int32) 31 (by decide) (by decide)
          simp only [show (2 ^ 31 : Nat) = 2147483648 from by decide, Int.cast_ofNat_Int] at ar703
          have ar704 := rng32 (p1 &&& (2147483647 : Int32))
          have ar705 := rng32 ((1440 : Int32) - v46)
          first | have ar706 : ((1440 : Int32) - v46).toInt = 1440 - v46.toInt := (by have qw := c_isub (1440 : Int32) v46; omega) | (have ar706 := c_isub (1440 : Int32) v46; skip)
          first | have ar707 := (c_iremV (p1 &&& (2147483647 : Int32)) ((1440 : Int32) - v46)).1 (by omega) (by omega) | have ar707 := c_iremV (p1 &&& (2147483647 : Int32)) ((1440 : Int32) - v46)
          have ar708 := rng32 ((p1 &&& (2147483647 : Int32)) % ((1440 : Int32) - v46))
          have ar709 := rng32 (v46 + ((p1 &&& (2147483647 : Int32)) % ((1440 : Int32) - v46)))
          first | have ar710 : (v46 + ((p1 &&& (2147483647 : Int32)) % ((1440 : Int32) - v46))).toInt = v46.toInt + ((p1 &&& (2147483647 : Int32)) % ((1440 : Int32) - v46)).toInt := (by have qw := c_iadd v46 ((p1 &&& (2147483647 : Int32)) % ((1440 : Int32) - v46)); omega) | (have ar710 := c_iadd v46 ((p1 &&& (2147483647 : Int32)) % ((1440 : Int32) - v46)); skip)
          have ar711 := congrArg Int32.toInt hv61
          have ar712 : (1 : Int32).toInt = 1 := by decide
          have ar713 : (v61.toInt < vm97.toInt ∧ (if v61 < vm97 then (0 : Int32) else (1 : Int32)).toInt = (0 : Int32).toInt) ∨ (¬ (v61.toInt < vm97.toInt) ∧ (if v61 < vm97 then (0 : Int32) else (1 : Int32)).toInt = (1 : Int32).toInt) := by
                by_cases q : v61 < vm97
                · exact Or.inl ⟨Int32.lt_iff_toInt_lt.mp q, by rw [if_pos q]⟩
                · exact Or.inr ⟨fun q' => q (Int32.lt_iff_toInt_lt.mpr q'), by rw [if_neg q]⟩
          have ar714 : (vm97.toInt < v46.toInt ∧ (if vm97 < v46 then (0 : Int32) else (if v61 < vm97 then (0 : Int32) else (1 : Int32))).toInt = (0 : Int32).toInt) ∨ (¬ (vm97.toInt < v46.toInt) ∧ (if vm97 < v46 then (0 : Int32) else (if v61 < vm97 then (0 : Int32) else (1 : Int32))).toInt = (if v61 < vm97 then (0 : Int32) else (1 : Int32)).toInt) := by
                by_cases q : vm97 < v46
                · exact Or.inl ⟨Int32.lt_iff_toInt_lt.mp q, by rw [if_pos q]⟩
                · exact Or.inr ⟨fun q' => q (Int32.lt_iff_toInt_lt.mpr q'), by rw [if_neg q]⟩
          have ar715 : (own_cm vm97 v46 v61).toInt = (if vm97 < v46 then (0 : Int32) else (if v61 < vm97 then (0 : Int32) else (1 : Int32))).toInt := congrArg _ (own_eq_own_cm vm97 v46 v61)
          have ar716 := congrArg Int32.toInt hr103
          exact Int32.toInt_inj.mp (by omega))
      obtain ⟨cq718, kq718, q718a, q718b, q718c⟩ := isOf hZ eq100 f101
      obtain ⟨_, _, ⟨T718, L718, kc718, nc718⟩, -, X718, ⟨Lc718, hQ718, l718, y718, z718⟩, st718⟩ := X100.virtualBack hx (y := (⟨"com/example/tidegate/tidegate/model/OperatingDay", "containsMinute", "(I)Z"⟩ : MethodName)) (z := (⟨"com/example/tidegate/tidegate/model/OperatingDay", "containsMinute", "(I)Z"⟩ : MethodName)) hown (mvT hZ (hw _ (List.mem_of_getElem? (i := 22) rfl))) (mvT hZ (hw _ (List.mem_of_getElem? (i := 23) rfl))) (notFace_of_selects (args := #[]) (mvT hZ (hw _ (List.mem_of_getElem? (i := 25) rfl)))) (mvT hZ (hw _ (List.mem_of_getElem? (i := 25) rfl))) (mvT hZ (hw _ (List.mem_of_getElem? (i := 24) rfl))) (by decide) (backOf (W := 0) (rm5 l Z a0 hw [] b62 v46 v46 v61 T93.heap n0 oFaopen93 oFaclose93) hZ (hw _ (List.mem_of_getElem? (i := 26) rfl)) (hw _ (List.mem_of_getElem? (i := 3) rfl)) (by decide) (by decide)) q718a q718c (g := (mkF m 126 #[.val (.int p0), .val (.int p1), .val (.int p2), .val (.int p3), .val (.int p4), .val (.int v46), .val (.int v61), .val (.ref b62), .val (.int vm97), .val (.int v99), .val (.int r103), .val (.int (0 : Int32))] [(.int v46), (.ref b62)])) rfl (by rw [hml]; rfl) (Steps.refl _) (argsL := [(.int v46)]) (rest := []) (lenOf pd_3 rfl) rfl (by show 2 * 0 + _ ≤ _; exact Nat.le_of_eq rfl) (hb hby at_126) (fun _ _ => ⟨rfl, eq100, (by decide : 1 + 0 ≤ _), (by decide : 2 + 0 ≤ _)⟩)
      dsimp only [Pt.U, Pt.locs, Pt.cells, Pt.slots] at X718 l718 y718 z718 st718 hQ718
      subst l718 y718 z718
      obtain ⟨rfl, Nq718, eq718⟩ := hQ718
      have N718 := Fr.app N100 Nq718
      have k719 : ∀ t, Steps p.tables e below (T718.setTop (mkF m 129 #[.val (.int p0), .val (.int p1), .val (.int p2), .val (.int p3), .val (.int p4), .val (.int v46), .val (.int v61), .val (.ref b62), .val (.int vm97), .val (.int v99), .val (.int r103), .val (.int (0 : Int32))] [(.int (own_cm v46 v46 v61))])) t → Steps p.tables e below (s₁.setTop (entryFrame m #[(.int p0), (.int p1), (.int p2), (.int p3), (.int p4)] maxLocals)) t := by
        intro t kt
        refine k335 t ?_
        refine XS.icmpNo X100.here hx rfl (hb hby at_89) rfl (flt hc89_336).1 ?_
        show Steps p.tables e below (T100.setTop (mkF m 92 #[.val (.int p0), .val (.int p1), .val (.int p2), .val (.int p3), .val (.int p4), .val (.int v46), .val (.int v61), .val (.ref b62), .val (.int vm97), .val (.int v99), .val (.int r103), .unset] [])) _
        refine XS.iconst X100.here hx rfl (hb hby at_92) ?_
        show Steps p.tables e below (T100.setTop (mkF m 93 #[.val (.int p0), .val (.int p1), .val (.int p2), .val (.int p3), .val (.int p4), .val (.int v46), .val (.int v61), .val (.ref b62), .val (.int vm97), .val (.int v99), .val (.int r103), .unset] [(.int (0 : Int32))])) _
        refine XS.istore X100.here hx rfl (hb hby at_93) rfl (l' := #[.val (.int p0), .val (.int p1), .val (.int p2), .val (.int p3), .val (.int p4), .val (.int v46), .val (.int v61), .val (.ref b62), .val (.int vm97), .val (.int v99), .val (.int r103), .val (.int (0 : Int32))]) rfl ?_
        show Steps p.tables e below (T100.setTop (mkF m 95 #[.val (.int p0), .val (.int p1), .val (.int p2), .val (.int p3), .val (.int p4), .val (.int v46), .val (.int v61), .val (.ref b62), .val (.int vm97), .val (.int v99), .val (.int r103), .val (.int (0 : Int32))] [])) _
        refine XS.goto X100.here hx rfl (pc0 := 95) (pc' := 113) rfl (hb hby at_95) (by decide) (by decide) ?_
        show Steps p.tables e below (T100.setTop (mkF m 113 #[.val (.int p0), .val (.int p1), .val (.int p2), .val (.int p3), .val (.int p4), .val (.int v46), .val (.int v61), .val (.ref b62), .val (.int vm97), .val (.int v99), .val (.int r103), .val (.int (0 : Int32))] [])) _
        refine XS.iload X100.here hx rfl (hb hby at_113) rfl ?_
        show Steps p.tables e below (T100.setTop (mkF m 115 #[.val (.int p0), .val (.int p1), .val (.int p2), .val (.int p3), .val (.int p4), .val (.int v46), .val (.int v61), .val (.ref b62), .val (.int vm97), .val (.int v99), .val (.int r103), .val (.int (0 : Int32))] [(.int r103)])) _
        refine XS.iload X100.here hx rfl (hb hby at_115) rfl ?_
        show Steps p.tables e below (T100.setTop (mkF m 117 #[.val (.int p0), .val (.int p1), .val (.int p2), .val (.int p3), .val (.int p4), .val (.int v46), .val (.int v61), .val (.ref b62), .val (.int vm97), .val (.int v99), .val (.int r103), .val (.int (0 : Int32))] [(.int (0 : Int32)), (.int r103)])) _
        refine XS.icmpYes X100.here hx rfl (pc0 := 117) (pc' := 122) rfl (hb hby at_117) rfl (teq hc117_717).1 (by decide) (by decide) ?_
        show Steps p.tables e below (T100.setTop (mkF m 122 #[.val (.int p0), .val (.int p1), .val (.int p2), .val (.int p3), .val (.int p4), .val (.int v46), .val (.int v61), .val (.ref b62), .val (.int vm97), .val (.int v99), .val (.int r103), .val (.int (0 : Int32))] [])) _
        refine XS.aload X100.here hx rfl (hb hby at_122) rfl rfl ?_
        show Steps p.tables e below (T100.setTop (mkF m 124 #[.val (.int p0), .val (.int p1), .val (.int p2), .val (.int p3), .val (.int p4), .val (.int v46), .val (.int v61), .val (.ref b62), .val (.int vm97), .val (.int v99), .val (.int r103), .val (.int (0 : Int32))] [(.ref b62)])) _
        refine XS.iload X100.here hx rfl (hb hby at_124) rfl ?_
        show Steps p.tables e below (T100.setTop (mkF m 126 #[.val (.int p0), .val (.int p1), .val (.int p2), .val (.int p3), .val (.int p4), .val (.int v46), .val (.int v61), .val (.ref b62), .val (.int vm97), .val (.int v99), .val (.int r103), .val (.int (0 : Int32))] [(.int v46), (.ref b62)])) _
        refine st718.trans ?_
        show Steps p.tables e below (T718.setTop (mkF m 129 #[.val (.int p0), .val (.int p1), .val (.int p2), .val (.int p3), .val (.int p4), .val (.int v46), .val (.int v61), .val (.ref b62), .val (.int vm97), .val (.int v99), .val (.int r103), .val (.int (0 : Int32))] [(.int (own_cm v46 v46 v61))])) _
        exact kt
      obtain ⟨r720, hr720⟩ : ∃ z : Int32, z = (own_cm v46 v46 v61) := ⟨_, rfl⟩
      rw [← hr720] at k719
      have hc129_757 : ¬ (r720 = (0 : Int32)) := (by
          have ar721 := rng32 vm97
          have ar722 : (0 : Int32).toInt = 0 := by decide
          have ar723 : ¬ (vm97.toInt < (0 : Int32).toInt) := fun qq_ => hc81_105 (Int32.lt_iff_toInt_lt.mpr qq_)
          have ar724 : (1440 : Int32).toInt = 1440 := by decide
          have ar725 : ¬ (vm97.toInt < (1440 : Int32).toInt) := fun qq_ => hc89_336 (Int32.lt_iff_toInt_lt.mpr qq_)
          have ar726 := rng32 r103
          have ar727 := rng32 v46
          have ar728 := rng32 p0
          have ar729 : (2147483647 : Int32).toInt = 2147483647 := by decide
          have ar730 := c_mask p0 (2147483647 : Int32) 31 (by decide) (by decide)
          simp only [show (2 ^ 31 : Nat) = 2147483648 from by decide, Int.cast_ofNat_Int] at ar730
          have ar731 := rng32 (p0 &&& (2147483647 : Int32))
          first | have ar732 := (c_irem (p0 &&& (2147483647 : Int32)) (1440 : Int32) 1440 (by decide)).1 (by omega) | have ar732 := c_irem (p0 &&& (2147483647 : Int32)) (1440 : Int32) 1440 (by decide)
          have ar733 := rng32 ((p0 &&& (2147483647 : Int32)) % (1440 : Int32))
          have ar734 := congrArg Int32.toInt hv46
          have ar735 := rng32 v61
          have ar736 := rng32 p1
          have ar737 := c_mask p1 (2147483647 : Int32) 31 (by decide) (by decide)
          simp only [show (2 ^ 31 : Nat) = 2147483648 from by decide, Int.cast_ofNat_Int] at ar737
          have ar738 := rng32 (p1 &&& (2147483647 : Int32))
          have ar739 := rng32 ((1440 : Int32) - v46)
          first | have ar740 : ((1440 : Int32) - v46).toInt = 1440 - v46.toInt := (by have qw := c_isub (1440 : Int32) v46; omega) | (have ar740 := c_isub (1440 : Int32) v46; skip)
          first | have ar741 := (c_iremV (p1 &&& (2147483647 : Int32)) ((1440 : Int32) - v46)).1 (by omega) (by omega) | have ar741 := c_iremV (p1 &&& (2147483647 : Int32)) ((1440 : Int32) - v46)
          have ar742 := rng32 ((p1 &&& (2147483647 : Int32)) % ((1440 : Int32) - v46))
          have ar743 := rng32 (v46 + ((p1 &&& (2147483647 : Int32)) % ((1440 : Int32) - v46)))
          first | have ar744 : (v46 + ((p1 &&& (2147483647 : Int32)) % ((1440 : Int32) - v46))).toInt = v46.toInt + ((p1 &&& (2147483647 : Int32)) % ((1440 : Int32) - v46)).toInt := (by have qw := c_iadd v46 ((p1 &&& (2147483647 : Int32)) % ((1440 : Int32) - v46)); omega) | (have ar744 := c_iadd v46 ((p1 &&& (2147483647 : Int32)) % ((1440 : Int32) - v46)); skip)
          have ar745 := congrArg Int32.toInt hv61
          have ar746 : (1 : Int32).toInt = 1 := by decide
          have ar747 : (v61.toInt < vm97.toInt ∧ (if v61 < vm97 then (0 : Int32) else (1 : Int32)).toInt = (0 : Int32).toInt) ∨ (¬ (v61.toInt < vm97.toInt) ∧ (if v61 < vm97 then (0 : Int32) else (1 : Int32)).toInt = (1 : Int32).toInt) := by
                by_cases q : v61 < vm97
                · exact Or.inl ⟨Int32.lt_iff_toInt_lt.mp q, by rw [if_pos q]⟩
                · exact Or.inr ⟨fun q' => q (Int32.lt_iff_toInt_lt.mpr q'), by rw [if_neg q]⟩
          have ar748 : (vm97.toInt < v46.toInt ∧ (if vm97 < v46 then (0 : Int32) else (if v61 < vm97 then (0 : Int32) else (1 : Int32))).toInt = (0 : Int32).toInt) ∨ (¬ (vm97.toInt < v46.toInt) ∧ (if vm97 < v46 then (0 : Int32) else (if v61 < vm97 then (0 : Int32) else (1 : Int32))).toInt = (if v61 < vm97 then (0 : Int32) else (1 : Int32)).toInt) := by
                by_cases q : vm97 < v46
                · exact Or.inl ⟨Int32.lt_iff_toInt_lt.mp q, by rw [if_pos q]⟩
                · exact Or.inr ⟨fun q' => q (Int32.lt_iff_toInt_lt.mpr q'), by rw [if_neg q]⟩
          have ar749 : (own_cm vm97 v46 v61).toInt = (if vm97 < v46 then (0 : Int32) else (if v61 < vm97 then (0 : Int32) else (1 : Int32))).toInt := congrArg _ (own_eq_own_cm vm97 v46 v61)
          have ar750 := congrArg Int32.toInt hr103
          have ar751 : r103.toInt = (0 : Int32).toInt := congrArg Int32.toInt hc117_717
          have ar752 := rng32 r720
          have ar753 : (v61.toInt < v46.toInt ∧ (if v61 < v46 then (0 : Int32) else (1 : Int32)).toInt = (0 : Int32).toInt) ∨ (¬ (v61.toInt < v46.toInt) ∧ (if v61 < v46 then (0 : Int32) else (1 : Int32)).toInt = (1 : Int32).toInt) := by
                by_cases q : v61 < v46
                · exact Or.inl ⟨Int32.lt_iff_toInt_lt.mp q, by rw [if_pos q]⟩
                · exact Or.inr ⟨fun q' => q (Int32.lt_iff_toInt_lt.mpr q'), by rw [if_neg q]⟩
          have ar754 : (v46.toInt < v46.toInt ∧ (if v46 < v46 then (0 : Int32) else (if v61 < v46 then (0 : Int32) else (1 : Int32))).toInt = (0 : Int32).toInt) ∨ (¬ (v46.toInt < v46.toInt) ∧ (if v46 < v46 then (0 : Int32) else (if v61 < v46 then (0 : Int32) else (1 : Int32))).toInt = (if v61 < v46 then (0 : Int32) else (1 : Int32)).toInt) := by
                by_cases q : v46 < v46
                · exact Or.inl ⟨Int32.lt_iff_toInt_lt.mp q, by rw [if_pos q]⟩
                · exact Or.inr ⟨fun q' => q (Int32.lt_iff_toInt_lt.mpr q'), by rw [if_neg q]⟩
          have ar755 : (own_cm v46 v46 v61).toInt = (if v46 < v46 then (0 : Int32) else (if v61 < v46 then (0 : Int32) else (1 : Int32))).toInt := congrArg _ (own_eq_own_cm v46 v46 v61)
          have ar756 := congrArg Int32.toInt hr720
          exact fun qq_ => absurd (congrArg Int32.toInt qq_) (by omega))
      obtain ⟨cq758, kq758, q758a, q758b, q758c⟩ := isOf hZ eq718 f101
      obtain ⟨_, _, ⟨T758, L758, kc758, nc758⟩, -, X758, ⟨Lc758, hQ758, l758, y758, z758⟩, st758⟩ := X718.virtualBack hx (y := (⟨"com/example/tidegate/tidegate/model/OperatingDay", "containsMinute", "(I)Z"⟩ : MethodName)) (z := (⟨"com/example/tidegate/tidegate/model/OperatingDay", "containsMinute", "(I)Z"⟩ : MethodName)) hown (mvT hZ (hw _ (List.mem_of_getElem? (i := 22) rfl))) (mvT hZ (hw _ (List.mem_of_getElem? (i := 23) rfl))) (notFace_of_selects (args := #[]) (mvT hZ (hw _ (List.mem_of_getElem? (i := 25) rfl)))) (mvT hZ (hw _ (List.mem_of_getElem? (i := 25) rfl))) (mvT hZ (hw _ (List.mem_of_getElem? (i := 24) rfl))) (by decide) (backOf (W := 0) (rm5 l Z a0 hw [] b62 v61 v46 v61 T93.heap n0 oFaopen93 oFaclose93) hZ (hw _ (List.mem_of_getElem? (i := 26) rfl)) (hw _ (List.mem_of_getElem? (i := 3) rfl)) (by decide) (by decide)) q758a q758c (g := (mkF m 138 #[.val (.int p0), .val (.int p1), .val (.int p2), .val (.int p3), .val (.int p4), .val (.int v46), .val (.int v61), .val (.ref b62), .val (.int vm97), .val (.int v99), .val (.int r103), .val (.int (0 : Int32))] [(.int v61), (.ref b62)])) rfl (by rw [hml]; rfl) (Steps.refl _) (argsL := [(.int v61)]) (rest := []) (lenOf pd_3 rfl) rfl (by show 2 * 0 + _ ≤ _; exact Nat.le_of_eq rfl) (hb hby at_138) (fun _ _ => ⟨rfl, eq718, (by decide : 1 + 0 ≤ _), (by decide : 2 + 0 ≤ _)⟩)
      dsimp only [Pt.U, Pt.locs, Pt.cells, Pt.slots] at X758 l758 y758 z758 st758 hQ758
      subst l758 y758 z758
      obtain ⟨rfl, Nq758, eq758⟩ := hQ758
      have N758 := Fr.app N718 Nq758
      have k759 : ∀ t, Steps p.tables e below (T758.setTop (mkF m 141 #[.val (.int p0), .val (.int p1), .val (.int p2), .val (.int p3), .val (.int p4), .val (.int v46), .val (.int v61), .val (.ref b62), .val (.int vm97), .val (.int v99), .val (.int r103), .val (.int (0 : Int32))] [(.int (own_cm v61 v46 v61))])) t → Steps p.tables e below (s₁.setTop (entryFrame m #[(.int p0), (.int p1), (.int p2), (.int p3), (.int p4)] maxLocals)) t := by
        intro t kt
        refine k719 t ?_
        show Steps p.tables e below (T718.setTop (mkF m 129 #[.val (.int p0), .val (.int p1), .val (.int p2), .val (.int p3), .val (.int p4), .val (.int v46), .val (.int v61), .val (.ref b62), .val (.int vm97), .val (.int v99), .val (.int r103), .val (.int (0 : Int32))] [(.int r720)])) _
        refine XS.ifYes X718.here hx rfl (pc0 := 129) (pc' := 134) rfl (hb hby at_129) rfl ((if0 _ _).trans (feq hc129_757).2) (by decide) (by decide) ?_
        show Steps p.tables e below (T718.setTop (mkF m 134 #[.val (.int p0), .val (.int p1), .val (.int p2), .val (.int p3), .val (.int p4), .val (.int v46), .val (.int v61), .val (.ref b62), .val (.int vm97), .val (.int v99), .val (.int r103), .val (.int (0 : Int32))] [])) _
        refine XS.aload X718.here hx rfl (hb hby at_134) rfl rfl ?_
        show Steps p.tables e below (T718.setTop (mkF m 136 #[.val (.int p0), .val (.int p1), .val (.int p2), .val (.int p3), .val (.int p4), .val (.int v46), .val (.int v61), .val (.ref b62), .val (.int vm97), .val (.int v99), .val (.int r103), .val (.int (0 : Int32))] [(.ref b62)])) _
        refine XS.iload X718.here hx rfl (hb hby at_136) rfl ?_
        show Steps p.tables e below (T718.setTop (mkF m 138 #[.val (.int p0), .val (.int p1), .val (.int p2), .val (.int p3), .val (.int p4), .val (.int v46), .val (.int v61), .val (.ref b62), .val (.int vm97), .val (.int v99), .val (.int r103), .val (.int (0 : Int32))] [(.int v61), (.ref b62)])) _
        refine st758.trans ?_
        show Steps p.tables e below (T758.setTop (mkF m 141 #[.val (.int p0), .val (.int p1), .val (.int p2), .val (.int p3), .val (.int p4), .val (.int v46), .val (.int v61), .val (.ref b62), .val (.int vm97), .val (.int v99), .val (.int r103), .val (.int (0 : Int32))] [(.int (own_cm v61 v46 v61))])) _
        exact kt
      obtain ⟨r760, hr760⟩ : ∃ z : Int32, z = (own_cm v61 v46 v61) := ⟨_, rfl⟩
      rw [← hr760] at k759
      have hc141_803 : ¬ (r760 = (0 : Int32)) := (by
          have ar761 := rng32 vm97
          have ar762 : (0 : Int32).toInt = 0 := by decide
          have ar763 : ¬ (vm97.toInt < (0 : Int32).toInt) := fun qq_ => hc81_105 (Int32.lt_iff_toInt_lt.mpr qq_)
          have ar764 : (1440 : Int32).toInt = 1440 := by decide
          have ar765 : ¬ (vm97.toInt < (1440 : Int32).toInt) := fun qq_ => hc89_336 (Int32.lt_iff_toInt_lt.mpr qq_)
          have ar766 := rng32 r103
          have ar767 := rng32 v46
          have ar768 := rng32 p0
          have ar769 : (2147483647 : Int32).toInt = 2147483647 := by decide
          have ar770 := c_mask p0 (2147483647 : Int32) 31 (by decide) (by decide)
          simp only [show (2 ^ 31 : Nat) = 2147483648 from by decide, Int.cast_ofNat_Int] at ar770
          have ar771 := rng32 (p0 &&& (2147483647 : Int32))
          first | have ar772 := (c_irem (p0 &&& (2147483647 : Int32)) (1440 : Int32) 1440 (by decide)).1 (by omega) | have ar772 := c_irem (p0 &&& (2147483647 : Int32)) (1440 : Int32) 1440 (by decide)
          have ar773 := rng32 ((p0 &&& (2147483647 : Int32)) % (1440 : Int32))
          have ar774 := congrArg Int32.toInt hv46
          have ar775 := rng32 v61
          have ar776 := rng32 p1
          have ar777 := c_mask p1 (2147483647 : Int32) 31 (by decide) (by decide)
          simp only [show (2 ^ 31 : Nat) = 2147483648 from by decide, Int.cast_ofNat_Int] at ar777
          have ar778 := rng32 (p1 &&& (2147483647 : Int32))
          have ar779 := rng32 ((1440 : Int32) - v46)
          first | have ar780 : ((1440 : Int32) - v46).toInt = 1440 - v46.toInt := (by have qw := c_isub (1440 : Int32) v46; omega) | (have ar780 := c_isub (1440 : Int32) v46; skip)
          first | have ar781 := (c_iremV (p1 &&& (2147483647 : Int32)) ((1440 : Int32) - v46)).1 (by omega) (by omega) | have ar781 := c_iremV (p1 &&& (2147483647 : Int32)) ((1440 : Int32) - v46)
          have ar782 := rng32 ((p1 &&& (2147483647 : Int32)) % ((1440 : Int32) - v46))
          have ar783 := rng32 (v46 + ((p1 &&& (2147483647 : Int32)) % ((1440 : Int32) - v46)))
          first | have ar784 : (v46 + ((p1 &&& (2147483647 : Int32)) % ((1440 : Int32) - v46))).toInt = v46.toInt + ((p1 &&& (2147483647 : Int32)) % ((1440 : Int32) - v46)).toInt := (by have qw := c_iadd v46 ((p1 &&& (2147483647 : Int32)) % ((1440 : Int32) - v46)); omega) | (have ar784 := c_iadd v46 ((p1 &&& (2147483647 : Int32)) % ((1440 : Int32) - v46)); skip)
          have ar785 := congrArg Int32.toInt hv61
          have ar786 : (1 : Int32).toInt = 1 := by decide
          have ar787 : (v61.toInt < vm97.toInt ∧ (if v61 < vm97 then (0 : Int32) else (1 : Int32)).toInt = (0 : Int32).toInt) ∨ (¬ (v61.toInt < vm97.toInt) ∧ (if v61 < vm97 then (0 : Int32) else (1 : Int32)).toInt = (1 : Int32).toInt) := by
                by_cases q : v61 < vm97
                · exact Or.inl ⟨Int32.lt_iff_toInt_lt.mp q, by rw [if_pos q]⟩
                · exact Or.inr ⟨fun q' => q (Int32.lt_iff_toInt_lt.mpr q'), by rw [if_neg q]⟩
          have ar788 : (vm97.toInt < v46.toInt ∧ (if vm97 < v46 then (0 : Int32) else (if v61 < vm97 then (0 : Int32) else (1 : Int32))).toInt = (0 : Int32).toInt) ∨ (¬ (vm97.toInt < v46.toInt) ∧ (if vm97 < v46 then (0 : Int32) else (if v61 < vm97 then (0 : Int32) else (1 : Int32))).toInt = (if v61 < vm97 then (0 : Int32) else (1 : Int32)).toInt) := by
                by_cases q : vm97 < v46
                · exact Or.inl ⟨Int32.lt_iff_toInt_lt.mp q, by rw [if_pos q]⟩
                · exact Or.inr ⟨fun q' => q (Int32.lt_iff_toInt_lt.mpr q'), by rw [if_neg q]⟩
          have ar789 : (own_cm vm97 v46 v61).toInt = (if vm97 < v46 then (0 : Int32) else (if v61 < vm97 then (0 : Int32) else (1 : Int32))).toInt := congrArg _ (own_eq_own_cm vm97 v46 v61)
          have ar790 := congrArg Int32.toInt hr103
          have ar791 : r103.toInt = (0 : Int32).toInt := congrArg Int32.toInt hc117_717
          have ar792 := rng32 r720
          have ar793 : (v61.toInt < v46.toInt ∧ (if v61 < v46 then (0 : Int32) else (1 : Int32)).toInt = (0 : Int32).toInt) ∨ (¬ (v61.toInt < v46.toInt) ∧ (if v61 < v46 then (0 : Int32) else (1 : Int32)).toInt = (1 : Int32).toInt) := by
                by_cases q : v61 < v46
                · exact Or.inl ⟨Int32.lt_iff_toInt_lt.mp q, by rw [if_pos q]⟩
                · exact Or.inr ⟨fun q' => q (Int32.lt_iff_toInt_lt.mpr q'), by rw [if_neg q]⟩
          have ar794 : (v46.toInt < v46.toInt ∧ (if v46 < v46 then (0 : Int32) else (if v61 < v46 then (0 : Int32) else (1 : Int32))).toInt = (0 : Int32).toInt) ∨ (¬ (v46.toInt < v46.toInt) ∧ (if v46 < v46 then (0 : Int32) else (if v61 < v46 then (0 : Int32) else (1 : Int32))).toInt = (if v61 < v46 then (0 : Int32) else (1 : Int32)).toInt) := by
                by_cases q : v46 < v46
                · exact Or.inl ⟨Int32.lt_iff_toInt_lt.mp q, by rw [if_pos q]⟩
                · exact Or.inr ⟨fun q' => q (Int32.lt_iff_toInt_lt.mpr q'), by rw [if_neg q]⟩
          have ar795 : (own_cm v46 v46 v61).toInt = (if v46 < v46 then (0 : Int32) else (if v61 < v46 then (0 : Int32) else (1 : Int32))).toInt := congrArg _ (own_eq_own_cm v46 v46 v61)
          have ar796 := congrArg Int32.toInt hr720
          have ar797 : ¬ (r720.toInt = (0 : Int32).toInt) := fun qq_ => hc129_757 (Int32.toInt_inj.mp qq_)
          have ar798 := rng32 r760
          have ar799 : (v61.toInt < v61.toInt ∧ (if v61 < v61 then (0 : Int32) else (1 : Int32)).toInt = (0 : Int32).toInt) ∨ (¬ (v61.toInt < v61.toInt) ∧ (if v61 < v61 then (0 : Int32) else (1 : Int32)).toInt = (1 : Int32).toInt) := by
                by_cases q : v61 < v61
                · exact Or.inl ⟨Int32.lt_iff_toInt_lt.mp q, by rw [if_pos q]⟩
                · exact Or.inr ⟨fun q' => q (Int32.lt_iff_toInt_lt.mpr q'), by rw [if_neg q]⟩
          have ar800 : (v61.toInt < v46.toInt ∧ (if v61 < v46 then (0 : Int32) else (if v61 < v61 then (0 : Int32) else (1 : Int32))).toInt = (0 : Int32).toInt) ∨ (¬ (v61.toInt < v46.toInt) ∧ (if v61 < v46 then (0 : Int32) else (if v61 < v61 then (0 : Int32) else (1 : Int32))).toInt = (if v61 < v61 then (0 : Int32) else (1 : Int32)).toInt) := by
                by_cases q : v61 < v46
                · exact Or.inl ⟨Int32.lt_iff_toInt_lt.mp q, by rw [if_pos q]⟩
                · exact Or.inr ⟨fun q' => q (Int32.lt_iff_toInt_lt.mpr q'), by rw [if_neg q]⟩
          have ar801 : (own_cm v61 v46 v61).toInt = (if v61 < v46 then (0 : Int32) else (if v61 < v61 then (0 : Int32) else (1 : Int32))).toInt := congrArg _ (own_eq_own_cm v61 v46 v61)
          have ar802 := congrArg Int32.toInt hr760
          exact fun qq_ => absurd (congrArg Int32.toInt qq_) (by omega))
      obtain ⟨cq804, kq804, q804a, q804b, q804c⟩ := isOf hZ eq758 f101
      obtain ⟨_, _, ⟨T804, L804, kc804, nc804⟩, -, X804, ⟨Lc804, hQ804, l804, y804, z804⟩, st804⟩ := X758.virtualBack hx (y := (⟨"com/example/tidegate/tidegate/model/OperatingDay", "containsMinute", "(I)Z"⟩ : MethodName)) (z := (⟨"com/example/tidegate/tidegate/model/OperatingDay", "containsMinute", "(I)Z"⟩ : MethodName)) hown (mvT hZ (hw _ (List.mem_of_getElem? (i := 22) rfl))) (mvT hZ (hw _ (List.mem_of_getElem? (i := 23) rfl))) (notFace_of_selects (args := #[]) (mvT hZ (hw _ (List.mem_of_getElem? (i := 25) rfl)))) (mvT hZ (hw _ (List.mem_of_getElem? (i := 25) rfl))) (mvT hZ (hw _ (List.mem_of_getElem? (i := 24) rfl))) (by decide) (backOf (W := 0) (rm5 l Z a0 hw [] b62 (v46 - (1 : Int32)) v46 v61 T93.heap n0 oFaopen93 oFaclose93) hZ (hw _ (List.mem_of_getElem? (i := 26) rfl)) (hw _ (List.mem_of_getElem? (i := 3) rfl)) (by decide) (by decide)) q804a q804c (g := (mkF m 152 #[.val (.int p0), .val (.int p1), .val (.int p2), .val (.int p3), .val (.int p4), .val (.int v46), .val (.int v61), .val (.ref b62), .val (.int vm97), .val (.int v99), .val (.int r103), .val (.int (0 : Int32))] [(.int (v46 - (1 : Int32))), (.ref b62)])) rfl (by rw [hml]; rfl) (Steps.refl _) (argsL := [(.int (v46 - (1 : Int32)))]) (rest := []) (lenOf pd_3 rfl) rfl (by show 2 * 0 + _ ≤ _; exact Nat.le_of_eq rfl) (hb hby at_152) (fun _ _ => ⟨rfl, eq758, (by decide : 1 + 0 ≤ _), (by decide : 2 + 0 ≤ _)⟩)
      dsimp only [Pt.U, Pt.locs, Pt.cells, Pt.slots] at X804 l804 y804 z804 st804 hQ804
      subst l804 y804 z804
      obtain ⟨rfl, Nq804, eq804⟩ := hQ804
      have N804 := Fr.app N758 Nq804
      have k805 : ∀ t, Steps p.tables e below (T804.setTop (mkF m 155 #[.val (.int p0), .val (.int p1), .val (.int p2), .val (.int p3), .val (.int p4), .val (.int v46), .val (.int v61), .val (.ref b62), .val (.int vm97), .val (.int v99), .val (.int r103), .val (.int (0 : Int32))] [(.int (own_cm (v46 - (1 : Int32)) v46 v61))])) t → Steps p.tables e below (s₁.setTop (entryFrame m #[(.int p0), (.int p1), (.int p2), (.int p3), (.int p4)] maxLocals)) t := by
        intro t kt
        refine k759 t ?_
        show Steps p.tables e below (T758.setTop (mkF m 141 #[.val (.int p0), .val (.int p1), .val (.int p2), .val (.int p3), .val (.int p4), .val (.int v46), .val (.int v61), .val (.ref b62), .val (.int vm97), .val (.int v99), .val (.int r103), .val (.int (0 : Int32))] [(.int r760)])) _
        refine XS.ifYes X758.here hx rfl (pc0 := 141) (pc' := 146) rfl (hb hby at_141) rfl ((if0 _ _).trans (feq hc141_803).2) (by decide) (by decide) ?_
        show Steps p.tables e below (T758.setTop (mkF m 146 #[.val (.int p0), .val (.int p1), .val (.int p2), .val (.int p3), .val (.int p4), .val (.int v46), .val (.int v61), .val (.ref b62), .val (.int vm97), .val (.int v99), .val (.int r103), .val (.int (0 : Int32))] [])) _
        refine XS.aload X758.here hx rfl (hb hby at_146) rfl rfl ?_
        show Steps p.tables e below (T758.setTop (mkF m 148 #[.val (.int p0), .val (.int p1), .val (.int p2), .val (.int p3), .val (.int p4), .val (.int v46), .val (.int v61), .val (.ref b62), .val (.int vm97), .val (.int v99), .val (.int r103), .val (.int (0 : Int32))] [(.ref b62)])) _
        refine XS.iload X758.here hx rfl (hb hby at_148) rfl ?_
        show Steps p.tables e below (T758.setTop (mkF m 150 #[.val (.int p0), .val (.int p1), .val (.int p2), .val (.int p3), .val (.int p4), .val (.int v46), .val (.int v61), .val (.ref b62), .val (.int vm97), .val (.int v99), .val (.int r103), .val (.int (0 : Int32))] [(.int v46), (.ref b62)])) _
        refine XS.iconst X758.here hx rfl (hb hby at_150) ?_
        show Steps p.tables e below (T758.setTop (mkF m 151 #[.val (.int p0), .val (.int p1), .val (.int p2), .val (.int p3), .val (.int p4), .val (.int v46), .val (.int v61), .val (.ref b62), .val (.int vm97), .val (.int v99), .val (.int r103), .val (.int (0 : Int32))] [(.int (1 : Int32)), (.int v46), (.ref b62)])) _
        refine XS.isub X758.here hx rfl (hb hby at_151) rfl ?_
        show Steps p.tables e below (T758.setTop (mkF m 152 #[.val (.int p0), .val (.int p1), .val (.int p2), .val (.int p3), .val (.int p4), .val (.int v46), .val (.int v61), .val (.ref b62), .val (.int vm97), .val (.int v99), .val (.int r103), .val (.int (0 : Int32))] [(.int (v46 - (1 : Int32))), (.ref b62)])) _
        refine st804.trans ?_
        show Steps p.tables e below (T804.setTop (mkF m 155 #[.val (.int p0), .val (.int p1), .val (.int p2), .val (.int p3), .val (.int p4), .val (.int v46), .val (.int v61), .val (.ref b62), .val (.int vm97), .val (.int v99), .val (.int r103), .val (.int (0 : Int32))] [(.int (own_cm (v46 - (1 : Int32)) v46 v61))])) _
        exact kt
      obtain ⟨r806, hr806⟩ : ∃ z : Int32, z = (own_cm (v46 - (1 : Int32)) v46 v61) := ⟨_, rfl⟩
      rw [← hr806] at k805
      have hc155_857 : r806 = (0 : Int32) := (by
          have ar807 := rng32 vm97
          have ar808 : (0 : Int32).toInt = 0 := by decide
          have ar809 : ¬ (vm97.toInt < (0 : Int32).toInt) := fun qq_ => hc81_105 (Int32.lt_iff_toInt_lt.mpr qq_)
          have ar810 : (1440 : Int32).toInt = 1440 := by decide
          have ar811 : ¬ (vm97.toInt < (1440 : Int32).toInt) := fun qq_ => hc89_336 (Int32.lt_iff_toInt_lt.mpr qq_)
          have ar812 := rng32 r103
          have ar813 := rng32 v46
          have ar814 := rng32 p0
          have ar815 : (2147483647 : Int32).toInt = 2147483647 := by decide
          have ar816 := c_mask p0 (2147483647 : Int32) 31 (by decide) (by decide)
          simp only [show (2 ^ 31 : Nat) = 2147483648 from by decide, Int.cast_ofNat_Int] at ar816
          have ar817 := rng32 (p0 &&& (2147483647 : Int32))
          first | have ar818 := (c_irem (p0 &&& (2147483647 : Int32)) (1440 : Int32) 1440 (by decide)).1 (by omega) | have ar818 := c_irem (p0 &&& (2147483647 : Int32)) (1440 : Int32) 1440 (by decide)
          have ar819 := rng32 ((p0 &&& (2147483647 : Int32)) % (1440 : Int32))
          have ar820 := congrArg Int32.toInt hv46
          have ar821 := rng32 v61
          have ar822 := rng32 p1
          have ar823 := c_mask p1 (2147483647 : Int32) 31 (by decide) (by decide)
          simp only [show (2 ^ 31 : Nat) = 2147483648 from by decide, Int.cast_ofNat_Int] at ar823
          have ar824 := rng32 (p1 &&& (2147483647 : Int32))
          have ar825 := rng32 ((1440 : Int32) - v46)
          first | have ar826 : ((1440 : Int32) - v46).toInt = 1440 - v46.toInt := (by have qw := c_isub (1440 : Int32) v46; omega) | (have ar826 := c_isub (1440 : Int32) v46; skip)
          first | have ar827 := (c_iremV (p1 &&& (2147483647 : Int32)) ((1440 : Int32) - v46)).1 (by omega) (by omega) | have ar827 := c_iremV (p1 &&& (2147483647 : Int32)) ((1440 : Int32) - v46)
          have ar828 := rng32 ((p1 &&& (2147483647 : Int32)) % ((1440 : Int32) - v46))
          have ar829 := rng32 (v46 + ((p1 &&& (2147483647 : Int32)) % ((1440 : Int32) - v46)))
          first | have ar830 : (v46 + ((p1 &&& (2147483647 : Int32)) % ((1440 : Int32) - v46))).toInt = v46.toInt + ((p1 &&& (2147483647 : Int32)) % ((1440 : Int32) - v46)).toInt := (by have qw := c_iadd v46 ((p1 &&& (2147483647 : Int32)) % ((1440 : Int32) - v46)); omega) | (have ar830 := c_iadd v46 ((p1 &&& (2147483647 : Int32)) % ((1440 : Int32) - v46)); skip)
          have ar831 := congrArg Int32.toInt hv61
          have ar832 : (1 : Int32).toInt = 1 := by decide
          have ar833 : (v61.toInt < vm97.toInt ∧ (if v61 < vm97 then (0 : Int32) else (1 : Int32)).toInt = (0 : Int32).toInt) ∨ (¬ (v61.toInt < vm97.toInt) ∧ (if v61 < vm97 then (0 : Int32) else (1 : Int32)).toInt = (1 : Int32).toInt) := by
                by_cases q : v61 < vm97
                · exact Or.inl ⟨Int32.lt_iff_toInt_lt.mp q, by rw [if_pos q]⟩
                · exact Or.inr ⟨fun q' => q (Int32.lt_iff_toInt_lt.mpr q'), by rw [if_neg q]⟩
          have ar834 : (vm97.toInt < v46.toInt ∧ (if vm97 < v46 then (0 : Int32) else (if v61 < vm97 then (0 : Int32) else (1 : Int32))).toInt = (0 : Int32).toInt) ∨ (¬ (vm97.toInt < v46.toInt) ∧ (if vm97 < v46 then (0 : Int32) else (if v61 < vm97 then (0 : Int32) else (1 : Int32))).toInt = (if v61 < vm97 then (0 : Int32) else (1 : Int32)).toInt) := by
                by_cases q : vm97 < v46
                · exact Or.inl ⟨Int32.lt_iff_toInt_lt.mp q, by rw [if_pos q]⟩
                · exact Or.inr ⟨fun q' => q (Int32.lt_iff_toInt_lt.mpr q'), by rw [if_neg q]⟩
          have ar835 : (own_cm vm97 v46 v61).toInt = (if vm97 < v46 then (0 : Int32) else (if v61 < vm97 then (0 : Int32) else (1 : Int32))).toInt := congrArg _ (own_eq_own_cm vm97 v46 v61)
          have ar836 := congrArg Int32.toInt hr103
          have ar837 : r103.toInt = (0 : Int32).toInt := congrArg Int32.toInt hc117_717
          have ar838 := rng32 r720
          have ar839 : (v61.toInt < v46.toInt ∧ (if v61 < v46 then (0 : Int32) else (1 : Int32)).toInt = (0 : Int32).toInt) ∨ (¬ (v61.toInt < v46.toInt) ∧ (if v61 < v46 then (0 : Int32) else (1 : Int32)).toInt = (1 : Int32).toInt) := by
                by_cases q : v61 < v46
                · exact Or.inl ⟨Int32.lt_iff_toInt_lt.mp q, by rw [if_pos q]⟩
                · exact Or.inr ⟨fun q' => q (Int32.lt_iff_toInt_lt.mpr q'), by rw [if_neg q]⟩
          have ar840 : (v46.toInt < v46.toInt ∧ (if v46 < v46 then (0 : Int32) else (if v61 < v46 then (0 : Int32) else (1 : Int32))).toInt = (0 : Int32).toInt) ∨ (¬ (v46.toInt < v46.toInt) ∧ (if v46 < v46 then (0 : Int32) else (if v61 < v46 then (0 : Int32) else (1 : Int32))).toInt = (if v61 < v46 then (0 : Int32) else (1 : Int32)).toInt) := by
                by_cases q : v46 < v46
                · exact Or.inl ⟨Int32.lt_iff_toInt_lt.mp q, by rw [if_pos q]⟩
                · exact Or.inr ⟨fun q' => q (Int32.lt_iff_toInt_lt.mpr q'), by rw [if_neg q]⟩
          have ar841 : (own_cm v46 v46 v61).toInt = (if v46 < v46 then (0 : Int32) else (if v61 < v46 then (0 : Int32) else (1 : Int32))).toInt := congrArg _ (own_eq_own_cm v46 v46 v61)
          have ar842 := congrArg Int32.toInt hr720
          have ar843 : ¬ (r720.toInt = (0 : Int32).toInt) := fun qq_ => hc129_757 (Int32.toInt_inj.mp qq_)
          have ar844 := rng32 r760
          have ar845 : (v61.toInt < v61.toInt ∧ (if v61 < v61 then (0 : Int32) else (1 : Int32)).toInt = (0 : Int32).toInt) ∨ (¬ (v61.toInt < v61.toInt) ∧ (if v61 < v61 then (0 : Int32) else (1 : Int32)).toInt = (1 : Int32).toInt) := by
                by_cases q : v61 < v61
                · exact Or.inl ⟨Int32.lt_iff_toInt_lt.mp q, by rw [if_pos q]⟩
                · exact Or.inr ⟨fun q' => q (Int32.lt_iff_toInt_lt.mpr q'), by rw [if_neg q]⟩
          have ar846 : (v61.toInt < v46.toInt ∧ (if v61 < v46 then (0 : Int32) else (if v61 < v61 then (0 : Int32) else (1 : Int32))).toInt = (0 : Int32).toInt) ∨ (¬ (v61.toInt < v46.toInt) ∧ (if v61 < v46 then (0 : Int32) else (if v61 < v61 then (0 : Int32) else (1 : Int32))).toInt = (if v61 < v61 then (0 : Int32) else (1 : Int32)).toInt) := by
                by_cases q : v61 < v46
                · exact Or.inl ⟨Int32.lt_iff_toInt_lt.mp q, by rw [if_pos q]⟩
                · exact Or.inr ⟨fun q' => q (Int32.lt_iff_toInt_lt.mpr q'), by rw [if_neg q]⟩
          have ar847 : (own_cm v61 v46 v61).toInt = (if v61 < v46 then (0 : Int32) else (if v61 < v61 then (0 : Int32) else (1 : Int32))).toInt := congrArg _ (own_eq_own_cm v61 v46 v61)
          have ar848 := congrArg Int32.toInt hr760
          have ar849 : ¬ (r760.toInt = (0 : Int32).toInt) := fun qq_ => hc141_803 (Int32.toInt_inj.mp qq_)
          have ar850 := rng32 r806
          have ar851 := rng32 (v46 - (1 : Int32))
          first | have ar852 : (v46 - (1 : Int32)).toInt = v46.toInt - 1 := (by have qw := c_isub v46 (1 : Int32); omega) | (have ar852 := c_isub v46 (1 : Int32); skip)
          have ar853 : (v61.toInt < (v46 - (1 : Int32)).toInt ∧ (if v61 < (v46 - (1 : Int32)) then (0 : Int32) else (1 : Int32)).toInt = (0 : Int32).toInt) ∨ (¬ (v61.toInt < (v46 - (1 : Int32)).toInt) ∧ (if v61 < (v46 - (1 : Int32)) then (0 : Int32) else (1 : Int32)).toInt = (1 : Int32).toInt) := by
                by_cases q : v61 < (v46 - (1 : Int32))
                · exact Or.inl ⟨Int32.lt_iff_toInt_lt.mp q, by rw [if_pos q]⟩
                · exact Or.inr ⟨fun q' => q (Int32.lt_iff_toInt_lt.mpr q'), by rw [if_neg q]⟩
          have ar854 : ((v46 - (1 : Int32)).toInt < v46.toInt ∧ (if (v46 - (1 : Int32)) < v46 then (0 : Int32) else (if v61 < (v46 - (1 : Int32)) then (0 : Int32) else (1 : Int32))).toInt = (0 : Int32).toInt) ∨ (¬ ((v46 - (1 : Int32)).toInt < v46.toInt) ∧ (if (v46 - (1 : Int32)) < v46 then (0 : Int32) else (if v61 < (v46 - (1 : Int32)) then (0 : Int32) else (1 : Int32))).toInt = (if v61 < (v46 - (1 : Int32)) then (0 : Int32) else (1 : Int32)).toInt) := by
                by_cases q : (v46 - (1 : Int32)) < v46
                · exact Or.inl ⟨Int32.lt_iff_toInt_lt.mp q, by rw [if_pos q]⟩
                · exact Or.inr ⟨fun q' => q (Int32.lt_iff_toInt_lt.mpr q'), by rw [if_neg q]⟩
          have ar855 : (own_cm (v46 - (1 : Int32)) v46 v61).toInt = (if (v46 - (1 : Int32)) < v46 then (0 : Int32) else (if v61 < (v46 - (1 : Int32)) then (0 : Int32) else (1 : Int32))).toInt := congrArg _ (own_eq_own_cm (v46 - (1 : Int32)) v46 v61)
          have ar856 := congrArg Int32.toInt hr806
          exact Int32.toInt_inj.mp (by omega))
      obtain ⟨cq858, kq858, q858a, q858b, q858c⟩ := isOf hZ eq804 f101
      obtain ⟨_, _, ⟨T858, L858, kc858, nc858⟩, -, X858, ⟨Lc858, hQ858, l858, y858, z858⟩, st858⟩ := X804.virtualBack hx (y := (⟨"com/example/tidegate/tidegate/model/OperatingDay", "containsMinute", "(I)Z"⟩ : MethodName)) (z := (⟨"com/example/tidegate/tidegate/model/OperatingDay", "containsMinute", "(I)Z"⟩ : MethodName)) hown (mvT hZ (hw _ (List.mem_of_getElem? (i := 22) rfl))) (mvT hZ (hw _ (List.mem_of_getElem? (i := 23) rfl))) (notFace_of_selects (args := #[]) (mvT hZ (hw _ (List.mem_of_getElem? (i := 25) rfl)))) (mvT hZ (hw _ (List.mem_of_getElem? (i := 25) rfl))) (mvT hZ (hw _ (List.mem_of_getElem? (i := 24) rfl))) (by decide) (backOf (W := 0) (rm5 l Z a0 hw [] b62 (v61 + (1 : Int32)) v46 v61 T93.heap n0 oFaopen93 oFaclose93) hZ (hw _ (List.mem_of_getElem? (i := 26) rfl)) (hw _ (List.mem_of_getElem? (i := 3) rfl)) (by decide) (by decide)) q858a q858c (g := (mkF m 166 #[.val (.int p0), .val (.int p1), .val (.int p2), .val (.int p3), .val (.int p4), .val (.int v46), .val (.int v61), .val (.ref b62), .val (.int vm97), .val (.int v99), .val (.int r103), .val (.int (0 : Int32))] [(.int (v61 + (1 : Int32))), (.ref b62)])) rfl (by rw [hml]; rfl) (Steps.refl _) (argsL := [(.int (v61 + (1 : Int32)))]) (rest := []) (lenOf pd_3 rfl) rfl (by show 2 * 0 + _ ≤ _; exact Nat.le_of_eq rfl) (hb hby at_166) (fun _ _ => ⟨rfl, eq804, (by decide : 1 + 0 ≤ _), (by decide : 2 + 0 ≤ _)⟩)
      dsimp only [Pt.U, Pt.locs, Pt.cells, Pt.slots] at X858 l858 y858 z858 st858 hQ858
      subst l858 y858 z858
      obtain ⟨rfl, Nq858, eq858⟩ := hQ858
      have N858 := Fr.app N804 Nq858
      have k859 : ∀ t, Steps p.tables e below (T858.setTop (mkF m 169 #[.val (.int p0), .val (.int p1), .val (.int p2), .val (.int p3), .val (.int p4), .val (.int v46), .val (.int v61), .val (.ref b62), .val (.int vm97), .val (.int v99), .val (.int r103), .val (.int (0 : Int32))] [(.int (own_cm (v61 + (1 : Int32)) v46 v61))])) t → Steps p.tables e below (s₁.setTop (entryFrame m #[(.int p0), (.int p1), (.int p2), (.int p3), (.int p4)] maxLocals)) t := by
        intro t kt
        refine k805 t ?_
        show Steps p.tables e below (T804.setTop (mkF m 155 #[.val (.int p0), .val (.int p1), .val (.int p2), .val (.int p3), .val (.int p4), .val (.int v46), .val (.int v61), .val (.ref b62), .val (.int vm97), .val (.int v99), .val (.int r103), .val (.int (0 : Int32))] [(.int r806)])) _
        refine XS.ifYes X804.here hx rfl (pc0 := 155) (pc' := 160) rfl (hb hby at_155) rfl ((if0 _ _).trans (teq hc155_857).1) (by decide) (by decide) ?_
        show Steps p.tables e below (T804.setTop (mkF m 160 #[.val (.int p0), .val (.int p1), .val (.int p2), .val (.int p3), .val (.int p4), .val (.int v46), .val (.int v61), .val (.ref b62), .val (.int vm97), .val (.int v99), .val (.int r103), .val (.int (0 : Int32))] [])) _
        refine XS.aload X804.here hx rfl (hb hby at_160) rfl rfl ?_
        show Steps p.tables e below (T804.setTop (mkF m 162 #[.val (.int p0), .val (.int p1), .val (.int p2), .val (.int p3), .val (.int p4), .val (.int v46), .val (.int v61), .val (.ref b62), .val (.int vm97), .val (.int v99), .val (.int r103), .val (.int (0 : Int32))] [(.ref b62)])) _
        refine XS.iload X804.here hx rfl (hb hby at_162) rfl ?_
        show Steps p.tables e below (T804.setTop (mkF m 164 #[.val (.int p0), .val (.int p1), .val (.int p2), .val (.int p3), .val (.int p4), .val (.int v46), .val (.int v61), .val (.ref b62), .val (.int vm97), .val (.int v99), .val (.int r103), .val (.int (0 : Int32))] [(.int v61), (.ref b62)])) _
        refine XS.iconst X804.here hx rfl (hb hby at_164) ?_
        show Steps p.tables e below (T804.setTop (mkF m 165 #[.val (.int p0), .val (.int p1), .val (.int p2), .val (.int p3), .val (.int p4), .val (.int v46), .val (.int v61), .val (.ref b62), .val (.int vm97), .val (.int v99), .val (.int r103), .val (.int (0 : Int32))] [(.int (1 : Int32)), (.int v61), (.ref b62)])) _
        refine XS.iadd X804.here hx rfl (hb hby at_165) rfl ?_
        show Steps p.tables e below (T804.setTop (mkF m 166 #[.val (.int p0), .val (.int p1), .val (.int p2), .val (.int p3), .val (.int p4), .val (.int v46), .val (.int v61), .val (.ref b62), .val (.int vm97), .val (.int v99), .val (.int r103), .val (.int (0 : Int32))] [(.int (v61 + (1 : Int32))), (.ref b62)])) _
        refine st858.trans ?_
        show Steps p.tables e below (T858.setTop (mkF m 169 #[.val (.int p0), .val (.int p1), .val (.int p2), .val (.int p3), .val (.int p4), .val (.int v46), .val (.int v61), .val (.ref b62), .val (.int vm97), .val (.int v99), .val (.int r103), .val (.int (0 : Int32))] [(.int (own_cm (v61 + (1 : Int32)) v46 v61))])) _
        exact kt
      obtain ⟨r860, hr860⟩ : ∃ z : Int32, z = (own_cm (v61 + (1 : Int32)) v46 v61) := ⟨_, rfl⟩
      rw [← hr860] at k859
      have hc169_919 : r860 = (0 : Int32) := (by
          have ar861 := rng32 vm97
          have ar862 : (0 : Int32).toInt = 0 := by decide
          have ar863 : ¬ (vm97.toInt < (0 : Int32).toInt) := fun qq_ => hc81_105 (Int32.lt_iff_toInt_lt.mpr qq_)
          have ar864 : (1440 : Int32).toInt = 1440 := by decide
          have ar865 : ¬ (vm97.toInt < (1440 : Int32).toInt) := fun qq_ => hc89_336 (Int32.lt_iff_toInt_lt.mpr qq_)
          have ar866 := rng32 r103
          have ar867 := rng32 v46
          have ar868 := rng32 p0
          have ar869 : (2147483647 : Int32).toInt = 2147483647 := by decide
          have ar870 := c_mask p0 (2147483647 : Int32) 31 (by decide) (by decide)
          simp only [show (2 ^ 31 : Nat) = 2147483648 from by decide, Int.cast_ofNat_Int] at ar870
          have ar871 := rng32 (p0 &&& (2147483647 : Int32))
          first | have ar872 := (c_irem (p0 &&& (2147483647 : Int32)) (1440 : Int32) 1440 (by decide)).1 (by omega) | have ar872 := c_irem (p0 &&& (2147483647 : Int32)) (1440 : Int32) 1440 (by decide)
          have ar873 := rng32 ((p0 &&& (2147483647 : Int32)) % (1440 : Int32))
          have ar874 := congrArg Int32.toInt hv46
          have ar875 := rng32 v61
          have ar876 := rng32 p1
          have ar877 := c_mask p1 (2147483647 : Int32) 31 (by decide) (by decide)
          simp only [show (2 ^ 31 : Nat) = 2147483648 from by decide, Int.cast_ofNat_Int] at ar877
          have ar878 := rng32 (p1 &&& (2147483647 : Int32))
          have ar879 := rng32 ((1440 : Int32) - v46)
          first | have ar880 : ((1440 : Int32) - v46).toInt = 1440 - v46.toInt := (by have qw := c_isub (1440 : Int32) v46; omega) | (have ar880 := c_isub (1440 : Int32) v46; skip)
          first | have ar881 := (c_iremV (p1 &&& (2147483647 : Int32)) ((1440 : Int32) - v46)).1 (by omega) (by omega) | have ar881 := c_iremV (p1 &&& (2147483647 : Int32)) ((1440 : Int32) - v46)
          have ar882 := rng32 ((p1 &&& (2147483647 : Int32)) % ((1440 : Int32) - v46))
          have ar883 := rng32 (v46 + ((p1 &&& (2147483647 : Int32)) % ((1440 : Int32) - v46)))
          first | have ar884 : (v46 + ((p1 &&& (2147483647 : Int32)) % ((1440 : Int32) - v46))).toInt = v46.toInt + ((p1 &&& (2147483647 : Int32)) % ((1440 : Int32) - v46)).toInt := (by have qw := c_iadd v46 ((p1 &&& (2147483647 : Int32)) % ((1440 : Int32) - v46)); omega) | (have ar884 := c_iadd v46 ((p1 &&& (2147483647 : Int32)) % ((1440 : Int32) - v46)); skip)
          have ar885 := congrArg Int32.toInt hv61
          have ar886 : (1 : Int32).toInt = 1 := by decide
          have ar887 : (v61.toInt < vm97.toInt ∧ (if v61 < vm97 then (0 : Int32) else (1 : Int32)).toInt = (0 : Int32).toInt) ∨ (¬ (v61.toInt < vm97.toInt) ∧ (if v61 < vm97 then (0 : Int32) else (1 : Int32)).toInt = (1 : Int32).toInt) := by
                by_cases q : v61 < vm97
                · exact Or.inl ⟨Int32.lt_iff_toInt_lt.mp q, by rw [if_pos q]⟩
                · exact Or.inr ⟨fun q' => q (Int32.lt_iff_toInt_lt.mpr q'), by rw [if_neg q]⟩
          have ar888 : (vm97.toInt < v46.toInt ∧ (if vm97 < v46 then (0 : Int32) else (if v61 < vm97 then (0 : Int32) else (1 : Int32))).toInt = (0 : Int32).toInt) ∨ (¬ (vm97.toInt < v46.toInt) ∧ (if vm97 < v46 then (0 : Int32) else (if v61 < vm97 then (0 : Int32) else (1 : Int32))).toInt = (if v61 < vm97 then (0 : Int32) else (1 : Int32)).toInt) := by
                by_cases q : vm97 < v46
                · exact Or.inl ⟨Int32.lt_iff_toInt_lt.mp q, by rw [if_pos q]⟩
                · exact Or.inr ⟨fun q' => q (Int32.lt_iff_toInt_lt.mpr q'), by rw [if_neg q]⟩
          have ar889 : (own_cm vm97 v46 v61).toInt = (if vm97 < v46 then (0 : Int32) else (if v61 < vm97 then (0 : Int32) else (1 : Int32))).toInt := congrArg _ (own_eq_own_cm vm97 v46 v61)
          have ar890 := congrArg Int32.toInt hr103
          have ar891 : r103.toInt = (0 : Int32).toInt := congrArg Int32.toInt hc117_717
          have ar892 := rng32 r720
          have ar893 : (v61.toInt < v46.toInt ∧ (if v61 < v46 then (0 : Int32) else (1 : Int32)).toInt = (0 : Int32).toInt) ∨ (¬ (v61.toInt < v46.toInt) ∧ (if v61 < v46 then (0 : Int32) else (1 : Int32)).toInt = (1 : Int32).toInt) := by
                by_cases q : v61 < v46
                · exact Or.inl ⟨Int32.lt_iff_toInt_lt.mp q, by rw [if_pos q]⟩
                · exact Or.inr ⟨fun q' => q (Int32.lt_iff_toInt_lt.mpr q'), by rw [if_neg q]⟩
          have ar894 : (v46.toInt < v46.toInt ∧ (if v46 < v46 then (0 : Int32) else (if v61 < v46 then (0 : Int32) else (1 : Int32))).toInt = (0 : Int32).toInt) ∨ (¬ (v46.toInt < v46.toInt) ∧ (if v46 < v46 then (0 : Int32) else (if v61 < v46 then (0 : Int32) else (1 : Int32))).toInt = (if v61 < v46 then (0 : Int32) else (1 : Int32)).toInt) := by
                by_cases q : v46 < v46
                · exact Or.inl ⟨Int32.lt_iff_toInt_lt.mp q, by rw [if_pos q]⟩
                · exact Or.inr ⟨fun q' => q (Int32.lt_iff_toInt_lt.mpr q'), by rw [if_neg q]⟩
          have ar895 : (own_cm v46 v46 v61).toInt = (if v46 < v46 then (0 : Int32) else (if v61 < v46 then (0 : Int32) else (1 : Int32))).toInt := congrArg _ (own_eq_own_cm v46 v46 v61)
          have ar896 := congrArg Int32.toInt hr720
          have ar897 : ¬ (r720.toInt = (0 : Int32).toInt) := fun qq_ => hc129_757 (Int32.toInt_inj.mp qq_)
          have ar898 := rng32 r760
          have ar899 : (v61.toInt < v61.toInt ∧ (if v61 < v61 then (0 : Int32) else (1 : Int32)).toInt = (0 : Int32).toInt) ∨ (¬ (v61.toInt < v61.toInt) ∧ (if v61 < v61 then (0 : Int32) else (1 : Int32)).toInt = (1 : Int32).toInt) := by
                by_cases q : v61 < v61
                · exact Or.inl ⟨Int32.lt_iff_toInt_lt.mp q, by rw [if_pos q]⟩
                · exact Or.inr ⟨fun q' => q (Int32.lt_iff_toInt_lt.mpr q'), by rw [if_neg q]⟩
          have ar900 : (v61.toInt < v46.toInt ∧ (if v61 < v46 then (0 : Int32) else (if v61 < v61 then (0 : Int32) else (1 : Int32))).toInt = (0 : Int32).toInt) ∨ (¬ (v61.toInt < v46.toInt) ∧ (if v61 < v46 then (0 : Int32) else (if v61 < v61 then (0 : Int32) else (1 : Int32))).toInt = (if v61 < v61 then (0 : Int32) else (1 : Int32)).toInt) := by
                by_cases q : v61 < v46
                · exact Or.inl ⟨Int32.lt_iff_toInt_lt.mp q, by rw [if_pos q]⟩
                · exact Or.inr ⟨fun q' => q (Int32.lt_iff_toInt_lt.mpr q'), by rw [if_neg q]⟩
          have ar901 : (own_cm v61 v46 v61).toInt = (if v61 < v46 then (0 : Int32) else (if v61 < v61 then (0 : Int32) else (1 : Int32))).toInt := congrArg _ (own_eq_own_cm v61 v46 v61)
          have ar902 := congrArg Int32.toInt hr760
          have ar903 : ¬ (r760.toInt = (0 : Int32).toInt) := fun qq_ => hc141_803 (Int32.toInt_inj.mp qq_)
          have ar904 := rng32 r806
          have ar905 := rng32 (v46 - (1 : Int32))
          first | have ar906 : (v46 - (1 : Int32)).toInt = v46.toInt - 1 := (by have qw := c_isub v46 (1 : Int32); omega) | (have ar906 := c_isub v46 (1 : Int32); skip)
          have ar907 : (v61.toInt < (v46 - (1 : Int32)).toInt ∧ (if v61 < (v46 - (1 : Int32)) then (0 : Int32) else (1 : Int32)).toInt = (0 : Int32).toInt) ∨ (¬ (v61.toInt < (v46 - (1 : Int32)).toInt) ∧ (if v61 < (v46 - (1 : Int32)) then (0 : Int32) else (1 : Int32)).toInt = (1 : Int32).toInt) := by
                by_cases q : v61 < (v46 - (1 : Int32))
                · exact Or.inl ⟨Int32.lt_iff_toInt_lt.mp q, by rw [if_pos q]⟩
                · exact Or.inr ⟨fun q' => q (Int32.lt_iff_toInt_lt.mpr q'), by rw [if_neg q]⟩
          have ar908 : ((v46 - (1 : Int32)).toInt < v46.toInt ∧ (if (v46 - (1 : Int32)) < v46 then (0 : Int32) else (if v61 < (v46 - (1 : Int32)) then (0 : Int32) else (1 : Int32))).toInt = (0 : Int32).toInt) ∨ (¬ ((v46 - (1 : Int32)).toInt < v46.toInt) ∧ (if (v46 - (1 : Int32)) < v46 then (0 : Int32) else (if v61 < (v46 - (1 : Int32)) then (0 : Int32) else (1 : Int32))).toInt = (if v61 < (v46 - (1 : Int32)) then (0 : Int32) else (1 : Int32)).toInt) := by
                by_cases q : (v46 - (1 : Int32)) < v46
                · exact Or.inl ⟨Int32.lt_iff_toInt_lt.mp q, by rw [if_pos q]⟩
                · exact Or.inr ⟨fun q' => q (Int32.lt_iff_toInt_lt.mpr q'), by rw [if_neg q]⟩
          have ar909 : (own_cm (v46 - (1 : Int32)) v46 v61).toInt = (if (v46 - (1 : Int32)) < v46 then (0 : Int32) else (if v61 < (v46 - (1 : Int32)) then (0 : Int32) else (1 : Int32))).toInt := congrArg _ (own_eq_own_cm (v46 - (1 : Int32)) v46 v61)
          have ar910 := congrArg Int32.toInt hr806
          have ar911 : r806.toInt = (0 : Int32).toInt := congrArg Int32.toInt hc155_857
          have ar912 := rng32 r860
          have ar913 := rng32 (v61 + (1 : Int32))
          first | have ar914 : (v61 + (1 : Int32)).toInt = v61.toInt + 1 := (by have qw := c_iadd v61 (1 : Int32); omega) | (have ar914 := c_iadd v61 (1 : Int32); skip)
          have ar915 : (v61.toInt < (v61 + (1 : Int32)).toInt ∧ (if v61 < (v61 + (1 : Int32)) then (0 : Int32) else (1 : Int32)).toInt = (0 : Int32).toInt) ∨ (¬ (v61.toInt < (v61 + (1 : Int32)).toInt) ∧ (if v61 < (v61 + (1 : Int32)) then (0 : Int32) else (1 : Int32)).toInt = (1 : Int32).toInt) := by
                by_cases q : v61 < (v61 + (1 : Int32))
                · exact Or.inl ⟨Int32.lt_iff_toInt_lt.mp q, by rw [if_pos q]⟩
                · exact Or.inr ⟨fun q' => q (Int32.lt_iff_toInt_lt.mpr q'), by rw [if_neg q]⟩
          have ar916 : ((v61 + (1 : Int32)).toInt < v46.toInt ∧ (if (v61 + (1 : Int32)) < v46 then (0 : Int32) else (if v61 < (v61 + (1 : Int32)) then (0 : Int32) else (1 : Int32))).toInt = (0 : Int32).toInt) ∨ (¬ ((v61 + (1 : Int32)).toInt < v46.toInt) ∧ (if (v61 + (1 : Int32)) < v46 then (0 : Int32) else (if v61 < (v61 + (1 : Int32)) then (0 : Int32) else (1 : Int32))).toInt = (if v61 < (v61 + (1 : Int32)) then (0 : Int32) else (1 : Int32)).toInt) := by
                by_cases q : (v61 + (1 : Int32)) < v46
                · exact Or.inl ⟨Int32.lt_iff_toInt_lt.mp q, by rw [if_pos q]⟩
                · exact Or.inr ⟨fun q' => q (Int32.lt_iff_toInt_lt.mpr q'), by rw [if_neg q]⟩
          have ar917 : (own_cm (v61 + (1 : Int32)) v46 v61).toInt = (if (v61 + (1 : Int32)) < v46 then (0 : Int32) else (if v61 < (v61 + (1 : Int32)) then (0 : Int32) else (1 : Int32))).toInt := congrArg _ (own_eq_own_cm (v61 + (1 : Int32)) v46 v61)
          have ar918 := congrArg Int32.toInt hr860
          exact Int32.toInt_inj.mp (by omega))
      have k920 : ∀ t, Steps p.tables e below (T858.setTop (mkF m 175 #[.val (.int p0), .val (.int p1), .val (.int p2), .val (.int p3), .val (.int p4), .val (.int v46), .val (.int v61), .val (.ref b62), .val (.int vm97), .val (.int v99), .val (.int r103), .val (.int (0 : Int32))] [(.int (1 : Int32))])) t → Steps p.tables e below (s₁.setTop (entryFrame m #[(.int p0), (.int p1), (.int p2), (.int p3), (.int p4)] maxLocals)) t := by
        intro t kt
        refine k859 t ?_
        show Steps p.tables e below (T858.setTop (mkF m 169 #[.val (.int p0), .val (.int p1), .val (.int p2), .val (.int p3), .val (.int p4), .val (.int v46), .val (.int v61), .val (.ref b62), .val (.int vm97), .val (.int v99), .val (.int r103), .val (.int (0 : Int32))] [(.int r860)])) _
        refine XS.ifYes X858.here hx rfl (pc0 := 169) (pc' := 174) rfl (hb hby at_169) rfl ((if0 _ _).trans (teq hc169_919).1) (by decide) (by decide) ?_
        show Steps p.tables e below (T858.setTop (mkF m 174 #[.val (.int p0), .val (.int p1), .val (.int p2), .val (.int p3), .val (.int p4), .val (.int v46), .val (.int v61), .val (.ref b62), .val (.int vm97), .val (.int v99), .val (.int r103), .val (.int (0 : Int32))] [])) _
        refine XS.iconst X858.here hx rfl (hb hby at_174) ?_
        show Steps p.tables e below (T858.setTop (mkF m 175 #[.val (.int p0), .val (.int p1), .val (.int p2), .val (.int p3), .val (.int p4), .val (.int v46), .val (.int v61), .val (.ref b62), .val (.int vm97), .val (.int v99), .val (.int r103), .val (.int (0 : Int32))] [(.int (1 : Int32))])) _
        exact kt
      obtain ⟨fs, hr, hrun, hended, hW, hsame⟩ := X858.leave (v := some (.int (1 : Int32))) (fun h => by rw [Bd.returns] at h; cases h)
      refine ⟨_, _, k920 _ (retN X858 hx (t := .boolean) Bd.returns (by simp) (hb hby at_175) hr), hrun, hended, _, _, rfl, ?_, ⟨_, rfl⟩, hW, hsame.mono (by decide) (by decide)⟩
      show Q0 Z p0 p1 p2 p3 p4 h0 n0 _ T858.heap _
      rw [eq858]
      exact ⟨rfl, N858⟩
set_option maxRecDepth 65536 in
set_option maxHeartbeats 40000000 in
theorem comes_1 {Post : Tables → Env → Array Value → State → Outcome → State → Prop} (hpost : ∀ tb e args s v u, (limb_1_1.after args s (.returned v) u = true ∧ limb_1_2.after args s (.returned v) u = true ∧ True) → FrameEnd s (.returned v) u (Jvm.fieldLocs frame_1_writes args s ++ Jvm.arrayLocs frame_1_arrays args s ++ Jvm.staticLocs frame_1_statics s) 16 128 → Post tb e args s (.returned v) u) :
    ArmFor flags0 classFile x code maxLocals ret World_1 tables_1 room_1 Calls_1 rest_1 Pre_1 Post := by
  intro l hfl _ _ p e ha hc hk s m args below hf hA hF happ hP
  obtain ⟨hcalls, hrest, hpre⟩ := hP
  obtain ⟨-, -, -, hnamed, -, -, -, hat⟩ := (Spec.applies_iff hf).mp happ
  obtain ⟨hg, hn⟩ := and_e (Cond.before_iff.mp (show (Jvm.Cond.and given_1 narrow_1).before args s = true from hpre))
  have hcount := (and_e hg).1
  have hgs0 := (and_e hg).2
  have hi0 := (and_e hgs0).1
  have hgs1 := (and_e hgs0).2
  have hi1 := (and_e hgs1).1
  have hgs2 := (and_e hgs1).2
  have hi2 := (and_e hgs2).1
  have hgs3 := (and_e hgs2).2
  have hi3 := (and_e hgs3).1
  have hgs4 := (and_e hgs3).2
  have hi4 := hgs4
  obtain ⟨w0, w1, w2, w3, w4, rfl⟩ : ∃ w0 w1 w2 w3 w4 : Value, args = #[w0, w1, w2, w3, w4] := by
    have hs : args.size = 5 := by simpa [Cond.value, given_1] using hcount
    obtain ⟨L⟩ := args
    match L, hs with
    | [w0, w1, w2, w3, w4], _ => exact ⟨w0, w1, w2, w3, w4, rfl⟩
  have hw := fun d (hd : d ∈ tables_1) => atoms_spec (ws := Jvm.Cond.code x code maxLocals ret :: tables_1) hat d (List.mem_cons_of_mem _ hd)
  have hfit : Fit s := fun {y c} hc i hi => by
    obtain ⟨ha, rfl⟩ := Array.getElem?_eq_some_iff.mp hc
    have q := List.all_eq_true.mp ((Array.all_eq_true_iff_forall_mem.mp hF) _ (Array.getElem_mem ha)) i (List.mem_range.mpr hi)
    simpa [Array.getElem?_eq_getElem hi] using q
  obtain ⟨i0, ei0⟩ := is_v hi0
  obtain rfl : w0 = (.int i0) := Option.some.inj ei0
  obtain ⟨i1, ei1⟩ := is_v hi1
  obtain rfl : w1 = (.int i1) := Option.some.inj ei1
  obtain ⟨i2, ei2⟩ := is_v hi2
  obtain rfl : w2 = (.int i2) := Option.some.inj ei2
  obtain ⟨i3, ei3⟩ := is_v hi3
  obtain rfl : w3 = (.int i3) := Option.some.inj ei3
  obtain ⟨i4, ei4⟩ := is_v hi4
  obtain rfl : w4 = (.int i4) := Option.some.inj ei4
  obtain ⟨n, o, h1, h2, h3, _, L, rfl, ⟨rfl, N⟩, hq⟩ := rm0 l s _ hw tables_1 i0 i1 i2 i3 i4 s.heap s.heap.size (Nat.le_refl _)  p e ha hc hk s m _ below hf ((Spec.applies_iff_loose hf).mp happ).1 ⟨rfl, State.Warmed39.refl s, rfl⟩ trivial
  refine ⟨n, _, h1, h2, h3, hpost _ _ _ _ _ _ ⟨Cond.after_iff.mpr rfl, Cond.after_iff.mpr (eq_i res_at (Term.int_eval (1)) rfl), trivial⟩ ⟨hq.1, hq.2.1, (hq.2.2.sift fun y hy => Or.inr (N y hy)).mono (by decide) (by decide)⟩⟩
theorem main_1_1 : Claimed_1_1 := comes_1 fun _ _ _ _ _ _ h hF => ⟨h.1, hF⟩
theorem main_1_2 : Claimed_1_2 := comes_1 fun _ _ _ _ _ _ h hF => ⟨h.2.1, hF⟩
end Jvm.Pilot.@@N@@
namespace Jvm.Pilot.@@N@@
open Jvm Jvm.ClassFile Sem Op Lib Jvm.Free Jvm.Stand Jvm.Pilot.@@N@@.Jvm.D
/-! MADE BY PROGRAM (witnessworld.py) out of the Statement's table words and the real class files: 10 classes; the members and pool entries that the words name. The judged class is class 1, her method 1. -/
namespace start1
open Jvm.ClassFile
def u (s : String) : CpInfo := .utf8 (stringToUtf16 s)
/-- a pool by its gaps: so many unusable entries, then the entry; so many at the end -/
def gap : Nat → List CpInfo → List CpInfo
  | 0, r => r
  | n + 1, r => .unusable :: gap n r
def poolList (es : List (Nat × CpInfo)) (last : Nat) : List CpInfo := es.foldr (fun e r => gap e.1 (e.2 :: r)) (gap last [])
def pool (es : List (Nat × CpInfo)) (last : Nat) : Array CpInfo := ⟨poolList es last⟩
def fileOf (pool : Array CpInfo) (this : Nat) (attrs : Array Attribute := #[]) (ms : Array MethodInfo := #[]) (fl : Nat := 33) (sup : Nat := 0) (ifs : Array Nat := #[]) (fds : Array FieldInfo := #[]) : ClassFile where
  minorVersion := 0
  majorVersion := 65
  constantPool := pool
  accessFlags := fl
  thisClass := this
  superClass := sup
  interfaces := ifs
  fields := fds
  methods := ms
  attributes := attrs
def plain (name : String) (sup : Option ClassId) : Class where
  name := name
  kind := .ordinary
  loader := none
  accessFlags := 33
  super := sup
  interfaces := #[]
  cf := none
  fields := #[]
  methods := #[]
  instanceTypes := #[]
  staticTypes := #[]
  resolved := #[]
  callSites := []
  init := .initialized
  statics := none
  mirror := none

def pool0 : Array CpInfo := pool [(5, u "<init>"), (0, u "()V"), (1, .class_ 10), (1, u "java/lang/Object")] 113

def k0c0 : Code := { maxStack := 0, maxLocals := 1, code := object_method_1_code, exceptionTable := #[], attributes := #[] }
def k0m0 : Method := { name := "<init>", desc := "()V", sig := { parameters := [], returnType := none }, accessFlags := 1, code := some k0c0 }
/-- java/lang/Object -/
def k0 : Class := { plain "java/lang/Object" none with
  accessFlags := 33
  interfaces := #[]
  cf := some (fileOf pool0 8 #[] #[{ accessFlags := 1, nameIndex := 5, descriptorIndex := 6, attributes := #[] }] 33 0 #[] #[])
  fields := #[]
  methods := #[k0m0]
  instanceTypes := #[]
  staticTypes := #[]
  resolved := Array.replicate 124 none
  statics := none }

def pool1 : Array CpInfo := pool [(2, .class_ 4), (1, u "java/lang/Object"), (0, u "<init>"), (0, u "()V"), (0, .integer 2147483647), (0, .class_ 9), (0, u "com/example/tidegate/tidegate/model/OperatingDay"), (0, .methodref 8 11), (0, .nameAndType 5 12), (0, u "(II)V"), (0, .methodref 8 14), (0, .nameAndType 15 16), (0, u "containsMinute"), (0, u "(I)Z"), (0, .methodref 8 18), (0, .nameAndType 19 16), (0, u "contains"), (0, .class_ 21), (0, u "com/example/tidegate/tidegate/model/OperatingDayContainsMinutePinLaw"), (2, u "law"), (0, u "(IIIII)Z")] 3

def k1m0 : Method := { name := "<init>", desc := "()V", sig := { parameters := [], returnType := none }, accessFlags := 2, code := none }
def k1c1 : Code := { maxStack := 4, maxLocals := 12, code := code, exceptionTable := #[], attributes := #[] }
def k1m1 : Method := { name := "law", desc := "(IIIII)Z", sig := { parameters := [.int, .int, .int, .int, .int], returnType := some .boolean }, accessFlags := 9, code := some k1c1 }
/-- com/example/tidegate/tidegate/model/OperatingDayContainsMinutePinLaw -/
def k1 : Class := { plain "com/example/tidegate/tidegate/model/OperatingDayContainsMinutePinLaw" (some 0) with
  accessFlags := 49
  interfaces := #[]
  cf := some (fileOf pool1 20 #[] #[{ accessFlags := 2, nameIndex := 5, descriptorIndex := 6, attributes := #[] }, { accessFlags := 9, nameIndex := 24, descriptorIndex := 25, attributes := #[] }] 49 2 #[] #[])
  fields := #[]
  methods := #[k1m0, k1m1]
  instanceTypes := #[]
  staticTypes := #[]
  resolved := Array.replicate 29 none
  statics := none }

def pool2 : Array CpInfo := pool [(1, .methodref 2 3), (0, .class_ 4), (0, .nameAndType 5 6), (0, u "java/lang/Object"), (0, u "<init>"), (0, u "()V"), (0, .class_ 8), (0, u "java/lang/Record")] 13

def k2c0 : Code := { maxStack := 1, maxLocals := 1, code := jdk_30_method_1_code, exceptionTable := #[], attributes := #[] }
def k2m0 : Method := { name := "<init>", desc := "()V", sig := { parameters := [], returnType := none }, accessFlags := 4, code := some k2c0 }
/-- java/lang/Record -/
def k2 : Class := { plain "java/lang/Record" (some 0) with
  accessFlags := 1057
  interfaces := #[]
  cf := some (fileOf pool2 7 #[] #[{ accessFlags := 4, nameIndex := 5, descriptorIndex := 6, attributes := #[] }] 1057 2 #[] #[])
  fields := #[]
  methods := #[k2m0]
  instanceTypes := #[]
  staticTypes := #[]
  resolved := Array.replicate 22 none
  statics := none }

def pool3 : Array CpInfo := pool [(1, .methodref 2 3), (0, .class_ 4), (0, .nameAndType 5 6), (0, u "java/lang/Record"), (0, u "<init>"), (0, u "()V"), (0, .methodref 8 9), (0, .class_ 10), (0, .nameAndType 11 12), (0, u "com/example/tidegate/tidegate/model/OperatingDay"), (0, u "isDay"), (0, u "(II)Z"), (9, .fieldref 8 23), (0, .nameAndType 24 25), (0, u "open"), (0, u "I"), (0, .fieldref 8 27), (0, .nameAndType 28 25), (0, u "close"), (2, .methodref 8 32), (0, .nameAndType 33 34), (0, u "start"), (0, u "()I"), (0, .methodref 8 36), (0, .nameAndType 37 34), (0, u "end"), (21, u "(II)V"), (5, u "contains"), (0, u "(I)Z"), (0, u "containsMinute")] 38

def k3c0 : Code := { maxStack := 4, maxLocals := 3, code := prog_56_method_1_code, exceptionTable := #[], attributes := #[] }
def k3m0 : Method := { name := "<init>", desc := "(II)V", sig := { parameters := [.int, .int], returnType := none }, accessFlags := 1, code := some k3c0 }
def k3c1 : Code := { maxStack := 2, maxLocals := 2, code := prog_56_method_2_code, exceptionTable := #[], attributes := #[] }
def k3m1 : Method := { name := "isDay", desc := "(II)Z", sig := { parameters := [.int, .int], returnType := some .boolean }, accessFlags := 9, code := some k3c1 }
def k3c2 : Code := { maxStack := 2, maxLocals := 1, code := prog_56_method_4_code, exceptionTable := #[], attributes := #[] }
def k3m2 : Method := { name := "start", desc := "()I", sig := { parameters := [], returnType := some .int }, accessFlags := 1, code := some k3c2 }
def k3c3 : Code := { maxStack := 2, maxLocals := 1, code := prog_56_method_5_code, exceptionTable := #[], attributes := #[] }
def k3m3 : Method := { name := "end", desc := "()I", sig := { parameters := [], returnType := some .int }, accessFlags := 1, code := some k3c3 }
def k3c4 : Code := { maxStack := 2, maxLocals := 2, code := prog_56_method_6_code, exceptionTable := #[], attributes := #[] }
def k3m4 : Method := { name := "contains", desc := "(I)Z", sig := { parameters := [.int], returnType := some .boolean }, accessFlags := 1, code := some k3c4 }
def k3c5 : Code := { maxStack := 2, maxLocals := 2, code := prog_56_method_7_code, exceptionTable := #[], attributes := #[] }
def k3m5 : Method := { name := "containsMinute", desc := "(I)Z", sig := { parameters := [.int], returnType := some .boolean }, accessFlags := 1, code := some k3c5 }
/-- com/example/tidegate/tidegate/model/OperatingDay -/
def k3 : Class := { plain "com/example/tidegate/tidegate/model/OperatingDay" (some 2) with
  accessFlags := 49
  interfaces := #[]
  cf := some (fileOf pool3 8 #[] #[{ accessFlags := 1, nameIndex := 5, descriptorIndex := 59, attributes := #[] }, { accessFlags := 9, nameIndex := 11, descriptorIndex := 12, attributes := #[] }, { accessFlags := 1, nameIndex := 33, descriptorIndex := 34, attributes := #[] }, { accessFlags := 1, nameIndex := 37, descriptorIndex := 34, attributes := #[] }, { accessFlags := 1, nameIndex := 65, descriptorIndex := 66, attributes := #[] }, { accessFlags := 1, nameIndex := 67, descriptorIndex := 66, attributes := #[] }] 49 2 #[] #[{ accessFlags := 18, nameIndex := 24, descriptorIndex := 25, attributes := #[] }, { accessFlags := 18, nameIndex := 28, descriptorIndex := 25, attributes := #[] }])
  fields := #[{ name := "open", type := .int, accessFlags := 18, slot := 0, constantValue := 0 }, { name := "close", type := .int, accessFlags := 18, slot := 1, constantValue := 0 }]
  methods := #[k3m0, k3m1, k3m2, k3m3, k3m4, k3m5]
  instanceTypes := #[.int, .int]
  staticTypes := #[]
  resolved := Array.replicate 106 none
  statics := none }

def pool4 : Array CpInfo := pool [(1, u "java/lang/Cloneable"), (0, .class_ 1), (0, u "java/lang/Object"), (0, .class_ 3)] 3

/-- java/lang/Cloneable -/
def k4 : Class := { plain "java/lang/Cloneable" (some 0) with
  accessFlags := 1537
  interfaces := #[]
  cf := some (fileOf pool4 2 #[] #[] 1537 4 #[] #[])
  fields := #[]
  methods := #[]
  instanceTypes := #[]
  staticTypes := #[]
  resolved := Array.replicate 8 none
  statics := none }

def pool5 : Array CpInfo := pool [(1, u "java/io/Serializable"), (0, .class_ 1), (0, u "java/lang/Object"), (0, .class_ 3)] 3

/-- java/io/Serializable -/
def k5 : Class := { plain "java/io/Serializable" (some 0) with
  accessFlags := 1537
  interfaces := #[]
  cf := some (fileOf pool5 2 #[] #[] 1537 4 #[] #[])
  fields := #[]
  methods := #[]
  instanceTypes := #[]
  staticTypes := #[]
  resolved := Array.replicate 8 none
  statics := none }

/-- the primitive byte -/
def k6 : Class := { plain "byte" none with kind := .primitive 'B', accessFlags := 0x411 }
/-- [B -/
def k7 : Class := { plain "[B" (some 0) with kind := .array 6 .byte, interfaces := #[4, 5], accessFlags := 1041 }

/-- the primitive int -/
def k8 : Class := { plain "int" none with kind := .primitive 'I', accessFlags := 0x411 }
/-- [I -/
def k9 : Class := { plain "[I" (some 0) with kind := .array 8 .int, interfaces := #[4, 5], accessFlags := 1041 }

def heap : Heap := #[]
def classes : Array Class := #[k0, k1, k2, k3, k4, k5, k6, k7, k8, k9]
def interned : List (Array UInt16 × Addr) := []
def slotsUsed : Nat := 0
def theMethod : MethodId := ⟨1, 1⟩
def args0 : Array Value := #[.int 5, .int 6, .int 7, .int 1, .int 2]
def aboutOver (below : List Frame) : State where
  vm := { classes := classes, interned := interned.toArray }
  heap := heap
  slotsUsed := slotsUsed
  threads := #[{ frames := .invoking theMethod args0 :: below }]
def below0 : List Frame := [.native { method := ⟨0, 0⟩, args := #[] }]
def about1 : State := aboutOver below0
def p0 : Program := .bare "" "" ""
def e0 : Env := launch0.env 0 0 0
theorem w_frames : about1.frames = Frame.invoking theMethod args0 :: below0 := rfl
set_option maxRecDepth 65536 in
theorem w_args : argsFit about1.vm theMethod args0 = true := by decide +kernel
set_option maxRecDepth 65536 in
theorem w_heap : heapFits about1 = true := by decide +kernel
set_option maxRecDepth 65536 in
theorem w_runnable : about1.curStatus? = some .runnable := by decide +kernel
set_option maxRecDepth 65536 in
theorem w_alone : about1.alone = true := by decide +kernel
set_option maxRecDepth 65536 in
theorem w_named : about1.methodNamed? x = some theMethod := by decide +kernel
set_option maxRecDepth 65536 in
theorem w_hears : about1.hears theMethod below0 = true := by decide +kernel
set_option maxRecDepth 65536 in
theorem w_ripe : about1.ripe theMethod args0 below0 = true := by decide +kernel
theorem w_running : about1.status = .running := rfl
set_option maxRecDepth 65536 in
theorem w_room : about1.hasRoom e0.platform room_1 = true :=
  launch0.hasRoom_least _ room_1 (by decide +kernel) (by decide +kernel) (by decide +kernel) (by decide +kernel) (by decide +kernel) (by decide +kernel)
theorem allAtoms_all (ts : List Jvm.Cond) (a : Array Jvm.Value) (st : Jvm.State) : (allAtoms ts).before a st = ts.all (fun c => c.before a st) := by
  induction ts with
  | nil => rfl
  | cons c t ih =>
    show (Jvm.Cond.and c (allAtoms t)).before a st = _
    rw [Jvm.Cond.before_and, ih, List.all_cons]
def words1 : List Jvm.Cond := Jvm.Cond.code x code maxLocals ret :: tables_1
/-- a 'code' word, met by the world's own term for the bytes: nothing is compared byte by byte -/
theorem code_word {y : MethodName} {bytes : ByteArray} {mx : Nat} {rt : Option FieldType} {a : Array Value} {s : State} {m : MethodId} {meth : Method} {c : Code} (h1 : s.methodNamed? y = some m) (h2 : s.vm.method? m = some meth) (h3 : meth.code = some c) (h4 : c.code = bytes)
    (h5 : (c.maxLocals == mx && c.exceptionTable.isEmpty && decide (c.maxStack ≤ mostOperands) && decide (meth.sig.returnType = rt) && !meth.locks && decide (parseMethodDescriptor y.desc = some meth.sig)) = true) : (Jvm.Cond.code y bytes mx rt).before a s = true := by
  simp only [Bool.and_eq_true, beq_iff_eq, Bool.not_eq_true', decide_eq_true_eq] at h5
  obtain ⟨⟨⟨⟨⟨g1, g2⟩, g3⟩, g4⟩, g5⟩, g6⟩ := h5
  simp [Cond.before, Cond.holds, Cond.value, h1, h2, h3, h4, g1, g2, g3, g4, g5, g6]
def isCode : Jvm.Cond → Bool
  | .code _ _ _ _ => true
  | _ => false
theorem all_split {L : List Jvm.Cond} {P : Jvm.Cond → Bool} (h1 : L.all (fun c => isCode c || P c) = true) (h2 : ∀ c ∈ L.filter isCode, P c = true) : L.all P = true := by
  refine List.all_eq_true.mpr fun c hc => ?_
  have h := List.all_eq_true.mp h1 c hc
  rcases Bool.eq_false_or_eq_true (isCode c) with hi | hi
  · exact h2 c (List.mem_filter.mpr ⟨hc, hi⟩)
  · simpa [hi] using h
set_option maxRecDepth 65536 in
theorem w_c0 : (Jvm.Cond.code x code maxLocals ret).before args0 about1 = true := code_word (m := ⟨1, 1⟩) (meth := k1m1) (c := k1c1) (by decide +kernel) rfl rfl rfl (by decide +kernel)
set_option maxRecDepth 65536 in
theorem w_c1 : (Jvm.Cond.code ({ cls := "com/example/tidegate/tidegate/model/OperatingDay", name := "<init>", desc := "(II)V" } : Jvm.MethodName) prog_56_method_1_code (3 : Nat) (Option.none : Option Jvm.ClassFile.FieldType)).before args0 about1 = true := code_word (m := ⟨3, 0⟩) (meth := k3m0) (c := k3c0) (by decide +kernel) rfl rfl rfl (by decide +kernel)
set_option maxRecDepth 65536 in
theorem w_c2 : (Jvm.Cond.code ({ cls := "java/lang/Record", name := "<init>", desc := "()V" } : Jvm.MethodName) jdk_30_method_1_code (1 : Nat) (Option.none : Option Jvm.ClassFile.FieldType)).before args0 about1 = true := code_word (m := ⟨2, 0⟩) (meth := k2m0) (c := k2c0) (by decide +kernel) rfl rfl rfl (by decide +kernel)
set_option maxRecDepth 65536 in
theorem w_c3 : (Jvm.Cond.code ({ cls := "java/lang/Object", name := "<init>", desc := "()V" } : Jvm.MethodName) object_method_1_code (1 : Nat) (Option.none : Option Jvm.ClassFile.FieldType)).before args0 about1 = true := code_word (m := ⟨0, 0⟩) (meth := k0m0) (c := k0c0) (by decide +kernel) rfl rfl rfl (by decide +kernel)
set_option maxRecDepth 65536 in
theorem w_c4 : (Jvm.Cond.code ({ cls := "com/example/tidegate/tidegate/model/OperatingDay", name := "isDay", desc := "(II)Z" } : Jvm.MethodName) prog_56_method_2_code (2 : Nat) (Option.some Jvm.ClassFile.FieldType.boolean)).before args0 about1 = true := code_word (m := ⟨3, 1⟩) (meth := k3m1) (c := k3c1) (by decide +kernel) rfl rfl rfl (by decide +kernel)
set_option maxRecDepth 65536 in
theorem w_c5 : (Jvm.Cond.code ({ cls := "com/example/tidegate/tidegate/model/OperatingDay", name := "containsMinute", desc := "(I)Z" } : Jvm.MethodName) prog_56_method_7_code (2 : Nat) (Option.some Jvm.ClassFile.FieldType.boolean)).before args0 about1 = true := code_word (m := ⟨3, 5⟩) (meth := k3m5) (c := k3c5) (by decide +kernel) rfl rfl rfl (by decide +kernel)
set_option maxRecDepth 65536 in
theorem w_c6 : (Jvm.Cond.code ({ cls := "com/example/tidegate/tidegate/model/OperatingDay", name := "contains", desc := "(I)Z" } : Jvm.MethodName) prog_56_method_6_code (2 : Nat) (Option.some Jvm.ClassFile.FieldType.boolean)).before args0 about1 = true := code_word (m := ⟨3, 4⟩) (meth := k3m4) (c := k3c4) (by decide +kernel) rfl rfl rfl (by decide +kernel)
set_option maxRecDepth 65536 in
theorem w_c7 : (Jvm.Cond.code ({ cls := "com/example/tidegate/tidegate/model/OperatingDay", name := "start", desc := "()I" } : Jvm.MethodName) prog_56_method_4_code (1 : Nat) (Option.some Jvm.ClassFile.FieldType.int)).before args0 about1 = true := code_word (m := ⟨3, 2⟩) (meth := k3m2) (c := k3c2) (by decide +kernel) rfl rfl rfl (by decide +kernel)
set_option maxRecDepth 65536 in
theorem w_c8 : (Jvm.Cond.code ({ cls := "com/example/tidegate/tidegate/model/OperatingDay", name := "end", desc := "()I" } : Jvm.MethodName) prog_56_method_5_code (1 : Nat) (Option.some Jvm.ClassFile.FieldType.int)).before args0 about1 = true := code_word (m := ⟨3, 3⟩) (meth := k3m3) (c := k3c3) (by decide +kernel) rfl rfl rfl (by decide +kernel)
def codes1 : List Jvm.Cond := [Jvm.Cond.code x code maxLocals ret, Jvm.Cond.code ({ cls := "com/example/tidegate/tidegate/model/OperatingDay", name := "<init>", desc := "(II)V" } : Jvm.MethodName) prog_56_method_1_code (3 : Nat) (Option.none : Option Jvm.ClassFile.FieldType), Jvm.Cond.code ({ cls := "java/lang/Record", name := "<init>", desc := "()V" } : Jvm.MethodName) jdk_30_method_1_code (1 : Nat) (Option.none : Option Jvm.ClassFile.FieldType), Jvm.Cond.code ({ cls := "java/lang/Object", name := "<init>", desc := "()V" } : Jvm.MethodName) object_method_1_code (1 : Nat) (Option.none : Option Jvm.ClassFile.FieldType), Jvm.Cond.code ({ cls := "com/example/tidegate/tidegate/model/OperatingDay", name := "isDay", desc := "(II)Z" } : Jvm.MethodName) prog_56_method_2_code (2 : Nat) (Option.some Jvm.ClassFile.FieldType.boolean), Jvm.Cond.code ({ cls := "com/example/tidegate/tidegate/model/OperatingDay", name := "containsMinute", desc := "(I)Z" } : Jvm.MethodName) prog_56_method_7_code (2 : Nat) (Option.some Jvm.ClassFile.FieldType.boolean), Jvm.Cond.code ({ cls := "com/example/tidegate/tidegate/model/OperatingDay", name := "contains", desc := "(I)Z" } : Jvm.MethodName) prog_56_method_6_code (2 : Nat) (Option.some Jvm.ClassFile.FieldType.boolean), Jvm.Cond.code ({ cls := "com/example/tidegate/tidegate/model/OperatingDay", name := "start", desc := "()I" } : Jvm.MethodName) prog_56_method_4_code (1 : Nat) (Option.some Jvm.ClassFile.FieldType.int), Jvm.Cond.code ({ cls := "com/example/tidegate/tidegate/model/OperatingDay", name := "end", desc := "()I" } : Jvm.MethodName) prog_56_method_5_code (1 : Nat) (Option.some Jvm.ClassFile.FieldType.int)]
set_option maxRecDepth 65536 in
theorem codes_eq : words1.filter isCode = codes1 := rfl
theorem w_codes : ∀ c ∈ words1.filter isCode, c.before args0 about1 = true := by
  rw [codes_eq]
  intro c hc
  simp only [codes1, List.mem_cons, List.not_mem_nil, or_false] at hc
  rcases hc with rfl | rfl | rfl | rfl | rfl | rfl | rfl | rfl | rfl
  · exact w_c0
  · exact w_c1
  · exact w_c2
  · exact w_c3
  · exact w_c4
  · exact w_c5
  · exact w_c6
  · exact w_c7
  · exact w_c8
set_option maxRecDepth 65536 in
theorem w_t1 : (words1.take 24).all (fun c => isCode c || c.before args0 about1) = true := by decide +kernel
set_option maxRecDepth 65536 in
theorem w_t2 : (words1.drop 24).all (fun c => isCode c || c.before args0 about1) = true := by decide +kernel
theorem w_tables : (allAtoms (Jvm.Cond.code x code maxLocals ret :: tables_1)).before args0 about1 = true := by
  rw [allAtoms_all]
  show words1.all (fun c => c.before args0 about1) = true
  refine all_split ?_ w_codes
  rw [← List.take_append_drop 24 words1, List.all_append, w_t1, w_t2]
  rfl
set_option maxRecDepth 65536 in
theorem w_case : (Jvm.Cond.and given_1 narrow_1).before args0 about1 = true := by decide +kernel
theorem w_applies : (headSpec (Jvm.Cond.code x code maxLocals ret :: tables_1) room_1).applies x e0.platform about1 = true :=
  (Spec.applies_iff w_frames).mpr ⟨w_running, w_runnable, w_alone, w_named, w_hears, w_ripe, w_room, w_tables⟩
theorem atStart : AtStart classFile x code maxLocals ret World_1 tables_1 room_1 Calls_1 rest_1 Pre_1 launch0 p0 e0 about1 theMethod args0 below0 :=
  ⟨lists_1, trivial, launch0.admits_env _ _ _, launch0.least_env, fairChoices_fair.cas, fairChoices_fair.clock, w_frames, w_args, w_heap, w_applies, trivial, trivial, w_case⟩
end start1
theorem witness_1 : WitnessClaimed_1 := ⟨start1.p0, start1.e0, start1.about1, start1.theMethod, start1.args0, start1.below0, start1.atStart⟩
end Jvm.Pilot.@@N@@
