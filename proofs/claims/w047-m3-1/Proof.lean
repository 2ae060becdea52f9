import JvmDerived
import JvmDerived.Pilot.@@N@@Statement
import JvmDerived.Pilot.@@N@@Code
set_option linter.unusedVariables false
set_option linter.unusedSimpArgs false
namespace Jvm.RoadKit
open Sem ClassFile Op Lib Jvm.Stand Jvm.Free Jvm.LawKit
section New
variable {p : Program} {l : Launch} {e : Env} {R : Room} {s : State} {m : MethodId} {args : Array Value} {below : List Frame} {meth : Method} {c : Code} {T : State} {locs : List Loc} {cells slots : Nat}
theorem retI (X : Stand p l e R s m args below meth c T locs cells slots) (hx : p.tables.exec = Jvm.exec) {pc : Nat} {Ls : Array Slot} {z : Int32} {rest : List Value} (hret : meth.sig.returnType = some .int) (hd : decode c.code pc = .ok (.ireturn, 1)) {fs : List Frame}
    (hl : ∀ (f : JFrame) (acts : List Action), f.method = m → f.locked = none → f.entered = [] → (doReturn e (T.setTop f) acts (some (.int z))).1 = T.setFrames fs) : Steps p.tables e below (T.setTop (mkF m pc Ls (.int z :: rest))) (T.setFrames fs) := by
  have hm' : T.vm.method? m = some meth := X.method'
  have hn : narrow .int (.int z) = .int z := rfl
  show Steps p.tables e below (T.setTop { method := m, pc := pc, locals := Ls, stack := _ :: rest, locked := none }) _
  jvm_step X.here [X.here.top, hx, hd, hm', hret, hn]
  first | (intro acts; rw [hl _ acts rfl rfl rfl]) | rw [hl _ _ rfl rfl rfl]
  exact Steps.refl _
end New
end Jvm.RoadKit
namespace Jvm.Pilot.@@N@@
open Jvm Jvm.ClassFile Sem Op Lib Jvm.Free Jvm.Stand Jvm.LawKit Jvm.RoadKit Bundle Jvm.Pilot.@@N@@.Jvm.D
section Own
variable {p : Program} {l : Launch} {e : Env} {R : Room} {s : State} {m : MethodId} {args : Array Value} {below : List Frame} {meth : Method} {c : Code} {T : State} {locs : List Loc} {cells slots : Nat} {Z : State} {a0 : Array Value} {h h' : Heap}
/-- an array of n places, whose j-th holds f j -/
def own_AF (Z : State) (h : Heap) (a : Addr) (ty : FieldType) (n : Nat) (f : Nat → Value) : Prop := n < 2147483648 ∧ ∃ c : Cell, Arr Z h a c ty ∧ c.slots.size = n ∧ ∀ j, j < n → c.slots[j]? = some (f j)
/-- an array of ints, bytes, chars, booleans -/
def own_AI (Z : State) (h : Heap) (a : Addr) (ty : FieldType) (n : Nat) (f : Nat → Int32) : Prop := own_AF Z h a ty n (fun j => .int (f j))
def own_AL (Z : State) (h : Heap) (a : Addr) (n : Nat) (f : Nat → Int64) : Prop := own_AF Z h a .long n (fun j => .long (f j))
def own_upd {α : Type} (f : Nat → α) (i : Nat) (x : α) : Nat → α := fun j => if j = i then x else f j
theorem own_AF.lt {a : Addr} {ty : FieldType} {n : Nat} {f : Nat → Value} (F : own_AF Z h a ty n f) : a < h.size := by obtain ⟨_, c, A, -⟩ := F; exact A.lt
theorem own_AI.lt {a : Addr} {ty : FieldType} {n : Nat} {f : Nat → Int32} (F : own_AI Z h a ty n f) : a < h.size := own_AF.lt F
theorem own_AL.lt {a : Addr} {n : Nat} {f : Nat → Int64} (F : own_AL Z h a n f) : a < h.size := own_AF.lt F
theorem own_AF.keep {a : Addr} {ty : FieldType} {n : Nat} {f : Nat → Value} {ws : List Addr} (F : own_AF Z h a ty n f) (K : Keep h h' ws) (q : a ∉ ws) : own_AF Z h' a ty n f := by
  obtain ⟨b, c, A, r⟩ := F; exact ⟨b, c, ⟨K.2.1 a c A.1 q, A.2⟩, r⟩
theorem own_AI.keep {a : Addr} {ty : FieldType} {n : Nat} {f : Nat → Int32} {ws : List Addr} (F : own_AI Z h a ty n f) (K : Keep h h' ws) (q : a ∉ ws) : own_AI Z h' a ty n f := own_AF.keep F K q
theorem own_AL.keep {a : Addr} {n : Nat} {f : Nat → Int64} {ws : List Addr} (F : own_AL Z h a n f) (K : Keep h h' ws) (q : a ∉ ws) : own_AL Z h' a n f := own_AF.keep F K q
theorem own_AF.congr {a : Addr} {ty : FieldType} {n : Nat} {f g : Nat → Value} (F : own_AF Z h a ty n f) (q : ∀ j, j < n → f j = g j) : own_AF Z h a ty n g := by
  obtain ⟨b, c, A, s, r⟩ := F; exact ⟨b, c, A, s, fun j hj => by rw [r j hj, q j hj]⟩
theorem own_AI.congr {a : Addr} {ty : FieldType} {n : Nat} {f g : Nat → Int32} (F : own_AI Z h a ty n f) (q : ∀ j, j < n → f j = g j) : own_AI Z h a ty n g := own_AF.congr F fun j hj => by show Value.int (f j) = .int (g j); rw [q j hj]
theorem own_AF.wr {a : Addr} {ty : FieldType} {n i : Nat} {f : Nat → Value} {v : Value} (F : own_AF Z h a ty n f) (hi : i < n) (W : Wr h h' a i v) : own_AF Z h' a ty n (own_upd f i v) := by
  obtain ⟨b, c, A, s, r⟩ := F
  refine ⟨b, _, A.same W, by rw [sz_set]; exact s, fun j hj => ?_⟩
  simp only [Cell.setSlot, own_upd, Array.getElem?_setIfInBounds]
  by_cases q : i = j
  · subst q; simp [s, hi]
  · have q' : ¬ j = i := fun e => q e.symm
    simp [q, q', r j hj]
theorem own_AI.wr {a : Addr} {ty : FieldType} {n i : Nat} {f : Nat → Int32} {x : Int32} (F : own_AI Z h a ty n f) (hi : i < n) (W : Wr h h' a i (.int x)) : own_AI Z h' a ty n (own_upd f i x) :=
  (own_AF.wr F hi W).congr fun j hj => by simp only [own_upd]; split <;> rfl
theorem own_AL.wr {a : Addr} {n i : Nat} {f : Nat → Int64} {x : Int64} (F : own_AL Z h a n f) (hi : i < n) (W : Wr h h' a i (.long x)) : own_AL Z h' a n (own_upd f i x) :=
  (own_AF.wr F hi W).congr fun j hj => by simp only [own_upd]; split <;> rfl
theorem own_idx {j : Int32} {i : Nat} (hj : j.toInt = i) : ¬ j < 0 ∧ j.toNatClampNeg = i := by
  refine ⟨by rw [Int32.lt_iff_toInt_lt, Int32.toInt_zero]; omega, ?_⟩
  have := nat_of (j := j) (by rw [Int32.lt_iff_toInt_lt, Int32.toInt_zero]; omega)
  omega
theorem own_inb {j : Int32} {i n : Nat} {cl : Cell} (hj : j.toInt = i) (hi : i < n) (hs : cl.slots.size = n) : ¬ (j < 0 ∨ cl.slots.size ≤ j.toNatClampNeg) := by
  obtain ⟨h1, h2⟩ := own_idx hj
  rintro (q | q)
  · exact h1 q
  · rw [h2, hs] at q; omega
theorem own_ldF {a : Addr} {n i : Nat} {ty : FieldType} {f : Nat → Value} {j : Int32} {v : Value} (A : own_AF Z h a ty n f) (hj : j.toInt = i) (hi : i < n) (hv : f i = v) : ∃ cl : Cell, Arr Z h a cl ty ∧ ¬ (j < 0 ∨ cl.slots.size ≤ j.toNatClampNeg) ∧ cl.slots[j.toNatClampNeg]? = some v := by
  obtain ⟨b, cl, Ar, hs, hf⟩ := A
  exact ⟨cl, Ar, own_inb hj hi hs, by rw [(own_idx hj).2, hf i hi, hv]⟩
theorem own_ldI (X : Stand p l e R s m args below meth c T locs cells slots) (hx : p.tables.exec = Jvm.exec) (hZ : Z.Warmed39 s.vm) (eT : T.heap = h) {a : Addr} {n i : Nat} {f : Nat → Int32} {j x : Int32} (A : own_AI Z h a .int n f) (hj : j.toInt = i) (hi : i < n) (hv : f i = x) {g : JFrame} (hg : g.method = m) {rest : List Value} (hs : g.stack = .int j :: .ref a :: rest) (hd : decode c.code g.pc = .ok (.iaload, 1)) :
    ∀ target, Steps p.tables e below (T.setTop { g with pc := g.pc + 1, stack := .int x :: rest }) target → Steps p.tables e below (T.setTop g) target := by
  obtain ⟨cl, Ar, h1, h2⟩ := own_ldF A hj hi (by rw [hv])
  exact X.iaload hx (by rw [eT]; exact Ar.1) (State.isArrayOf_alike hZ.alike Ar.2.1) Ar.2.2 h1 h2 hg hs hd
theorem own_ldC (X : Stand p l e R s m args below meth c T locs cells slots) (hx : p.tables.exec = Jvm.exec) (hZ : Z.Warmed39 s.vm) (eT : T.heap = h) {a : Addr} {n i : Nat} {f : Nat → Int32} {j x : Int32} (A : own_AI Z h a .char n f) (hj : j.toInt = i) (hi : i < n) (hv : f i = x) {g : JFrame} (hg : g.method = m) {rest : List Value} (hs : g.stack = .int j :: .ref a :: rest) (hd : decode c.code g.pc = .ok (.caload, 1)) :
    ∀ target, Steps p.tables e below (T.setTop { g with pc := g.pc + 1, stack := .int x :: rest }) target → Steps p.tables e below (T.setTop g) target := by
  obtain ⟨cl, Ar, h1, h2⟩ := own_ldF A hj hi (by rw [hv])
  exact X.caload hx (by rw [eT]; exact Ar.1) (State.isArrayOf_alike hZ.alike Ar.2.1) Ar.2.2 h1 h2 hg hs hd
theorem own_ldB (X : Stand p l e R s m args below meth c T locs cells slots) (hx : p.tables.exec = Jvm.exec) (hZ : Z.Warmed39 s.vm) (eT : T.heap = h) {a : Addr} {n i : Nat} {f : Nat → Int32} {j x : Int32} (A : own_AI Z h a .byte n f) (hj : j.toInt = i) (hi : i < n) (hv : f i = x) {g : JFrame} (hg : g.method = m) {rest : List Value} (hs : g.stack = .int j :: .ref a :: rest) (hd : decode c.code g.pc = .ok (.baload, 1)) :
    ∀ target, Steps p.tables e below (T.setTop { g with pc := g.pc + 1, stack := .int x :: rest }) target → Steps p.tables e below (T.setTop g) target := by
  obtain ⟨cl, Ar, h1, h2⟩ := own_ldF A hj hi (by rw [hv])
  exact X.baloadBytes hx (by rw [eT]; exact Ar.1) (State.isArrayOf_alike hZ.alike Ar.2.1) Ar.2.2 h1 h2 hg hs hd
theorem own_ldZ (X : Stand p l e R s m args below meth c T locs cells slots) (hx : p.tables.exec = Jvm.exec) (hZ : Z.Warmed39 s.vm) (eT : T.heap = h) {a : Addr} {n i : Nat} {f : Nat → Int32} {j x : Int32} (A : own_AI Z h a .boolean n f) (hj : j.toInt = i) (hi : i < n) (hv : f i = x) {g : JFrame} (hg : g.method = m) {rest : List Value} (hs : g.stack = .int j :: .ref a :: rest) (hd : decode c.code g.pc = .ok (.baload, 1)) :
    ∀ target, Steps p.tables e below (T.setTop { g with pc := g.pc + 1, stack := .int x :: rest }) target → Steps p.tables e below (T.setTop g) target := by
  obtain ⟨cl, Ar, h1, h2⟩ := own_ldF A hj hi (by rw [hv])
  exact X.baloadBooleans hx (by rw [eT]; exact Ar.1) (State.isArrayOf_alike hZ.alike Ar.2.1) Ar.2.2 h1 h2 hg hs hd
theorem own_ldJ (X : Stand p l e R s m args below meth c T locs cells slots) (hx : p.tables.exec = Jvm.exec) (hZ : Z.Warmed39 s.vm) (eT : T.heap = h) {a : Addr} {n i : Nat} {f : Nat → Int64} {j : Int32} {x : Int64} (A : own_AL Z h a n f) (hj : j.toInt = i) (hi : i < n) (hv : f i = x) {g : JFrame} (hg : g.method = m) {rest : List Value} (hs : g.stack = .int j :: .ref a :: rest) (hd : decode c.code g.pc = .ok (.laload, 1)) :
    ∀ target, Steps p.tables e below (T.setTop { g with pc := g.pc + 1, stack := .long x :: rest }) target → Steps p.tables e below (T.setTop g) target := by
  obtain ⟨cl, Ar, h1, h2⟩ := own_ldF A hj hi (by rw [hv])
  exact X.laload hx (by rw [eT]; exact Ar.1) (State.isArrayOf_alike hZ.alike Ar.2.1) Ar.2.2 h1 h2 hg hs hd
theorem own_ldR (X : Stand p l e R s m args below meth c T locs cells slots) (hx : p.tables.exec = Jvm.exec) (hZ : Z.Warmed39 s.vm) (eT : T.heap = h) {a : Addr} {n i : Nat} {ty : FieldType} {f : Nat → Value} {j : Int32} {v : Value} (hty : ty.isReference = true) (A : own_AF Z h a ty n f) (hj : j.toInt = i) (hi : i < n) (hv : f i = v) {g : JFrame} (hg : g.method = m) {rest : List Value} (hs : g.stack = .int j :: .ref a :: rest) (hd : decode c.code g.pc = .ok (.aaload, 1)) :
    ∀ target, Steps p.tables e below (T.setTop { g with pc := g.pc + 1, stack := v :: rest }) target → Steps p.tables e below (T.setTop g) target := by
  obtain ⟨cl, Ar, h1, h2⟩ := own_ldF A hj hi hv
  exact X.aaload hx (by rw [eT]; exact Ar.1) (State.isArrayOf_alike hZ.alike Ar.2.1) hty Ar.2.2 h1 h2 hg hs hd
theorem own_len (X : Stand p l e R s m args below meth c T locs cells slots) (hx : p.tables.exec = Jvm.exec) (hZ : Z.Warmed39 s.vm) (eT : T.heap = h) {a : Addr} {n : Nat} {ty : FieldType} {f : Nat → Value} {z : Int32} (A : own_AF Z h a ty n f) (hz : z.toInt = n) {g : JFrame} (hg : g.method = m) {rest : List Value} (hs : g.stack = .ref a :: rest) (hd : decode c.code g.pc = .ok (.arraylength, 1)) :
    ∀ target, Steps p.tables e below (T.setTop { g with pc := g.pc + 1, stack := .int z :: rest }) target → Steps p.tables e below (T.setTop g) target := by
  obtain ⟨b, cl, Ar, hs', hf⟩ := A
  intro target k
  refine X.arraylength hx (by rw [eT]; exact Ar.1) (State.isArrayOf_alike hZ.alike Ar.2.1) hg hs hd target ?_
  have q : cl.slots.size.toInt32 = z := by
    apply Int32.toInt_inj.mp
    rw [hs', len_toInt (by omega), hz]
  rw [q]; exact k
theorem own_stI (X : Stand p l e R s m args below meth c T locs cells slots) (hx : p.tables.exec = Jvm.exec) (hZ : Z.Warmed39 s.vm) (eT : T.heap = h) {a : Addr} {n i : Nat} {f : Nat → Int32} {j x : Int32} (A : own_AI Z h a .int n f) (hj : j.toInt = i) (hi : i < n) {g : JFrame} (hg : g.method = m) {rest : List Value} (hs : g.stack = .int x :: .int j :: .ref a :: rest) (hd : decode c.code g.pc = .ok (.iastore, 1)) :
    ∃ T' h', Stand p l e R s m args below meth c T' (locs ++ [⟨a, i⟩]) cells slots ∧ T'.heap = h' ∧ Wr h h' a i (.int x) ∧ own_AI Z h' a .int n (own_upd f i x) ∧ ∀ target, Steps p.tables e below (T'.setTop { g with pc := g.pc + 1, stack := rest }) target → Steps p.tables e below (T.setTop g) target := by
  obtain ⟨cl, Ar, h1, -⟩ := own_ldF A hj hi rfl
  obtain ⟨T', h', X', e', W, st⟩ := stI X hx hZ eT Ar h1 hg hs hd
  rw [(own_idx hj).2] at X' W
  exact ⟨T', h', X', e', W, A.wr hi W, st⟩
theorem own_stB (X : Stand p l e R s m args below meth c T locs cells slots) (hx : p.tables.exec = Jvm.exec) (hZ : Z.Warmed39 s.vm) (eT : T.heap = h) {a : Addr} {n i : Nat} {f : Nat → Int32} {j x : Int32} (A : own_AI Z h a .byte n f) (hj : j.toInt = i) (hi : i < n) {g : JFrame} (hg : g.method = m) {rest : List Value} (hs : g.stack = .int x :: .int j :: .ref a :: rest) (hd : decode c.code g.pc = .ok (.bastore, 1)) :
    ∃ T' h', Stand p l e R s m args below meth c T' (locs ++ [⟨a, i⟩]) cells slots ∧ T'.heap = h' ∧ Wr h h' a i (.int (x.toInt8.toInt32)) ∧ own_AI Z h' a .byte n (own_upd f i (x.toInt8.toInt32)) ∧ ∀ target, Steps p.tables e below (T'.setTop { g with pc := g.pc + 1, stack := rest }) target → Steps p.tables e below (T.setTop g) target := by
  obtain ⟨cl, Ar, h1, -⟩ := own_ldF A hj hi rfl
  obtain ⟨T', h', X', e', W, st⟩ := stB X hx hZ eT Ar h1 hg hs hd
  rw [(own_idx hj).2] at X' W
  exact ⟨T', h', X', e', W, A.wr hi W, st⟩
theorem own_stZ (X : Stand p l e R s m args below meth c T locs cells slots) (hx : p.tables.exec = Jvm.exec) (hZ : Z.Warmed39 s.vm) (eT : T.heap = h) {a : Addr} {n i : Nat} {f : Nat → Int32} {j x : Int32} (A : own_AI Z h a .boolean n f) (hj : j.toInt = i) (hi : i < n) {g : JFrame} (hg : g.method = m) {rest : List Value} (hs : g.stack = .int x :: .int j :: .ref a :: rest) (hd : decode c.code g.pc = .ok (.bastore, 1)) :
    ∃ T' h', Stand p l e R s m args below meth c T' (locs ++ [⟨a, i⟩]) cells slots ∧ T'.heap = h' ∧ Wr h h' a i (.int (x &&& 1)) ∧ own_AI Z h' a .boolean n (own_upd f i (x &&& 1)) ∧ ∀ target, Steps p.tables e below (T'.setTop { g with pc := g.pc + 1, stack := rest }) target → Steps p.tables e below (T.setTop g) target := by
  obtain ⟨cl, Ar, h1, -⟩ := own_ldF A hj hi rfl
  obtain ⟨T', h', X', e', W, st⟩ := stZ X hx hZ eT Ar h1 hg hs hd
  rw [(own_idx hj).2] at X' W
  exact ⟨T', h', X', e', W, A.wr hi W, st⟩
theorem own_stC (X : Stand p l e R s m args below meth c T locs cells slots) (hx : p.tables.exec = Jvm.exec) (hZ : Z.Warmed39 s.vm) (eT : T.heap = h) {a : Addr} {n i : Nat} {f : Nat → Int32} {j x : Int32} (A : own_AI Z h a .char n f) (hj : j.toInt = i) (hi : i < n) {g : JFrame} (hg : g.method = m) {rest : List Value} (hs : g.stack = .int x :: .int j :: .ref a :: rest) (hd : decode c.code g.pc = .ok (.castore, 1)) :
    ∃ T' h', Stand p l e R s m args below meth c T' (locs ++ [⟨a, i⟩]) cells slots ∧ T'.heap = h' ∧ Wr h h' a i (.int (x.toUInt32.toUInt16.toUInt32.toInt32)) ∧ own_AI Z h' a .char n (own_upd f i (x.toUInt32.toUInt16.toUInt32.toInt32)) ∧ ∀ target, Steps p.tables e below (T'.setTop { g with pc := g.pc + 1, stack := rest }) target → Steps p.tables e below (T.setTop g) target := by
  obtain ⟨cl, Ar, h1, -⟩ := own_ldF A hj hi rfl
  obtain ⟨T', h', X', e', W, st⟩ := stC X hx hZ eT Ar h1 hg hs hd
  rw [(own_idx hj).2] at X' W
  exact ⟨T', h', X', e', W, A.wr hi W, st⟩
theorem own_stJ (X : Stand p l e R s m args below meth c T locs cells slots) (hx : p.tables.exec = Jvm.exec) (hZ : Z.Warmed39 s.vm) (eT : T.heap = h) {a : Addr} {n i : Nat} {f : Nat → Int64} {j : Int32} {x : Int64} (A : own_AL Z h a n f) (hj : j.toInt = i) (hi : i < n) {g : JFrame} (hg : g.method = m) {rest : List Value} (hs : g.stack = .long x :: .int j :: .ref a :: rest) (hd : decode c.code g.pc = .ok (.lastore, 1)) :
    ∃ T' h', Stand p l e R s m args below meth c T' (locs ++ [⟨a, i⟩]) cells slots ∧ T'.heap = h' ∧ Wr h h' a i (.long x) ∧ own_AL Z h' a n (own_upd f i x) ∧ ∀ target, Steps p.tables e below (T'.setTop { g with pc := g.pc + 1, stack := rest }) target → Steps p.tables e below (T.setTop g) target := by
  obtain ⟨cl, Ar, h1, -⟩ := own_ldF A hj hi rfl
  obtain ⟨T', h', X', e', W, st⟩ := stJ X hx hZ eT Ar h1 hg hs hd
  rw [(own_idx hj).2] at X' W
  exact ⟨T', h', X', e', W, A.wr hi W, st⟩
theorem own_newF {a : Addr} {cA : ClassId} {ty : FieldType} {n : Int32} {i : Nat} (hn : n.toInt = i) (A : Arr Z h a (newA cA ty n) ty) : own_AF Z h a ty i (fun _ => defaultValue ty) := by
  obtain ⟨h1, h2⟩ := own_idx hn
  have := n.toInt_lt
  refine ⟨by omega, _, A, by rw [sz_new, h2], fun j hj => ?_⟩
  simp [newA, h2, hj]
theorem own_newI {a : Addr} {cA : ClassId} {ty : FieldType} {n : Int32} {i : Nat} (hn : n.toInt = i) (A : Arr Z h a (newA cA ty n) ty) (hd : defaultValue ty = .int 0) : own_AI Z h a ty i (fun _ => 0) :=
  (own_newF hn A).congr fun _ _ => hd
theorem own_newL {a : Addr} {cA : ClassId} {n : Int32} {i : Nat} (hn : n.toInt = i) (A : Arr Z h a (newA cA .long n) .long) : own_AL Z h a i (fun _ => 0) :=
  (own_newF hn A).congr fun _ _ => rfl
theorem own_Sta.keep {C n d : String} {v : Value} {ws : List Addr} (F : Sta Z h C n d v) (K : Keep h h' ws) (q : ∀ x ∈ ws, ∀ cl : Cell, h[x]? = some cl → cl.vm.isStatics = false) : Sta Z h' C n d v := by
  obtain ⟨cf, i, k, f, st, cell, h1, h2, h3, h4, h5, h6, h7⟩ := F
  refine ⟨cf, i, k, f, st, cell, h1, h2, h3, h4, K.2.1 st cell h5 (fun q' => ?_), h6, h7⟩
  have := q st q' cell h5
  rw [h6] at this; cases this
theorem own_selP {args : Array Value} {C : String} {y y' : MethodName} (hcls : y'.cls = y.cls) (hs : (Jvm.Cond.selects C y' y').before args s = true) (hi' : (Jvm.Cond.instanceMethod y').before args s = true) (hp : (Jvm.Cond.privateMethod y).before args s = true) (hi : (Jvm.Cond.instanceMethod y).before args s = true) (hy : y.cls ≠ "java/lang/invoke/MethodHandle" ∧ y.cls ≠ "java/lang/invoke/VarHandle") : (Jvm.Cond.selects y.cls y y).before args s = true := by
  obtain ⟨mk, methM, hnamed, -⟩ := Cond.instanceMethod_spec hi'
  obtain ⟨kr, hk, hni⟩ := notFace_of_selects hs mk hnamed
  have hc := findClass_of_methodNamed hnamed
  rw [hcls] at hc
  exact selects_self_of_private hc hk hni (Cond.privateMethod_at hp) hi hy
end Own
theorem d5_0 : decode jdk_30_method_1_code 0 = .ok (.aload_n 0, 1) := by decide +kernel
theorem d5_1 : decode jdk_30_method_1_code 1 = .ok (.invokespecial 1, 3) := by decide +kernel
theorem d5_4 : decode jdk_30_method_1_code 4 = .ok (.return_, 1) := by decide +kernel
theorem pn_5 : plainName "java/lang/Record" = true := by first | (simp [plainName, overriddenIn]; done) | decide +kernel
theorem ef_5 (m : MethodId) (x0 : Addr) : entryFrame m #[(.ref x0)] 1 = mkF m 0 #[.val (.ref x0)] [] := by first | (simp [entryFrame, mkF, argsToLocals, Value.category]; done) | rfl
def Q5 (Z : State) (a : Addr) (h0 : Heap) (n0 : Nat) (rv_ : Option Value) (h : Heap) (LL_ : List Loc) : Prop := rv_ = none ∧ Fr n0 LL_ ∧ h = h0
set_option maxRecDepth 65536 in
set_option maxHeartbeats 40000000 in
theorem rm5 (l : Launch) (Z : State) (a0 : Array Value) (hw : ∀ d ∈ tables_1, d.before a0 Z = true) (ws : List Jvm.Cond) (a : Addr) (h0 : Heap) (n0 : Nat) :
    MetFree l (⟨"java/lang/Record", "<init>", "()V"⟩ : MethodName) (head1 (Jvm.Cond.code (⟨"java/lang/Record", "<init>", "()V"⟩ : MethodName) jdk_30_method_1_code 1 none :: ws) ({ frames := 1, cells := 0, slots := 0, locals := 12 } : Room)) (fun aa UU => aa = #[(.ref a)] ∧ Z.Warmed39 UU.vm ∧ UU.heap = h0) (fun _ _ _ _ _ => True) (fun _ UU oo UV => ∃ vv LL, oo = .returned vv ∧ Q5 Z a h0 n0 vv UV.heap LL ∧ FrameEnd UU oo UV LL ({ frames := 1, cells := 0, slots := 0, locals := 12 } : Room).cells ({ frames := 1, cells := 0, slots := 0, locals := 12 } : Room).slots) := by
  refine MetFree.of_bodySF (plainFor_of_name pn_5) hisR ?_
  intro p e s m args below meth c s₁ Bd hml0 hP hK
  obtain ⟨rfl, hZ, hh⟩ := hP
  have hx := Bd.exec
  have hby := Bd.bytes
  have hml : c.maxLocals = 1 := hml0
  have hown : s.vm.findClass "java/lang/Record" = some m.cls := findClass_of_methodNamed Bd.named
  have hnm := (name_of_methodNamed Bd.named Bd.method).1
  have X0 : Stand p l e ({ frames := 1, cells := 0, slots := 0, locals := 12 } : Room) s m #[(.ref a)] below meth c s₁ [] 0 0 := Stand.of_body Bd
  have e0 : s₁.heap = h0 := by rw [← hh, Bd.state]; rfl
  have N0 := Fr.nil n0
  have k0 : ∀ t, Steps p.tables e below (s₁.setTop (mkF m 0 #[.val (.ref a)] [])) t → Steps p.tables e below (s₁.setTop (entryFrame m #[(.ref a)] 1)) t := fun t k => castTop (ef_5 m a) k
  obtain ⟨T1, X1, e1, st1⟩ := initO X0 hx hZ hown (hw _ (List.mem_of_getElem? (i := 22) rfl)) (hw _ (List.mem_of_getElem? (i := 23) rfl)) (hw _ (List.mem_of_getElem? (i := 24) rfl)) e0 (g := (mkF m 1 #[.val (.ref a)] [(.ref a)])) rfl (by rw [hml]; rfl) rfl (hb hby d5_1) (by decide) (W := 0) (by show 2 * 0 + _ ≤ _; exact Nat.le_of_eq rfl) (by decide)
  have k2 : ∀ t, Steps p.tables e below (T1.setTop (mkF m 4 #[.val (.ref a)] [])) t → Steps p.tables e below (s₁.setTop (entryFrame m #[(.ref a)] 1)) t := by
    intro t kt
    refine k0 t ?_
    refine XS.aloadN X0.here hx rfl (hb hby d5_0) rfl rfl ?_
    show Steps p.tables e below (s₁.setTop (mkF m 1 #[.val (.ref a)] [(.ref a)])) _
    refine st1 _ ?_
    show Steps p.tables e below (T1.setTop (mkF m 4 #[.val (.ref a)] [])) _
    exact kt
  obtain ⟨fs, hr, hrun, hended, hW, hsame⟩ := X1.leave (v := none) (fun _ => rfl)
  refine ⟨_, _, k2 _ (X1.returnOut hx Bd.returns (hb hby d5_4) hr), hrun, hended, _, _, rfl, ?_, ⟨_, rfl⟩, hW, hsame.mono (by decide) (by decide)⟩
  show Q5 Z a h0 n0 _ T1.heap _
  rw [e1]
  exact ⟨rfl, N0, rfl⟩
theorem d2_0 : decode prog_56_method_2_code 0 = .ok (.iload_n 0, 1) := by decide +kernel
theorem d2_1 : decode prog_56_method_2_code 1 = .ok (.ifCond .lt 19, 3) := by decide +kernel
theorem d2_4 : decode prog_56_method_2_code 4 = .ok (.iload_n 1, 1) := by decide +kernel
theorem d2_5 : decode prog_56_method_2_code 5 = .ok (.iload_n 0, 1) := by decide +kernel
theorem d2_6 : decode prog_56_method_2_code 6 = .ok (.if_icmp .lt 14, 3) := by decide +kernel
theorem d2_9 : decode prog_56_method_2_code 9 = .ok (.iload_n 1, 1) := by decide +kernel
theorem d2_10 : decode prog_56_method_2_code 10 = .ok (.sipush 1440, 3) := by decide +kernel
theorem d2_13 : decode prog_56_method_2_code 13 = .ok (.if_icmp .ge 7, 3) := by decide +kernel
theorem d2_16 : decode prog_56_method_2_code 16 = .ok (.iconst 1, 1) := by decide +kernel
theorem d2_17 : decode prog_56_method_2_code 17 = .ok (.goto 4, 3) := by decide +kernel
theorem d2_20 : decode prog_56_method_2_code 20 = .ok (.iconst 0, 1) := by decide +kernel
theorem d2_21 : decode prog_56_method_2_code 21 = .ok (.ireturn, 1) := by decide +kernel
theorem pn_2 : plainName "com/example/tidegate/tidegate/model/OperatingDay" = true := by first | (simp [plainName, overriddenIn]; done) | decide +kernel
theorem ef_2 (m : MethodId) (x0 : Int32) (x1 : Int32) : entryFrame m #[(.int x0), (.int x1)] 2 = mkF m 0 #[.val (.int x0), .val (.int x1)] [] := by first | (simp [entryFrame, mkF, argsToLocals, Value.category]; done) | rfl
def own_isday (o : Int32) (cl : Int32) : Int32 := (if o < (0 : Int32) then (0 : Int32) else (if cl < o then (0 : Int32) else (if cl < (1440 : Int32) then (1 : Int32) else (0 : Int32))))
theorem own_eq_own_isday (o : Int32) (cl : Int32) : own_isday o cl = (if o < (0 : Int32) then (0 : Int32) else (if cl < o then (0 : Int32) else (if cl < (1440 : Int32) then (1 : Int32) else (0 : Int32)))) := rfl
def Q2 (Z : State) (o : Int32) (cl : Int32) (h0 : Heap) (n0 : Nat) (rv_ : Option Value) (h : Heap) (LL_ : List Loc) : Prop := rv_ = some (.int (own_isday o cl)) ∧ Fr n0 LL_ ∧ h = h0
set_option maxRecDepth 65536 in
set_option maxHeartbeats 40000000 in
theorem rm2 (l : Launch) (Z : State) (a0 : Array Value) (hw : ∀ d ∈ tables_1, d.before a0 Z = true) (ws : List Jvm.Cond) (o : Int32) (cl : Int32) (h0 : Heap) (n0 : Nat) :
    MetFree l (⟨"com/example/tidegate/tidegate/model/OperatingDay", "isDay", "(II)Z"⟩ : MethodName) (head1 (Jvm.Cond.code (⟨"com/example/tidegate/tidegate/model/OperatingDay", "isDay", "(II)Z"⟩ : MethodName) prog_56_method_2_code 2 (some .boolean) :: ws) ({ frames := 0, cells := 0, slots := 0, locals := 0 } : Room)) (fun aa UU => aa = #[(.int o), (.int cl)] ∧ Z.Warmed39 UU.vm ∧ UU.heap = h0) (fun _ _ _ _ _ => True) (fun _ UU oo UV => ∃ vv LL, oo = .returned vv ∧ Q2 Z o cl h0 n0 vv UV.heap LL ∧ FrameEnd UU oo UV LL ({ frames := 0, cells := 0, slots := 0, locals := 0 } : Room).cells ({ frames := 0, cells := 0, slots := 0, locals := 0 } : Room).slots) := by
  refine MetFree.of_bodySF (plainFor_of_name pn_2) hisR ?_
  intro p e s m args below meth c s₁ Bd hml0 hP hK
  obtain ⟨rfl, hZ, hh⟩ := hP
  have hx := Bd.exec
  have hby := Bd.bytes
  have hml : c.maxLocals = 2 := hml0
  have hown : s.vm.findClass "com/example/tidegate/tidegate/model/OperatingDay" = some m.cls := findClass_of_methodNamed Bd.named
  have hnm := (name_of_methodNamed Bd.named Bd.method).1
  have X0 : Stand p l e ({ frames := 0, cells := 0, slots := 0, locals := 0 } : Room) s m #[(.int o), (.int cl)] below meth c s₁ [] 0 0 := Stand.of_body Bd
  have e0 : s₁.heap = h0 := by rw [← hh, Bd.state]; rfl
  have N0 := Fr.nil n0
  have k0 : ∀ t, Steps p.tables e below (s₁.setTop (mkF m 0 #[.val (.int o), .val (.int cl)] [])) t → Steps p.tables e below (s₁.setTop (entryFrame m #[(.int o), (.int cl)] 2)) t := fun t k => castTop (ef_2 m o cl) k
  have k3 : ∀ t, Steps p.tables e below (s₁.setTop (mkF m 1 #[.val (.int o), .val (.int cl)] [(.int o)])) t → Steps p.tables e below (s₁.setTop (entryFrame m #[(.int o), (.int cl)] 2)) t := by
    intro t kt
    refine k0 t ?_
    refine XS.iloadN X0.here hx rfl (hb hby d2_0) rfl ?_
    show Steps p.tables e below (s₁.setTop (mkF m 1 #[.val (.int o), .val (.int cl)] [(.int o)])) _
    exact kt
  by_cases hc1_4 : o < (0 : Int32)
  · have k5 : ∀ t, Steps p.tables e below (s₁.setTop (mkF m 21 #[.val (.int o), .val (.int cl)] [(.int (0 : Int32))])) t → Steps p.tables e below (s₁.setTop (entryFrame m #[(.int o), (.int cl)] 2)) t := by
      intro t kt
      refine k3 t ?_
      refine XS.ifYes X0.here hx rfl (pc0 := 1) (pc' := 20) rfl (hb hby d2_1) rfl ((if0 _ _).trans (tlt hc1_4).1) (by decide) (by decide) ?_
      show Steps p.tables e below (s₁.setTop (mkF m 20 #[.val (.int o), .val (.int cl)] [])) _
      refine XS.iconst X0.here hx rfl (hb hby d2_20) ?_
      show Steps p.tables e below (s₁.setTop (mkF m 21 #[.val (.int o), .val (.int cl)] [(.int (0 : Int32))])) _
      exact kt
    obtain ⟨fs, hr, hrun, hended, hW, hsame⟩ := X0.leave (v := some (.int (0 : Int32))) (fun h => by rw [Bd.returns] at h; cases h)
    refine ⟨_, _, k5 _ (retN X0 hx (t := .boolean) Bd.returns (by simp) (hb hby d2_21) hr), hrun, hended, _, _, rfl, ?_, ⟨_, rfl⟩, hW, hsame.mono (by decide) (by decide)⟩
    show Q2 Z o cl h0 n0 _ s₁.heap _
    rw [e0]
    exact ⟨(by rw [own_eq_own_isday]; rw [if_pos hc1_4]), N0, rfl⟩
  · have k6 : ∀ t, Steps p.tables e below (s₁.setTop (mkF m 6 #[.val (.int o), .val (.int cl)] [(.int o), (.int cl)])) t → Steps p.tables e below (s₁.setTop (entryFrame m #[(.int o), (.int cl)] 2)) t := by
      intro t kt
      refine k3 t ?_
      refine XS.ifNo X0.here hx rfl (hb hby d2_1) rfl ((if0 _ _).trans (flt hc1_4).1) ?_
      show Steps p.tables e below (s₁.setTop (mkF m 4 #[.val (.int o), .val (.int cl)] [])) _
      refine XS.iloadN X0.here hx rfl (hb hby d2_4) rfl ?_
      show Steps p.tables e below (s₁.setTop (mkF m 5 #[.val (.int o), .val (.int cl)] [(.int cl)])) _
      refine XS.iloadN X0.here hx rfl (hb hby d2_5) rfl ?_
      show Steps p.tables e below (s₁.setTop (mkF m 6 #[.val (.int o), .val (.int cl)] [(.int o), (.int cl)])) _
      exact kt
    by_cases hc6_7 : cl < o
    · have k8 : ∀ t, Steps p.tables e below (s₁.setTop (mkF m 21 #[.val (.int o), .val (.int cl)] [(.int (0 : Int32))])) t → Steps p.tables e below (s₁.setTop (entryFrame m #[(.int o), (.int cl)] 2)) t := by
        intro t kt
        refine k6 t ?_
        refine XS.icmpYes X0.here hx rfl (pc0 := 6) (pc' := 20) rfl (hb hby d2_6) rfl (tlt hc6_7).1 (by decide) (by decide) ?_
        show Steps p.tables e below (s₁.setTop (mkF m 20 #[.val (.int o), .val (.int cl)] [])) _
        refine XS.iconst X0.here hx rfl (hb hby d2_20) ?_
        show Steps p.tables e below (s₁.setTop (mkF m 21 #[.val (.int o), .val (.int cl)] [(.int (0 : Int32))])) _
        exact kt
      obtain ⟨fs, hr, hrun, hended, hW, hsame⟩ := X0.leave (v := some (.int (0 : Int32))) (fun h => by rw [Bd.returns] at h; cases h)
      refine ⟨_, _, k8 _ (retN X0 hx (t := .boolean) Bd.returns (by simp) (hb hby d2_21) hr), hrun, hended, _, _, rfl, ?_, ⟨_, rfl⟩, hW, hsame.mono (by decide) (by decide)⟩
      show Q2 Z o cl h0 n0 _ s₁.heap _
      rw [e0]
      exact ⟨(by rw [own_eq_own_isday]; rw [if_neg hc1_4, if_pos hc6_7]), N0, rfl⟩
    · have k9 : ∀ t, Steps p.tables e below (s₁.setTop (mkF m 13 #[.val (.int o), .val (.int cl)] [(.int (1440 : Int32)), (.int cl)])) t → Steps p.tables e below (s₁.setTop (entryFrame m #[(.int o), (.int cl)] 2)) t := by
        intro t kt
        refine k6 t ?_
        refine XS.icmpNo X0.here hx rfl (hb hby d2_6) rfl (flt hc6_7).1 ?_
        show Steps p.tables e below (s₁.setTop (mkF m 9 #[.val (.int o), .val (.int cl)] [])) _
        refine XS.iloadN X0.here hx rfl (hb hby d2_9) rfl ?_
        show Steps p.tables e below (s₁.setTop (mkF m 10 #[.val (.int o), .val (.int cl)] [(.int cl)])) _
        refine XS.sipush X0.here hx rfl (hb hby d2_10) ?_
        show Steps p.tables e below (s₁.setTop (mkF m 13 #[.val (.int o), .val (.int cl)] [(.int (1440 : Int32)), (.int cl)])) _
        exact kt
      by_cases hc13_10 : cl < (1440 : Int32)
      · have k11 : ∀ t, Steps p.tables e below (s₁.setTop (mkF m 21 #[.val (.int o), .val (.int cl)] [(.int (1 : Int32))])) t → Steps p.tables e below (s₁.setTop (entryFrame m #[(.int o), (.int cl)] 2)) t := by
          intro t kt
          refine k9 t ?_
          refine XS.icmpNo X0.here hx rfl (hb hby d2_13) rfl (tlt hc13_10).2.1 ?_
          show Steps p.tables e below (s₁.setTop (mkF m 16 #[.val (.int o), .val (.int cl)] [])) _
          refine XS.iconst X0.here hx rfl (hb hby d2_16) ?_
          show Steps p.tables e below (s₁.setTop (mkF m 17 #[.val (.int o), .val (.int cl)] [(.int (1 : Int32))])) _
          refine XS.goto X0.here hx rfl (pc0 := 17) (pc' := 21) rfl (hb hby d2_17) (by decide) (by decide) ?_
          show Steps p.tables e below (s₁.setTop (mkF m 21 #[.val (.int o), .val (.int cl)] [(.int (1 : Int32))])) _
          exact kt
        obtain ⟨fs, hr, hrun, hended, hW, hsame⟩ := X0.leave (v := some (.int (1 : Int32))) (fun h => by rw [Bd.returns] at h; cases h)
        refine ⟨_, _, k11 _ (retN X0 hx (t := .boolean) Bd.returns (by simp) (hb hby d2_21) hr), hrun, hended, _, _, rfl, ?_, ⟨_, rfl⟩, hW, hsame.mono (by decide) (by decide)⟩
        show Q2 Z o cl h0 n0 _ s₁.heap _
        rw [e0]
        exact ⟨(by rw [own_eq_own_isday]; rw [if_neg hc1_4, if_neg hc6_7, if_pos hc13_10]), N0, rfl⟩
      · have k12 : ∀ t, Steps p.tables e below (s₁.setTop (mkF m 21 #[.val (.int o), .val (.int cl)] [(.int (0 : Int32))])) t → Steps p.tables e below (s₁.setTop (entryFrame m #[(.int o), (.int cl)] 2)) t := by
          intro t kt
          refine k9 t ?_
          refine XS.icmpYes X0.here hx rfl (pc0 := 13) (pc' := 20) rfl (hb hby d2_13) rfl (flt hc13_10).2.1 (by decide) (by decide) ?_
          show Steps p.tables e below (s₁.setTop (mkF m 20 #[.val (.int o), .val (.int cl)] [])) _
          refine XS.iconst X0.here hx rfl (hb hby d2_20) ?_
          show Steps p.tables e below (s₁.setTop (mkF m 21 #[.val (.int o), .val (.int cl)] [(.int (0 : Int32))])) _
          exact kt
        obtain ⟨fs, hr, hrun, hended, hW, hsame⟩ := X0.leave (v := some (.int (0 : Int32))) (fun h => by rw [Bd.returns] at h; cases h)
        refine ⟨_, _, k12 _ (retN X0 hx (t := .boolean) Bd.returns (by simp) (hb hby d2_21) hr), hrun, hended, _, _, rfl, ?_, ⟨_, rfl⟩, hW, hsame.mono (by decide) (by decide)⟩
        show Q2 Z o cl h0 n0 _ s₁.heap _
        rw [e0]
        exact ⟨(by rw [own_eq_own_isday]; rw [if_neg hc1_4, if_neg hc6_7, if_neg hc13_10]), N0, rfl⟩
theorem pd_4 : parseMethodDescriptor "()V" = some ⟨[], none⟩ := by decide +kernel
theorem pd_1 : parseMethodDescriptor "(II)Z" = some ⟨[.int, .int], some .boolean⟩ := by decide +kernel
theorem d4_0 : decode prog_56_method_1_code 0 = .ok (.aload_n 0, 1) := by decide +kernel
theorem d4_1 : decode prog_56_method_1_code 1 = .ok (.invokespecial 1, 3) := by decide +kernel
theorem d4_4 : decode prog_56_method_1_code 4 = .ok (.iload_n 1, 1) := by decide +kernel
theorem d4_5 : decode prog_56_method_1_code 5 = .ok (.iload_n 2, 1) := by decide +kernel
theorem d4_6 : decode prog_56_method_1_code 6 = .ok (.invokestatic 7, 3) := by decide +kernel
theorem d4_9 : decode prog_56_method_1_code 9 = .ok (.ifCond .ne 18, 3) := by decide +kernel
theorem d4_27 : decode prog_56_method_1_code 27 = .ok (.aload_n 0, 1) := by decide +kernel
theorem d4_28 : decode prog_56_method_1_code 28 = .ok (.iload_n 1, 1) := by decide +kernel
theorem d4_29 : decode prog_56_method_1_code 29 = .ok (.putfield 22, 3) := by decide +kernel
theorem d4_32 : decode prog_56_method_1_code 32 = .ok (.aload_n 0, 1) := by decide +kernel
theorem d4_33 : decode prog_56_method_1_code 33 = .ok (.iload_n 2, 1) := by decide +kernel
theorem d4_34 : decode prog_56_method_1_code 34 = .ok (.putfield 26, 3) := by decide +kernel
theorem d4_37 : decode prog_56_method_1_code 37 = .ok (.return_, 1) := by decide +kernel
theorem pn_4 : plainName "com/example/tidegate/tidegate/model/OperatingDay" = true := by first | (simp [plainName, overriddenIn]; done) | decide +kernel
theorem ef_4 (m : MethodId) (x0 : Addr) (x1 : Int32) (x2 : Int32) : entryFrame m #[(.ref x0), (.int x1), (.int x2)] 3 = mkF m 0 #[.val (.ref x0), .val (.int x1), .val (.int x2)] [] := by first | (simp [entryFrame, mkF, argsToLocals, Value.category]; done) | rfl
def Q4 (Z : State) (a : Addr) (o : Int32) (cl : Int32) (h0 : Heap) (n0 : Nat) (rv_ : Option Value) (h : Heap) (LL_ : List Loc) : Prop := rv_ = none ∧ Fr n0 LL_ ∧ Keep h0 h [a] ∧ Fld Z h a "com/example/tidegate/tidegate/model/OperatingDay" "open" "I" (.int o) ∧ Fld Z h a "com/example/tidegate/tidegate/model/OperatingDay" "close" "I" (.int cl)
set_option maxRecDepth 65536 in
set_option maxHeartbeats 40000000 in
theorem rm4 (l : Launch) (Z : State) (a0 : Array Value) (hw : ∀ d ∈ tables_1, d.before a0 Z = true) (ws : List Jvm.Cond) (a : Addr) (o : Int32) (cl : Int32) (h0 : Heap) (n0 : Nat) (Z0 : n0 ≤ h0.size) (E_a : Exa Z h0 a "com/example/tidegate/tidegate/model/OperatingDay") (F_a_open : Fld Z h0 a "com/example/tidegate/tidegate/model/OperatingDay" "open" "I" (.int (0 : Int32))) (F_a_close : Fld Z h0 a "com/example/tidegate/tidegate/model/OperatingDay" "close" "I" (.int (0 : Int32))) (g_a : n0 ≤ a) (hday : ¬ (own_isday o cl) = (0 : Int32)) :
    MetFree l (⟨"com/example/tidegate/tidegate/model/OperatingDay", "<init>", "(II)V"⟩ : MethodName) (head1 (Jvm.Cond.code (⟨"com/example/tidegate/tidegate/model/OperatingDay", "<init>", "(II)V"⟩ : MethodName) prog_56_method_1_code 3 none :: ws) ({ frames := 2, cells := 0, slots := 0, locals := 24 } : Room)) (fun aa UU => aa = #[(.ref a), (.int o), (.int cl)] ∧ Z.Warmed39 UU.vm ∧ UU.heap = h0) (fun _ _ _ _ _ => True) (fun _ UU oo UV => ∃ vv LL, oo = .returned vv ∧ Q4 Z a o cl h0 n0 vv UV.heap LL ∧ FrameEnd UU oo UV LL ({ frames := 2, cells := 0, slots := 0, locals := 24 } : Room).cells ({ frames := 2, cells := 0, slots := 0, locals := 24 } : Room).slots) := by
  refine MetFree.of_bodySF (plainFor_of_name pn_4) hisR ?_
  intro p e s m args below meth c s₁ Bd hml0 hP hK
  obtain ⟨rfl, hZ, hh⟩ := hP
  have hx := Bd.exec
  have hby := Bd.bytes
  have hml : c.maxLocals = 3 := hml0
  have hown : s.vm.findClass "com/example/tidegate/tidegate/model/OperatingDay" = some m.cls := findClass_of_methodNamed Bd.named
  have hnm := (name_of_methodNamed Bd.named Bd.method).1
  have X0 : Stand p l e ({ frames := 2, cells := 0, slots := 0, locals := 24 } : Room) s m #[(.ref a), (.int o), (.int cl)] below meth c s₁ [] 0 0 := Stand.of_body Bd
  have e0 : s₁.heap = h0 := by rw [← hh, Bd.state]; rfl
  have N0 := Fr.nil n0
  have k0 : ∀ t, Steps p.tables e below (s₁.setTop (mkF m 0 #[.val (.ref a), .val (.int o), .val (.int cl)] [])) t → Steps p.tables e below (s₁.setTop (entryFrame m #[(.ref a), (.int o), (.int cl)] 3)) t := fun t k => castTop (ef_4 m a o cl) k
  obtain ⟨_, _, ⟨T13, L13, kc13, nc13⟩, -, X13, ⟨Lc13, hQ13, l13, y13, z13⟩, st13⟩ := X0.specialBack hx (y := (⟨"java/lang/Record", "<init>", "()V"⟩ : MethodName)) rfl hown (mvT hZ (hw _ (List.mem_of_getElem? (i := 17) rfl))) (mvT hZ (hw _ (List.mem_of_getElem? (i := 18) rfl))) (mvT hZ (hw _ (List.mem_of_getElem? (i := 21) rfl))) (by decide) (backOf (W := 0) (rm5 l Z a0 hw [] a h0 n0 ) hZ (hw _ (List.mem_of_getElem? (i := 21) rfl)) (hw _ (List.mem_of_getElem? (i := 20) rfl)) (by decide) (by decide)) (g := (mkF m 1 #[.val (.ref a), .val (.int o), .val (.int cl)] [(.ref a)])) rfl (by rw [hml]; rfl) (Steps.refl _) (a := a) (argsL := []) (rest := []) (lenOf pd_4 rfl) rfl (by show 2 * 0 + _ ≤ _; exact Nat.le_of_eq rfl) (hb hby d4_1) (fun _ _ => ⟨rfl, e0, (by decide : 0 + 0 ≤ _), (by decide : 0 + 0 ≤ _)⟩)
  dsimp only [Pt.U, Pt.locs, Pt.cells, Pt.slots] at X13 l13 y13 z13 st13 hQ13
  subst l13 y13 z13
  obtain ⟨rfl, Nq13, eq13⟩ := hQ13
  have N13 := Fr.app N0 Nq13
  obtain ⟨_, _, ⟨T14, L14, kc14, nc14⟩, -, X14, ⟨Lc14, hQ14, l14, y14, z14⟩, st14⟩ := Jvm.LawKit.callS X13 hx (y := (⟨"com/example/tidegate/tidegate/model/OperatingDay", "isDay", "(II)Z"⟩ : MethodName)) hown (mvT hZ (hw _ (List.mem_of_getElem? (i := 25) rfl))) (mvT hZ (hw _ (List.mem_of_getElem? (i := 5) rfl))) (mvT hZ (hw _ (List.mem_of_getElem? (i := 6) rfl))) (mvT hZ (hw _ (List.mem_of_getElem? (i := 7) rfl))) (by decide) (backOf (W := 0) (rm2 l Z a0 hw [] o cl h0 n0 ) hZ (hw _ (List.mem_of_getElem? (i := 7) rfl)) (hw _ (List.mem_of_getElem? (i := 6) rfl)) (by decide) (by decide)) (g := (mkF m 6 #[.val (.ref a), .val (.int o), .val (.int cl)] [(.int cl), (.int o)])) rfl (by rw [hml]; rfl) (argsL := [(.int o), (.int cl)]) (rest := []) (lenOf pd_1 rfl) rfl (by show 2 * 0 + _ ≤ _; exact Nat.le_of_eq rfl) (hb hby d4_6) (fun _ _ => ⟨rfl, eq13, (by decide : 0 + 0 ≤ _), (by decide : 0 + 0 ≤ _)⟩)
  dsimp only [Pt.U, Pt.locs, Pt.cells, Pt.slots] at X14 l14 y14 z14 st14 hQ14
  subst l14 y14 z14
  obtain ⟨rfl, Nq14, eq14⟩ := hQ14
  have N14 := Fr.app N13 Nq14
  have hc9_15 : ¬ ((own_isday o cl) = (0 : Int32)) := hday
  obtain ⟨T16, h16, X16, e16, W16, st16⟩ := putF X14 hx hZ hown (host := "") (Or.inl (hw _ (List.mem_of_getElem? (i := 26) rfl))) Via.refl eq14 F_a_open E_a (Or.inr ⟨(hw _ (List.mem_of_getElem? (i := 27) rfl)), rfl, hnm⟩) (hw _ (List.mem_of_getElem? (i := 13) rfl)) (ty := .int) (by decide) rfl rfl (g := (mkF m 29 #[.val (.ref a), .val (.int o), .val (.int cl)] [(.int o), (.ref a)])) rfl rfl (hb hby d4_29)
  have N16 := Fr.snoc X16 N14 g_a
  have F16 := Fld.same W16 F_a_open
  have f17 := (Fld.other W16 F_a_close (Or.inr (slot_ne (Or.inr (hw _ (List.mem_of_getElem? (i := 29) rfl))) (Or.inr (hw _ (List.mem_of_getElem? (i := 27) rfl))) (by decide) (t := .int) (t' := .int) (by decide) (by decide))))
  have f18 := (E_a.keep (Keep.of_wr W16))
  obtain ⟨T19, h19, X19, e19, W19, st19⟩ := putF X16 hx hZ hown (host := "") (Or.inl (hw _ (List.mem_of_getElem? (i := 28) rfl))) Via.refl e16 f17 f18 (Or.inr ⟨(hw _ (List.mem_of_getElem? (i := 29) rfl)), rfl, hnm⟩) (hw _ (List.mem_of_getElem? (i := 13) rfl)) (ty := .int) (by decide) rfl rfl (g := (mkF m 34 #[.val (.ref a), .val (.int o), .val (.int cl)] [(.int cl), (.ref a)])) rfl rfl (hb hby d4_34)
  have N19 := Fr.snoc X19 N16 g_a
  have F19 := Fld.same W19 f17
  have k20 : ∀ t, Steps p.tables e below (T19.setTop (mkF m 37 #[.val (.ref a), .val (.int o), .val (.int cl)] [])) t → Steps p.tables e below (s₁.setTop (entryFrame m #[(.ref a), (.int o), (.int cl)] 3)) t := by
    intro t kt
    refine k0 t ?_
    refine XS.aloadN X0.here hx rfl (hb hby d4_0) rfl rfl ?_
    show Steps p.tables e below (s₁.setTop (mkF m 1 #[.val (.ref a), .val (.int o), .val (.int cl)] [(.ref a)])) _
    refine st13.trans ?_
    show Steps p.tables e below (T13.setTop (mkF m 4 #[.val (.ref a), .val (.int o), .val (.int cl)] [])) _
    refine XS.iloadN X13.here hx rfl (hb hby d4_4) rfl ?_
    show Steps p.tables e below (T13.setTop (mkF m 5 #[.val (.ref a), .val (.int o), .val (.int cl)] [(.int o)])) _
    refine XS.iloadN X13.here hx rfl (hb hby d4_5) rfl ?_
    show Steps p.tables e below (T13.setTop (mkF m 6 #[.val (.ref a), .val (.int o), .val (.int cl)] [(.int cl), (.int o)])) _
    refine st14 _ ?_
    show Steps p.tables e below (T14.setTop (mkF m 9 #[.val (.ref a), .val (.int o), .val (.int cl)] [(.int (own_isday o cl))])) _
    refine XS.ifYes X14.here hx rfl (pc0 := 9) (pc' := 27) rfl (hb hby d4_9) rfl ((if0 _ _).trans (feq hc9_15).2) (by decide) (by decide) ?_
    show Steps p.tables e below (T14.setTop (mkF m 27 #[.val (.ref a), .val (.int o), .val (.int cl)] [])) _
    refine XS.aloadN X14.here hx rfl (hb hby d4_27) rfl rfl ?_
    show Steps p.tables e below (T14.setTop (mkF m 28 #[.val (.ref a), .val (.int o), .val (.int cl)] [(.ref a)])) _
    refine XS.iloadN X14.here hx rfl (hb hby d4_28) rfl ?_
    show Steps p.tables e below (T14.setTop (mkF m 29 #[.val (.ref a), .val (.int o), .val (.int cl)] [(.int o), (.ref a)])) _
    refine st16 _ ?_
    show Steps p.tables e below (T16.setTop (mkF m 32 #[.val (.ref a), .val (.int o), .val (.int cl)] [])) _
    refine XS.aloadN X16.here hx rfl (hb hby d4_32) rfl rfl ?_
    show Steps p.tables e below (T16.setTop (mkF m 33 #[.val (.ref a), .val (.int o), .val (.int cl)] [(.ref a)])) _
    refine XS.iloadN X16.here hx rfl (hb hby d4_33) rfl ?_
    show Steps p.tables e below (T16.setTop (mkF m 34 #[.val (.ref a), .val (.int o), .val (.int cl)] [(.int cl), (.ref a)])) _
    refine st19 _ ?_
    show Steps p.tables e below (T19.setTop (mkF m 37 #[.val (.ref a), .val (.int o), .val (.int cl)] [])) _
    exact kt
  have f21 := (((Keep.refl h0 [a]).trans (Keep.of_wr W16) (allS (Or.inl (List.mem_of_getElem? (i := 0) rfl)) all0)).trans (Keep.of_wr W19) (allS (Or.inl (List.mem_of_getElem? (i := 0) rfl)) all0))
  have f22 := (Fld.other W19 F16 (Or.inr (slot_ne (Or.inr (hw _ (List.mem_of_getElem? (i := 27) rfl))) (Or.inr (hw _ (List.mem_of_getElem? (i := 29) rfl))) (by decide) (t := .int) (t' := .int) (by decide) (by decide))))
  obtain ⟨fs, hr, hrun, hended, hW, hsame⟩ := X19.leave (v := none) (fun _ => rfl)
  refine ⟨_, _, k20 _ (X19.returnOut hx Bd.returns (hb hby d4_37) hr), hrun, hended, _, _, rfl, ?_, ⟨_, rfl⟩, hW, hsame.mono (by decide) (by decide)⟩
  show Q4 Z a o cl h0 n0 _ T19.heap _
  rw [e19]
  exact ⟨rfl, N19, f21, f22, F19⟩
theorem d9_0 : decode prog_56_method_7_code 0 = .ok (.iload_n 1, 1) := by decide +kernel
theorem d9_1 : decode prog_56_method_7_code 1 = .ok (.aload_n 0, 1) := by decide +kernel
theorem d9_2 : decode prog_56_method_7_code 2 = .ok (.getfield 22, 3) := by decide +kernel
theorem d9_5 : decode prog_56_method_7_code 5 = .ok (.if_icmp .lt 15, 3) := by decide +kernel
theorem d9_8 : decode prog_56_method_7_code 8 = .ok (.iload_n 1, 1) := by decide +kernel
theorem d9_9 : decode prog_56_method_7_code 9 = .ok (.aload_n 0, 1) := by decide +kernel
theorem d9_10 : decode prog_56_method_7_code 10 = .ok (.getfield 26, 3) := by decide +kernel
theorem d9_13 : decode prog_56_method_7_code 13 = .ok (.if_icmp .gt 7, 3) := by decide +kernel
theorem d9_16 : decode prog_56_method_7_code 16 = .ok (.iconst 1, 1) := by decide +kernel
theorem d9_17 : decode prog_56_method_7_code 17 = .ok (.goto 4, 3) := by decide +kernel
theorem d9_20 : decode prog_56_method_7_code 20 = .ok (.iconst 0, 1) := by decide +kernel
theorem d9_21 : decode prog_56_method_7_code 21 = .ok (.ireturn, 1) := by decide +kernel
theorem pn_9 : plainName "com/example/tidegate/tidegate/model/OperatingDay" = true := by first | (simp [plainName, overriddenIn]; done) | decide +kernel
theorem ef_9 (m : MethodId) (x0 : Addr) (x1 : Int32) : entryFrame m #[(.ref x0), (.int x1)] 2 = mkF m 0 #[.val (.ref x0), .val (.int x1)] [] := by first | (simp [entryFrame, mkF, argsToLocals, Value.category]; done) | rfl
def own_cm (mi : Int32) (o : Int32) (cl : Int32) : Int32 := (if mi < o then (0 : Int32) else (if cl < mi then (0 : Int32) else (1 : Int32)))
theorem own_eq_own_cm (mi : Int32) (o : Int32) (cl : Int32) : own_cm mi o cl = (if mi < o then (0 : Int32) else (if cl < mi then (0 : Int32) else (1 : Int32))) := rfl
def Q9 (Z : State) (a : Addr) (mi : Int32) (o : Int32) (cl : Int32) (h0 : Heap) (n0 : Nat) (rv_ : Option Value) (h : Heap) (LL_ : List Loc) : Prop := rv_ = some (.int (own_cm mi o cl)) ∧ Fr n0 LL_ ∧ h = h0
set_option maxRecDepth 65536 in
set_option maxHeartbeats 40000000 in
theorem rm9 (l : Launch) (Z : State) (a0 : Array Value) (hw : ∀ d ∈ tables_1, d.before a0 Z = true) (ws : List Jvm.Cond) (a : Addr) (mi : Int32) (o : Int32) (cl : Int32) (h0 : Heap) (n0 : Nat) (F_a_open : Fld Z h0 a "com/example/tidegate/tidegate/model/OperatingDay" "open" "I" (.int o)) (F_a_close : Fld Z h0 a "com/example/tidegate/tidegate/model/OperatingDay" "close" "I" (.int cl)) :
    MetFree l (⟨"com/example/tidegate/tidegate/model/OperatingDay", "containsMinute", "(I)Z"⟩ : MethodName) (head1 (Jvm.Cond.code (⟨"com/example/tidegate/tidegate/model/OperatingDay", "containsMinute", "(I)Z"⟩ : MethodName) prog_56_method_7_code 2 (some .boolean) :: ws) ({ frames := 0, cells := 0, slots := 0, locals := 0 } : Room)) (fun aa UU => aa = #[(.ref a), (.int mi)] ∧ Z.Warmed39 UU.vm ∧ UU.heap = h0) (fun _ _ _ _ _ => True) (fun _ UU oo UV => ∃ vv LL, oo = .returned vv ∧ Q9 Z a mi o cl h0 n0 vv UV.heap LL ∧ FrameEnd UU oo UV LL ({ frames := 0, cells := 0, slots := 0, locals := 0 } : Room).cells ({ frames := 0, cells := 0, slots := 0, locals := 0 } : Room).slots) := by
  refine MetFree.of_bodySF (plainFor_of_name pn_9) hisR ?_
  intro p e s m args below meth c s₁ Bd hml0 hP hK
  obtain ⟨rfl, hZ, hh⟩ := hP
  have hx := Bd.exec
  have hby := Bd.bytes
  have hml : c.maxLocals = 2 := hml0
  have hown : s.vm.findClass "com/example/tidegate/tidegate/model/OperatingDay" = some m.cls := findClass_of_methodNamed Bd.named
  have hnm := (name_of_methodNamed Bd.named Bd.method).1
  have X0 : Stand p l e ({ frames := 0, cells := 0, slots := 0, locals := 0 } : Room) s m #[(.ref a), (.int mi)] below meth c s₁ [] 0 0 := Stand.of_body Bd
  have e0 : s₁.heap = h0 := by rw [← hh, Bd.state]; rfl
  have N0 := Fr.nil n0
  have k0 : ∀ t, Steps p.tables e below (s₁.setTop (mkF m 0 #[.val (.ref a), .val (.int mi)] [])) t → Steps p.tables e below (s₁.setTop (entryFrame m #[(.ref a), (.int mi)] 2)) t := fun t k => castTop (ef_9 m a mi) k
  obtain ⟨T23, X23, e23, st23⟩ := getF X0 hx hZ hown (host := "") (Or.inl (hw _ (List.mem_of_getElem? (i := 26) rfl))) Via.refl e0 F_a_open (g := (mkF m 2 #[.val (.ref a), .val (.int mi)] [(.ref a), (.int mi)])) rfl rfl (hb hby d9_2)
  have k24 : ∀ t, Steps p.tables e below (T23.setTop (mkF m 5 #[.val (.ref a), .val (.int mi)] [(.int o), (.int mi)])) t → Steps p.tables e below (s₁.setTop (entryFrame m #[(.ref a), (.int mi)] 2)) t := by
    intro t kt
    refine k0 t ?_
    refine XS.iloadN X0.here hx rfl (hb hby d9_0) rfl ?_
    show Steps p.tables e below (s₁.setTop (mkF m 1 #[.val (.ref a), .val (.int mi)] [(.int mi)])) _
    refine XS.aloadN X0.here hx rfl (hb hby d9_1) rfl rfl ?_
    show Steps p.tables e below (s₁.setTop (mkF m 2 #[.val (.ref a), .val (.int mi)] [(.ref a), (.int mi)])) _
    refine st23 _ ?_
    show Steps p.tables e below (T23.setTop (mkF m 5 #[.val (.ref a), .val (.int mi)] [(.int o), (.int mi)])) _
    exact kt
  by_cases hc5_25 : mi < o
  · have k26 : ∀ t, Steps p.tables e below (T23.setTop (mkF m 21 #[.val (.ref a), .val (.int mi)] [(.int (0 : Int32))])) t → Steps p.tables e below (s₁.setTop (entryFrame m #[(.ref a), (.int mi)] 2)) t := by
      intro t kt
      refine k24 t ?_
      refine XS.icmpYes X23.here hx rfl (pc0 := 5) (pc' := 20) rfl (hb hby d9_5) rfl (tlt hc5_25).1 (by decide) (by decide) ?_
      show Steps p.tables e below (T23.setTop (mkF m 20 #[.val (.ref a), .val (.int mi)] [])) _
      refine XS.iconst X23.here hx rfl (hb hby d9_20) ?_
      show Steps p.tables e below (T23.setTop (mkF m 21 #[.val (.ref a), .val (.int mi)] [(.int (0 : Int32))])) _
      exact kt
    obtain ⟨fs, hr, hrun, hended, hW, hsame⟩ := X23.leave (v := some (.int (0 : Int32))) (fun h => by rw [Bd.returns] at h; cases h)
    refine ⟨_, _, k26 _ (retN X23 hx (t := .boolean) Bd.returns (by simp) (hb hby d9_21) hr), hrun, hended, _, _, rfl, ?_, ⟨_, rfl⟩, hW, hsame.mono (by decide) (by decide)⟩
    show Q9 Z a mi o cl h0 n0 _ T23.heap _
    rw [e23]
    exact ⟨(by rw [own_eq_own_cm]; rw [if_pos hc5_25]), N0, rfl⟩
  · obtain ⟨T27, X27, e27, st27⟩ := getF X23 hx hZ hown (host := "") (Or.inl (hw _ (List.mem_of_getElem? (i := 28) rfl))) Via.refl e23 F_a_close (g := (mkF m 10 #[.val (.ref a), .val (.int mi)] [(.ref a), (.int mi)])) rfl rfl (hb hby d9_10)
    have k28 : ∀ t, Steps p.tables e below (T27.setTop (mkF m 13 #[.val (.ref a), .val (.int mi)] [(.int cl), (.int mi)])) t → Steps p.tables e below (s₁.setTop (entryFrame m #[(.ref a), (.int mi)] 2)) t := by
      intro t kt
      refine k24 t ?_
      refine XS.icmpNo X23.here hx rfl (hb hby d9_5) rfl (flt hc5_25).1 ?_
      show Steps p.tables e below (T23.setTop (mkF m 8 #[.val (.ref a), .val (.int mi)] [])) _
      refine XS.iloadN X23.here hx rfl (hb hby d9_8) rfl ?_
      show Steps p.tables e below (T23.setTop (mkF m 9 #[.val (.ref a), .val (.int mi)] [(.int mi)])) _
      refine XS.aloadN X23.here hx rfl (hb hby d9_9) rfl rfl ?_
      show Steps p.tables e below (T23.setTop (mkF m 10 #[.val (.ref a), .val (.int mi)] [(.ref a), (.int mi)])) _
      refine st27 _ ?_
      show Steps p.tables e below (T27.setTop (mkF m 13 #[.val (.ref a), .val (.int mi)] [(.int cl), (.int mi)])) _
      exact kt
    by_cases hc13_29 : cl < mi
    · have k30 : ∀ t, Steps p.tables e below (T27.setTop (mkF m 21 #[.val (.ref a), .val (.int mi)] [(.int (0 : Int32))])) t → Steps p.tables e below (s₁.setTop (entryFrame m #[(.ref a), (.int mi)] 2)) t := by
        intro t kt
        refine k28 t ?_
        refine XS.icmpYes X27.here hx rfl (pc0 := 13) (pc' := 20) rfl (hb hby d9_13) rfl (tlt hc13_29).2.2.1 (by decide) (by decide) ?_
        show Steps p.tables e below (T27.setTop (mkF m 20 #[.val (.ref a), .val (.int mi)] [])) _
        refine XS.iconst X27.here hx rfl (hb hby d9_20) ?_
        show Steps p.tables e below (T27.setTop (mkF m 21 #[.val (.ref a), .val (.int mi)] [(.int (0 : Int32))])) _
        exact kt
      obtain ⟨fs, hr, hrun, hended, hW, hsame⟩ := X27.leave (v := some (.int (0 : Int32))) (fun h => by rw [Bd.returns] at h; cases h)
      refine ⟨_, _, k30 _ (retN X27 hx (t := .boolean) Bd.returns (by simp) (hb hby d9_21) hr), hrun, hended, _, _, rfl, ?_, ⟨_, rfl⟩, hW, hsame.mono (by decide) (by decide)⟩
      show Q9 Z a mi o cl h0 n0 _ T27.heap _
      rw [e27]
      exact ⟨(by rw [own_eq_own_cm]; rw [if_neg hc5_25, if_pos hc13_29]), N0, rfl⟩
    · have k31 : ∀ t, Steps p.tables e below (T27.setTop (mkF m 21 #[.val (.ref a), .val (.int mi)] [(.int (1 : Int32))])) t → Steps p.tables e below (s₁.setTop (entryFrame m #[(.ref a), (.int mi)] 2)) t := by
        intro t kt
        refine k28 t ?_
        refine XS.icmpNo X27.here hx rfl (hb hby d9_13) rfl (flt hc13_29).2.2.1 ?_
        show Steps p.tables e below (T27.setTop (mkF m 16 #[.val (.ref a), .val (.int mi)] [])) _
        refine XS.iconst X27.here hx rfl (hb hby d9_16) ?_
        show Steps p.tables e below (T27.setTop (mkF m 17 #[.val (.ref a), .val (.int mi)] [(.int (1 : Int32))])) _
        refine XS.goto X27.here hx rfl (pc0 := 17) (pc' := 21) rfl (hb hby d9_17) (by decide) (by decide) ?_
        show Steps p.tables e below (T27.setTop (mkF m 21 #[.val (.ref a), .val (.int mi)] [(.int (1 : Int32))])) _
        exact kt
      obtain ⟨fs, hr, hrun, hended, hW, hsame⟩ := X27.leave (v := some (.int (1 : Int32))) (fun h => by rw [Bd.returns] at h; cases h)
      refine ⟨_, _, k31 _ (retN X27 hx (t := .boolean) Bd.returns (by simp) (hb hby d9_21) hr), hrun, hended, _, _, rfl, ?_, ⟨_, rfl⟩, hW, hsame.mono (by decide) (by decide)⟩
      show Q9 Z a mi o cl h0 n0 _ T27.heap _
      rw [e27]
      exact ⟨(by rw [own_eq_own_cm]; rw [if_neg hc5_25, if_neg hc13_29]), N0, rfl⟩
theorem d8_0 : decode prog_56_method_5_code 0 = .ok (.aload_n 0, 1) := by decide +kernel
theorem d8_1 : decode prog_56_method_5_code 1 = .ok (.getfield 26, 3) := by decide +kernel
theorem d8_4 : decode prog_56_method_5_code 4 = .ok (.iconst 1, 1) := by decide +kernel
theorem d8_5 : decode prog_56_method_5_code 5 = .ok (.iadd, 1) := by decide +kernel
theorem d8_6 : decode prog_56_method_5_code 6 = .ok (.bipush 60, 2) := by decide +kernel
theorem d8_8 : decode prog_56_method_5_code 8 = .ok (.imul, 1) := by decide +kernel
theorem d8_9 : decode prog_56_method_5_code 9 = .ok (.ireturn, 1) := by decide +kernel
theorem pn_8 : plainName "com/example/tidegate/tidegate/model/OperatingDay" = true := by first | (simp [plainName, overriddenIn]; done) | decide +kernel
theorem ef_8 (m : MethodId) (x0 : Addr) : entryFrame m #[(.ref x0)] 1 = mkF m 0 #[.val (.ref x0)] [] := by first | (simp [entryFrame, mkF, argsToLocals, Value.category]; done) | rfl
def Q8 (Z : State) (a : Addr) (cl : Int32) (h0 : Heap) (n0 : Nat) (rv_ : Option Value) (h : Heap) (LL_ : List Loc) : Prop := rv_ = some (.int ((cl + (1 : Int32)) * (60 : Int32))) ∧ Fr n0 LL_ ∧ h = h0
set_option maxRecDepth 65536 in
set_option maxHeartbeats 40000000 in
theorem rm8 (l : Launch) (Z : State) (a0 : Array Value) (hw : ∀ d ∈ tables_1, d.before a0 Z = true) (ws : List Jvm.Cond) (a : Addr) (cl : Int32) (h0 : Heap) (n0 : Nat) (F_a_close : Fld Z h0 a "com/example/tidegate/tidegate/model/OperatingDay" "close" "I" (.int cl)) :
    MetFree l (⟨"com/example/tidegate/tidegate/model/OperatingDay", "end", "()I"⟩ : MethodName) (head1 (Jvm.Cond.code (⟨"com/example/tidegate/tidegate/model/OperatingDay", "end", "()I"⟩ : MethodName) prog_56_method_5_code 1 (some .int) :: ws) ({ frames := 0, cells := 0, slots := 0, locals := 0 } : Room)) (fun aa UU => aa = #[(.ref a)] ∧ Z.Warmed39 UU.vm ∧ UU.heap = h0) (fun _ _ _ _ _ => True) (fun _ UU oo UV => ∃ vv LL, oo = .returned vv ∧ Q8 Z a cl h0 n0 vv UV.heap LL ∧ FrameEnd UU oo UV LL ({ frames := 0, cells := 0, slots := 0, locals := 0 } : Room).cells ({ frames := 0, cells := 0, slots := 0, locals := 0 } : Room).slots) := by
  refine MetFree.of_bodySF (plainFor_of_name pn_8) hisR ?_
  intro p e s m args below meth c s₁ Bd hml0 hP hK
  obtain ⟨rfl, hZ, hh⟩ := hP
  have hx := Bd.exec
  have hby := Bd.bytes
  have hml : c.maxLocals = 1 := hml0
  have hown : s.vm.findClass "com/example/tidegate/tidegate/model/OperatingDay" = some m.cls := findClass_of_methodNamed Bd.named
  have hnm := (name_of_methodNamed Bd.named Bd.method).1
  have X0 : Stand p l e ({ frames := 0, cells := 0, slots := 0, locals := 0 } : Room) s m #[(.ref a)] below meth c s₁ [] 0 0 := Stand.of_body Bd
  have e0 : s₁.heap = h0 := by rw [← hh, Bd.state]; rfl
  have N0 := Fr.nil n0
  have k0 : ∀ t, Steps p.tables e below (s₁.setTop (mkF m 0 #[.val (.ref a)] [])) t → Steps p.tables e below (s₁.setTop (entryFrame m #[(.ref a)] 1)) t := fun t k => castTop (ef_8 m a) k
  obtain ⟨T32, X32, e32, st32⟩ := getF X0 hx hZ hown (host := "") (Or.inl (hw _ (List.mem_of_getElem? (i := 28) rfl))) Via.refl e0 F_a_close (g := (mkF m 1 #[.val (.ref a)] [(.ref a)])) rfl rfl (hb hby d8_1)
  have k33 : ∀ t, Steps p.tables e below (T32.setTop (mkF m 9 #[.val (.ref a)] [(.int ((cl + (1 : Int32)) * (60 : Int32)))])) t → Steps p.tables e below (s₁.setTop (entryFrame m #[(.ref a)] 1)) t := by
    intro t kt
    refine k0 t ?_
    refine XS.aloadN X0.here hx rfl (hb hby d8_0) rfl rfl ?_
    show Steps p.tables e below (s₁.setTop (mkF m 1 #[.val (.ref a)] [(.ref a)])) _
    refine st32 _ ?_
    show Steps p.tables e below (T32.setTop (mkF m 4 #[.val (.ref a)] [(.int cl)])) _
    refine XS.iconst X32.here hx rfl (hb hby d8_4) ?_
    show Steps p.tables e below (T32.setTop (mkF m 5 #[.val (.ref a)] [(.int (1 : Int32)), (.int cl)])) _
    refine XS.iadd X32.here hx rfl (hb hby d8_5) rfl ?_
    show Steps p.tables e below (T32.setTop (mkF m 6 #[.val (.ref a)] [(.int (cl + (1 : Int32)))])) _
    refine XS.bipush X32.here hx rfl (hb hby d8_6) ?_
    show Steps p.tables e below (T32.setTop (mkF m 8 #[.val (.ref a)] [(.int (60 : Int32)), (.int (cl + (1 : Int32)))])) _
    refine XS.imul X32.here hx rfl (hb hby d8_8) rfl ?_
    show Steps p.tables e below (T32.setTop (mkF m 9 #[.val (.ref a)] [(.int ((cl + (1 : Int32)) * (60 : Int32)))])) _
    exact kt
  obtain ⟨fs, hr, hrun, hended, hW, hsame⟩ := X32.leave (v := some (.int ((cl + (1 : Int32)) * (60 : Int32)))) (fun h => by rw [Bd.returns] at h; cases h)
  refine ⟨_, _, k33 _ (retI X32 hx Bd.returns (hb hby d8_9) hr), hrun, hended, _, _, rfl, ?_, ⟨_, rfl⟩, hW, hsame.mono (by decide) (by decide)⟩
  show Q8 Z a cl h0 n0 _ T32.heap _
  rw [e32]
  exact ⟨rfl, N0, rfl⟩
theorem d7_0 : decode prog_56_method_3_code 0 = .ok (.aload_n 0, 1) := by decide +kernel
theorem d7_1 : decode prog_56_method_3_code 1 = .ok (.getfield 26, 3) := by decide +kernel
theorem d7_4 : decode prog_56_method_3_code 4 = .ok (.aload_n 0, 1) := by decide +kernel
theorem d7_5 : decode prog_56_method_3_code 5 = .ok (.getfield 22, 3) := by decide +kernel
theorem d7_8 : decode prog_56_method_3_code 8 = .ok (.isub, 1) := by decide +kernel
theorem d7_9 : decode prog_56_method_3_code 9 = .ok (.iconst 1, 1) := by decide +kernel
theorem d7_10 : decode prog_56_method_3_code 10 = .ok (.iadd, 1) := by decide +kernel
theorem d7_11 : decode prog_56_method_3_code 11 = .ok (.ireturn, 1) := by decide +kernel
theorem pn_7 : plainName "com/example/tidegate/tidegate/model/OperatingDay" = true := by first | (simp [plainName, overriddenIn]; done) | decide +kernel
theorem ef_7 (m : MethodId) (x0 : Addr) : entryFrame m #[(.ref x0)] 1 = mkF m 0 #[.val (.ref x0)] [] := by first | (simp [entryFrame, mkF, argsToLocals, Value.category]; done) | rfl
def Q7 (Z : State) (a : Addr) (o : Int32) (cl : Int32) (h0 : Heap) (n0 : Nat) (rv_ : Option Value) (h : Heap) (LL_ : List Loc) : Prop := rv_ = some (.int ((cl - o) + (1 : Int32))) ∧ Fr n0 LL_ ∧ h = h0
set_option maxRecDepth 65536 in
set_option maxHeartbeats 40000000 in
theorem rm7 (l : Launch) (Z : State) (a0 : Array Value) (hw : ∀ d ∈ tables_1, d.before a0 Z = true) (ws : List Jvm.Cond) (a : Addr) (o : Int32) (cl : Int32) (h0 : Heap) (n0 : Nat) (F_a_open : Fld Z h0 a "com/example/tidegate/tidegate/model/OperatingDay" "open" "I" (.int o)) (F_a_close : Fld Z h0 a "com/example/tidegate/tidegate/model/OperatingDay" "close" "I" (.int cl)) :
    MetFree l (⟨"com/example/tidegate/tidegate/model/OperatingDay", "minutes", "()I"⟩ : MethodName) (head1 (Jvm.Cond.code (⟨"com/example/tidegate/tidegate/model/OperatingDay", "minutes", "()I"⟩ : MethodName) prog_56_method_3_code 1 (some .int) :: ws) ({ frames := 0, cells := 0, slots := 0, locals := 0 } : Room)) (fun aa UU => aa = #[(.ref a)] ∧ Z.Warmed39 UU.vm ∧ UU.heap = h0) (fun _ _ _ _ _ => True) (fun _ UU oo UV => ∃ vv LL, oo = .returned vv ∧ Q7 Z a o cl h0 n0 vv UV.heap LL ∧ FrameEnd UU oo UV LL ({ frames := 0, cells := 0, slots := 0, locals := 0 } : Room).cells ({ frames := 0, cells := 0, slots := 0, locals := 0 } : Room).slots) := by
  refine MetFree.of_bodySF (plainFor_of_name pn_7) hisR ?_
  intro p e s m args below meth c s₁ Bd hml0 hP hK
  obtain ⟨rfl, hZ, hh⟩ := hP
  have hx := Bd.exec
  have hby := Bd.bytes
  have hml : c.maxLocals = 1 := hml0
  have hown : s.vm.findClass "com/example/tidegate/tidegate/model/OperatingDay" = some m.cls := findClass_of_methodNamed Bd.named
  have hnm := (name_of_methodNamed Bd.named Bd.method).1
  have X0 : Stand p l e ({ frames := 0, cells := 0, slots := 0, locals := 0 } : Room) s m #[(.ref a)] below meth c s₁ [] 0 0 := Stand.of_body Bd
  have e0 : s₁.heap = h0 := by rw [← hh, Bd.state]; rfl
  have N0 := Fr.nil n0
  have k0 : ∀ t, Steps p.tables e below (s₁.setTop (mkF m 0 #[.val (.ref a)] [])) t → Steps p.tables e below (s₁.setTop (entryFrame m #[(.ref a)] 1)) t := fun t k => castTop (ef_7 m a) k
  obtain ⟨T34, X34, e34, st34⟩ := getF X0 hx hZ hown (host := "") (Or.inl (hw _ (List.mem_of_getElem? (i := 28) rfl))) Via.refl e0 F_a_close (g := (mkF m 1 #[.val (.ref a)] [(.ref a)])) rfl rfl (hb hby d7_1)
  obtain ⟨T35, X35, e35, st35⟩ := getF X34 hx hZ hown (host := "") (Or.inl (hw _ (List.mem_of_getElem? (i := 26) rfl))) Via.refl e34 F_a_open (g := (mkF m 5 #[.val (.ref a)] [(.ref a), (.int cl)])) rfl rfl (hb hby d7_5)
  have k36 : ∀ t, Steps p.tables e below (T35.setTop (mkF m 11 #[.val (.ref a)] [(.int ((cl - o) + (1 : Int32)))])) t → Steps p.tables e below (s₁.setTop (entryFrame m #[(.ref a)] 1)) t := by
    intro t kt
    refine k0 t ?_
    refine XS.aloadN X0.here hx rfl (hb hby d7_0) rfl rfl ?_
    show Steps p.tables e below (s₁.setTop (mkF m 1 #[.val (.ref a)] [(.ref a)])) _
    refine st34 _ ?_
    show Steps p.tables e below (T34.setTop (mkF m 4 #[.val (.ref a)] [(.int cl)])) _
    refine XS.aloadN X34.here hx rfl (hb hby d7_4) rfl rfl ?_
    show Steps p.tables e below (T34.setTop (mkF m 5 #[.val (.ref a)] [(.ref a), (.int cl)])) _
    refine st35 _ ?_
    show Steps p.tables e below (T35.setTop (mkF m 8 #[.val (.ref a)] [(.int o), (.int cl)])) _
    refine XS.isub X35.here hx rfl (hb hby d7_8) rfl ?_
    show Steps p.tables e below (T35.setTop (mkF m 9 #[.val (.ref a)] [(.int (cl - o))])) _
    refine XS.iconst X35.here hx rfl (hb hby d7_9) ?_
    show Steps p.tables e below (T35.setTop (mkF m 10 #[.val (.ref a)] [(.int (1 : Int32)), (.int (cl - o))])) _
    refine XS.iadd X35.here hx rfl (hb hby d7_10) rfl ?_
    show Steps p.tables e below (T35.setTop (mkF m 11 #[.val (.ref a)] [(.int ((cl - o) + (1 : Int32)))])) _
    exact kt
  obtain ⟨fs, hr, hrun, hended, hW, hsame⟩ := X35.leave (v := some (.int ((cl - o) + (1 : Int32)))) (fun h => by rw [Bd.returns] at h; cases h)
  refine ⟨_, _, k36 _ (retI X35 hx Bd.returns (hb hby d7_11) hr), hrun, hended, _, _, rfl, ?_, ⟨_, rfl⟩, hW, hsame.mono (by decide) (by decide)⟩
  show Q7 Z a o cl h0 n0 _ T35.heap _
  rw [e35]
  exact ⟨rfl, N0, rfl⟩
theorem d1_0 : decode method_2_code 0 = .ok (.iload_n 1, 1) := by decide +kernel
theorem d1_1 : decode method_2_code 1 = .ok (.ifCond .ne 5, 3) := by decide +kernel
theorem d1_4 : decode method_2_code 4 = .ok (.iload_n 0, 1) := by decide +kernel
theorem d1_5 : decode method_2_code 5 = .ok (.ireturn, 1) := by decide +kernel
theorem d1_6 : decode method_2_code 6 = .ok (.iload_n 1, 1) := by decide +kernel
theorem d1_7 : decode method_2_code 7 = .ok (.iconst 1, 1) := by decide +kernel
theorem d1_8 : decode method_2_code 8 = .ok (.if_icmp .ne 14, 3) := by decide +kernel
theorem d1_11 : decode method_2_code 11 = .ok (.iload_n 0, 1) := by decide +kernel
theorem d1_12 : decode method_2_code 12 = .ok (.ldc 7, 2) := by decide +kernel
theorem d1_14 : decode method_2_code 14 = .ok (.iand, 1) := by decide +kernel
theorem d1_15 : decode method_2_code 15 = .ok (.sipush 1442, 3) := by decide +kernel
theorem d1_18 : decode method_2_code 18 = .ok (.irem, 1) := by decide +kernel
theorem d1_19 : decode method_2_code 19 = .ok (.iconst 1, 1) := by decide +kernel
theorem d1_20 : decode method_2_code 20 = .ok (.isub, 1) := by decide +kernel
theorem d1_21 : decode method_2_code 21 = .ok (.ireturn, 1) := by decide +kernel
theorem d1_22 : decode method_2_code 22 = .ok (.iload_n 1, 1) := by decide +kernel
theorem d1_23 : decode method_2_code 23 = .ok (.iconst 2, 1) := by decide +kernel
theorem d1_24 : decode method_2_code 24 = .ok (.if_icmp .ne 22, 3) := by decide +kernel
theorem d1_27 : decode method_2_code 27 = .ok (.iload_n 0, 1) := by decide +kernel
theorem d1_28 : decode method_2_code 28 = .ok (.ifCond .lt 13, 3) := by decide +kernel
theorem d1_31 : decode method_2_code 31 = .ok (.sipush 1438, 3) := by decide +kernel
theorem d1_34 : decode method_2_code 34 = .ok (.iload_n 0, 1) := by decide +kernel
theorem d1_35 : decode method_2_code 35 = .ok (.iconst 3, 1) := by decide +kernel
theorem d1_36 : decode method_2_code 36 = .ok (.iand, 1) := by decide +kernel
theorem d1_37 : decode method_2_code 37 = .ok (.iadd, 1) := by decide +kernel
theorem d1_38 : decode method_2_code 38 = .ok (.goto 7, 3) := by decide +kernel
theorem d1_41 : decode method_2_code 41 = .ok (.iload_n 0, 1) := by decide +kernel
theorem d1_42 : decode method_2_code 42 = .ok (.iconst 3, 1) := by decide +kernel
theorem d1_43 : decode method_2_code 43 = .ok (.iand, 1) := by decide +kernel
theorem d1_44 : decode method_2_code 44 = .ok (.ineg, 1) := by decide +kernel
theorem d1_45 : decode method_2_code 45 = .ok (.ireturn, 1) := by decide +kernel
theorem d1_46 : decode method_2_code 46 = .ok (.iload_n 0, 1) := by decide +kernel
theorem d1_47 : decode method_2_code 47 = .ok (.ifCond .ge 12, 3) := by decide +kernel
theorem d1_50 : decode method_2_code 50 = .ok (.ldc 10, 2) := by decide +kernel
theorem d1_52 : decode method_2_code 52 = .ok (.iload_n 0, 1) := by decide +kernel
theorem d1_53 : decode method_2_code 53 = .ok (.iconst 3, 1) := by decide +kernel
theorem d1_54 : decode method_2_code 54 = .ok (.iand, 1) := by decide +kernel
theorem d1_55 : decode method_2_code 55 = .ok (.iadd, 1) := by decide +kernel
theorem d1_56 : decode method_2_code 56 = .ok (.goto 9, 3) := by decide +kernel
theorem d1_59 : decode method_2_code 59 = .ok (.ldc 7, 2) := by decide +kernel
theorem d1_61 : decode method_2_code 61 = .ok (.iload_n 0, 1) := by decide +kernel
theorem d1_62 : decode method_2_code 62 = .ok (.iconst 3, 1) := by decide +kernel
theorem d1_63 : decode method_2_code 63 = .ok (.iand, 1) := by decide +kernel
theorem d1_64 : decode method_2_code 64 = .ok (.isub, 1) := by decide +kernel
theorem d1_65 : decode method_2_code 65 = .ok (.ireturn, 1) := by decide +kernel
theorem pn_1 : plainName "com/example/tidegate/tidegate/model/OperatingDayIsDayPinLaw" = true := by first | (simp [plainName, overriddenIn]; done) | decide +kernel
theorem ef_1 (m : MethodId) (x0 : Int32) (x1 : Int32) : entryFrame m #[(.int x0), (.int x1)] 2 = mkF m 0 #[.val (.int x0), .val (.int x1)] [] := by first | (simp [entryFrame, mkF, argsToLocals, Value.category]; done) | rfl
def own_pick (p0 : Int32) (p1 : Int32) : Int32 := (if p1 = (0 : Int32) then p0 else (if p1 = (1 : Int32) then (((p0 &&& (2147483647 : Int32)) % (1442 : Int32)) - (1 : Int32)) else (if p1 = (2 : Int32) then (if p0 < (0 : Int32) then (-(p0 &&& (3 : Int32))) else ((1438 : Int32) + (p0 &&& (3 : Int32)))) else (if p0 < (0 : Int32) then ((-2147483648 : Int32) + (p0 &&& (3 : Int32))) else ((2147483647 : Int32) - (p0 &&& (3 : Int32)))))))
theorem own_eq_own_pick (p0 : Int32) (p1 : Int32) : own_pick p0 p1 = (if p1 = (0 : Int32) then p0 else (if p1 = (1 : Int32) then (((p0 &&& (2147483647 : Int32)) % (1442 : Int32)) - (1 : Int32)) else (if p1 = (2 : Int32) then (if p0 < (0 : Int32) then (-(p0 &&& (3 : Int32))) else ((1438 : Int32) + (p0 &&& (3 : Int32)))) else (if p0 < (0 : Int32) then ((-2147483648 : Int32) + (p0 &&& (3 : Int32))) else ((2147483647 : Int32) - (p0 &&& (3 : Int32))))))) := rfl
def Q1 (Z : State) (p0 : Int32) (p1 : Int32) (h0 : Heap) (n0 : Nat) (rv_ : Option Value) (h : Heap) (LL_ : List Loc) : Prop := rv_ = some (.int (own_pick p0 p1)) ∧ Fr n0 LL_ ∧ h = h0
set_option maxRecDepth 65536 in
set_option maxHeartbeats 40000000 in
theorem rm1 (l : Launch) (Z : State) (a0 : Array Value) (hw : ∀ d ∈ tables_1, d.before a0 Z = true) (ws : List Jvm.Cond) (p0 : Int32) (p1 : Int32) (h0 : Heap) (n0 : Nat) :
    MetFree l (⟨"com/example/tidegate/tidegate/model/OperatingDayIsDayPinLaw", "pick", "(II)I"⟩ : MethodName) (head1 (Jvm.Cond.code (⟨"com/example/tidegate/tidegate/model/OperatingDayIsDayPinLaw", "pick", "(II)I"⟩ : MethodName) method_2_code 2 (some .int) :: ws) ({ frames := 0, cells := 0, slots := 0, locals := 0 } : Room)) (fun aa UU => aa = #[(.int p0), (.int p1)] ∧ Z.Warmed39 UU.vm ∧ UU.heap = h0) (fun _ _ _ _ _ => True) (fun _ UU oo UV => ∃ vv LL, oo = .returned vv ∧ Q1 Z p0 p1 h0 n0 vv UV.heap LL ∧ FrameEnd UU oo UV LL ({ frames := 0, cells := 0, slots := 0, locals := 0 } : Room).cells ({ frames := 0, cells := 0, slots := 0, locals := 0 } : Room).slots) := by
  refine MetFree.of_bodySF (plainFor_of_name pn_1) hisR ?_
  intro p e s m args below meth c s₁ Bd hml0 hP hK
  obtain ⟨rfl, hZ, hh⟩ := hP
  have hx := Bd.exec
  have hby := Bd.bytes
  have hml : c.maxLocals = 2 := hml0
  have hown : s.vm.findClass "com/example/tidegate/tidegate/model/OperatingDayIsDayPinLaw" = some m.cls := findClass_of_methodNamed Bd.named
  have hnm := (name_of_methodNamed Bd.named Bd.method).1
  have X0 : Stand p l e ({ frames := 0, cells := 0, slots := 0, locals := 0 } : Room) s m #[(.int p0), (.int p1)] below meth c s₁ [] 0 0 := Stand.of_body Bd
  have e0 : s₁.heap = h0 := by rw [← hh, Bd.state]; rfl
  have N0 := Fr.nil n0
  have k0 : ∀ t, Steps p.tables e below (s₁.setTop (mkF m 0 #[.val (.int p0), .val (.int p1)] [])) t → Steps p.tables e below (s₁.setTop (entryFrame m #[(.int p0), (.int p1)] 2)) t := fun t k => castTop (ef_1 m p0 p1) k
  have k37 : ∀ t, Steps p.tables e below (s₁.setTop (mkF m 1 #[.val (.int p0), .val (.int p1)] [(.int p1)])) t → Steps p.tables e below (s₁.setTop (entryFrame m #[(.int p0), (.int p1)] 2)) t := by
    intro t kt
    refine k0 t ?_
    refine XS.iloadN X0.here hx rfl (hb hby d1_0) rfl ?_
    show Steps p.tables e below (s₁.setTop (mkF m 1 #[.val (.int p0), .val (.int p1)] [(.int p1)])) _
    exact kt
  by_cases hc1_38 : p1 = (0 : Int32)
  · have k39 : ∀ t, Steps p.tables e below (s₁.setTop (mkF m 5 #[.val (.int p0), .val (.int p1)] [(.int p0)])) t → Steps p.tables e below (s₁.setTop (entryFrame m #[(.int p0), (.int p1)] 2)) t := by
      intro t kt
      refine k37 t ?_
      refine XS.ifNo X0.here hx rfl (hb hby d1_1) rfl ((if0 _ _).trans (teq hc1_38).2) ?_
      show Steps p.tables e below (s₁.setTop (mkF m 4 #[.val (.int p0), .val (.int p1)] [])) _
      refine XS.iloadN X0.here hx rfl (hb hby d1_4) rfl ?_
      show Steps p.tables e below (s₁.setTop (mkF m 5 #[.val (.int p0), .val (.int p1)] [(.int p0)])) _
      exact kt
    obtain ⟨fs, hr, hrun, hended, hW, hsame⟩ := X0.leave (v := some (.int p0)) (fun h => by rw [Bd.returns] at h; cases h)
    refine ⟨_, _, k39 _ (retI X0 hx Bd.returns (hb hby d1_5) hr), hrun, hended, _, _, rfl, ?_, ⟨_, rfl⟩, hW, hsame.mono (by decide) (by decide)⟩
    show Q1 Z p0 p1 h0 n0 _ s₁.heap _
    rw [e0]
    exact ⟨(by rw [own_eq_own_pick]; rw [if_pos hc1_38]), N0, rfl⟩
  · have k40 : ∀ t, Steps p.tables e below (s₁.setTop (mkF m 8 #[.val (.int p0), .val (.int p1)] [(.int (1 : Int32)), (.int p1)])) t → Steps p.tables e below (s₁.setTop (entryFrame m #[(.int p0), (.int p1)] 2)) t := by
      intro t kt
      refine k37 t ?_
      refine XS.ifYes X0.here hx rfl (pc0 := 1) (pc' := 6) rfl (hb hby d1_1) rfl ((if0 _ _).trans (feq hc1_38).2) (by decide) (by decide) ?_
      show Steps p.tables e below (s₁.setTop (mkF m 6 #[.val (.int p0), .val (.int p1)] [])) _
      refine XS.iloadN X0.here hx rfl (hb hby d1_6) rfl ?_
      show Steps p.tables e below (s₁.setTop (mkF m 7 #[.val (.int p0), .val (.int p1)] [(.int p1)])) _
      refine XS.iconst X0.here hx rfl (hb hby d1_7) ?_
      show Steps p.tables e below (s₁.setTop (mkF m 8 #[.val (.int p0), .val (.int p1)] [(.int (1 : Int32)), (.int p1)])) _
      exact kt
    by_cases hc8_41 : p1 = (1 : Int32)
    · have k42 : ∀ t, Steps p.tables e below (s₁.setTop (mkF m 21 #[.val (.int p0), .val (.int p1)] [(.int (((p0 &&& (2147483647 : Int32)) % (1442 : Int32)) - (1 : Int32)))])) t → Steps p.tables e below (s₁.setTop (entryFrame m #[(.int p0), (.int p1)] 2)) t := by
        intro t kt
        refine k40 t ?_
        refine XS.icmpNo X0.here hx rfl (hb hby d1_8) rfl (teq hc8_41).2 ?_
        show Steps p.tables e below (s₁.setTop (mkF m 11 #[.val (.int p0), .val (.int p1)] [])) _
        refine XS.iloadN X0.here hx rfl (hb hby d1_11) rfl ?_
        show Steps p.tables e below (s₁.setTop (mkF m 12 #[.val (.int p0), .val (.int p1)] [(.int p0)])) _
        refine X0.ldcInt hx hown (mvT hZ (hw _ (List.mem_of_getElem? (i := 11) rfl))) (g := (mkF m 12 #[.val (.int p0), .val (.int p1)] [(.int p0)])) rfl (hb hby d1_12) _ ?_
        show Steps p.tables e below (s₁.setTop (mkF m 14 #[.val (.int p0), .val (.int p1)] [(.int (2147483647 : Int32)), (.int p0)])) _
        refine XS.iand X0.here hx rfl (hb hby d1_14) rfl ?_
        show Steps p.tables e below (s₁.setTop (mkF m 15 #[.val (.int p0), .val (.int p1)] [(.int (p0 &&& (2147483647 : Int32)))])) _
        refine XS.sipush X0.here hx rfl (hb hby d1_15) ?_
        show Steps p.tables e below (s₁.setTop (mkF m 18 #[.val (.int p0), .val (.int p1)] [(.int (1442 : Int32)), (.int (p0 &&& (2147483647 : Int32)))])) _
        refine iremM X0 hx rfl (hb hby d1_18) rfl (by decide) ?_
        show Steps p.tables e below (s₁.setTop (mkF m 19 #[.val (.int p0), .val (.int p1)] [(.int ((p0 &&& (2147483647 : Int32)) % (1442 : Int32)))])) _
        refine XS.iconst X0.here hx rfl (hb hby d1_19) ?_
        show Steps p.tables e below (s₁.setTop (mkF m 20 #[.val (.int p0), .val (.int p1)] [(.int (1 : Int32)), (.int ((p0 &&& (2147483647 : Int32)) % (1442 : Int32)))])) _
        refine XS.isub X0.here hx rfl (hb hby d1_20) rfl ?_
        show Steps p.tables e below (s₁.setTop (mkF m 21 #[.val (.int p0), .val (.int p1)] [(.int (((p0 &&& (2147483647 : Int32)) % (1442 : Int32)) - (1 : Int32)))])) _
        exact kt
      obtain ⟨fs, hr, hrun, hended, hW, hsame⟩ := X0.leave (v := some (.int (((p0 &&& (2147483647 : Int32)) % (1442 : Int32)) - (1 : Int32)))) (fun h => by rw [Bd.returns] at h; cases h)
      refine ⟨_, _, k42 _ (retI X0 hx Bd.returns (hb hby d1_21) hr), hrun, hended, _, _, rfl, ?_, ⟨_, rfl⟩, hW, hsame.mono (by decide) (by decide)⟩
      show Q1 Z p0 p1 h0 n0 _ s₁.heap _
      rw [e0]
      exact ⟨(by rw [own_eq_own_pick]; rw [if_neg hc1_38, if_pos hc8_41]), N0, rfl⟩
    · have k43 : ∀ t, Steps p.tables e below (s₁.setTop (mkF m 24 #[.val (.int p0), .val (.int p1)] [(.int (2 : Int32)), (.int p1)])) t → Steps p.tables e below (s₁.setTop (entryFrame m #[(.int p0), (.int p1)] 2)) t := by
        intro t kt
        refine k40 t ?_
        refine XS.icmpYes X0.here hx rfl (pc0 := 8) (pc' := 22) rfl (hb hby d1_8) rfl (feq hc8_41).2 (by decide) (by decide) ?_
        show Steps p.tables e below (s₁.setTop (mkF m 22 #[.val (.int p0), .val (.int p1)] [])) _
        refine XS.iloadN X0.here hx rfl (hb hby d1_22) rfl ?_
        show Steps p.tables e below (s₁.setTop (mkF m 23 #[.val (.int p0), .val (.int p1)] [(.int p1)])) _
        refine XS.iconst X0.here hx rfl (hb hby d1_23) ?_
        show Steps p.tables e below (s₁.setTop (mkF m 24 #[.val (.int p0), .val (.int p1)] [(.int (2 : Int32)), (.int p1)])) _
        exact kt
      by_cases hc24_44 : p1 = (2 : Int32)
      · have k45 : ∀ t, Steps p.tables e below (s₁.setTop (mkF m 28 #[.val (.int p0), .val (.int p1)] [(.int p0)])) t → Steps p.tables e below (s₁.setTop (entryFrame m #[(.int p0), (.int p1)] 2)) t := by
          intro t kt
          refine k43 t ?_
          refine XS.icmpNo X0.here hx rfl (hb hby d1_24) rfl (teq hc24_44).2 ?_
          show Steps p.tables e below (s₁.setTop (mkF m 27 #[.val (.int p0), .val (.int p1)] [])) _
          refine XS.iloadN X0.here hx rfl (hb hby d1_27) rfl ?_
          show Steps p.tables e below (s₁.setTop (mkF m 28 #[.val (.int p0), .val (.int p1)] [(.int p0)])) _
          exact kt
        by_cases hc28_46 : p0 < (0 : Int32)
        · have k47 : ∀ t, Steps p.tables e below (s₁.setTop (mkF m 45 #[.val (.int p0), .val (.int p1)] [(.int (-(p0 &&& (3 : Int32))))])) t → Steps p.tables e below (s₁.setTop (entryFrame m #[(.int p0), (.int p1)] 2)) t := by
            intro t kt
            refine k45 t ?_
            refine XS.ifYes X0.here hx rfl (pc0 := 28) (pc' := 41) rfl (hb hby d1_28) rfl ((if0 _ _).trans (tlt hc28_46).1) (by decide) (by decide) ?_
            show Steps p.tables e below (s₁.setTop (mkF m 41 #[.val (.int p0), .val (.int p1)] [])) _
            refine XS.iloadN X0.here hx rfl (hb hby d1_41) rfl ?_
            show Steps p.tables e below (s₁.setTop (mkF m 42 #[.val (.int p0), .val (.int p1)] [(.int p0)])) _
            refine XS.iconst X0.here hx rfl (hb hby d1_42) ?_
            show Steps p.tables e below (s₁.setTop (mkF m 43 #[.val (.int p0), .val (.int p1)] [(.int (3 : Int32)), (.int p0)])) _
            refine XS.iand X0.here hx rfl (hb hby d1_43) rfl ?_
            show Steps p.tables e below (s₁.setTop (mkF m 44 #[.val (.int p0), .val (.int p1)] [(.int (p0 &&& (3 : Int32)))])) _
            refine XS.ineg X0.here hx rfl (hb hby d1_44) rfl ?_
            show Steps p.tables e below (s₁.setTop (mkF m 45 #[.val (.int p0), .val (.int p1)] [(.int (-(p0 &&& (3 : Int32))))])) _
            exact kt
          obtain ⟨fs, hr, hrun, hended, hW, hsame⟩ := X0.leave (v := some (.int (-(p0 &&& (3 : Int32))))) (fun h => by rw [Bd.returns] at h; cases h)
          refine ⟨_, _, k47 _ (retI X0 hx Bd.returns (hb hby d1_45) hr), hrun, hended, _, _, rfl, ?_, ⟨_, rfl⟩, hW, hsame.mono (by decide) (by decide)⟩
          show Q1 Z p0 p1 h0 n0 _ s₁.heap _
          rw [e0]
          exact ⟨(by rw [own_eq_own_pick]; rw [if_neg hc1_38, if_neg hc8_41, if_pos hc24_44, if_pos hc28_46]), N0, rfl⟩
        · have k48 : ∀ t, Steps p.tables e below (s₁.setTop (mkF m 45 #[.val (.int p0), .val (.int p1)] [(.int ((1438 : Int32) + (p0 &&& (3 : Int32))))])) t → Steps p.tables e below (s₁.setTop (entryFrame m #[(.int p0), (.int p1)] 2)) t := by
            intro t kt
            refine k45 t ?_
            refine XS.ifNo X0.here hx rfl (hb hby d1_28) rfl ((if0 _ _).trans (flt hc28_46).1) ?_
            show Steps p.tables e below (s₁.setTop (mkF m 31 #[.val (.int p0), .val (.int p1)] [])) _
            refine XS.sipush X0.here hx rfl (hb hby d1_31) ?_
            show Steps p.tables e below (s₁.setTop (mkF m 34 #[.val (.int p0), .val (.int p1)] [(.int (1438 : Int32))])) _
            refine XS.iloadN X0.here hx rfl (hb hby d1_34) rfl ?_
            show Steps p.tables e below (s₁.setTop (mkF m 35 #[.val (.int p0), .val (.int p1)] [(.int p0), (.int (1438 : Int32))])) _
            refine XS.iconst X0.here hx rfl (hb hby d1_35) ?_
            show Steps p.tables e below (s₁.setTop (mkF m 36 #[.val (.int p0), .val (.int p1)] [(.int (3 : Int32)), (.int p0), (.int (1438 : Int32))])) _
            refine XS.iand X0.here hx rfl (hb hby d1_36) rfl ?_
            show Steps p.tables e below (s₁.setTop (mkF m 37 #[.val (.int p0), .val (.int p1)] [(.int (p0 &&& (3 : Int32))), (.int (1438 : Int32))])) _
            refine XS.iadd X0.here hx rfl (hb hby d1_37) rfl ?_
            show Steps p.tables e below (s₁.setTop (mkF m 38 #[.val (.int p0), .val (.int p1)] [(.int ((1438 : Int32) + (p0 &&& (3 : Int32))))])) _
            refine XS.goto X0.here hx rfl (pc0 := 38) (pc' := 45) rfl (hb hby d1_38) (by decide) (by decide) ?_
            show Steps p.tables e below (s₁.setTop (mkF m 45 #[.val (.int p0), .val (.int p1)] [(.int ((1438 : Int32) + (p0 &&& (3 : Int32))))])) _
            exact kt
          obtain ⟨fs, hr, hrun, hended, hW, hsame⟩ := X0.leave (v := some (.int ((1438 : Int32) + (p0 &&& (3 : Int32))))) (fun h => by rw [Bd.returns] at h; cases h)
          refine ⟨_, _, k48 _ (retI X0 hx Bd.returns (hb hby d1_45) hr), hrun, hended, _, _, rfl, ?_, ⟨_, rfl⟩, hW, hsame.mono (by decide) (by decide)⟩
          show Q1 Z p0 p1 h0 n0 _ s₁.heap _
          rw [e0]
          exact ⟨(by rw [own_eq_own_pick]; rw [if_neg hc1_38, if_neg hc8_41, if_pos hc24_44, if_neg hc28_46]), N0, rfl⟩
      · have k49 : ∀ t, Steps p.tables e below (s₁.setTop (mkF m 47 #[.val (.int p0), .val (.int p1)] [(.int p0)])) t → Steps p.tables e below (s₁.setTop (entryFrame m #[(.int p0), (.int p1)] 2)) t := by
          intro t kt
          refine k43 t ?_
          refine XS.icmpYes X0.here hx rfl (pc0 := 24) (pc' := 46) rfl (hb hby d1_24) rfl (feq hc24_44).2 (by decide) (by decide) ?_
          show Steps p.tables e below (s₁.setTop (mkF m 46 #[.val (.int p0), .val (.int p1)] [])) _
          refine XS.iloadN X0.here hx rfl (hb hby d1_46) rfl ?_
          show Steps p.tables e below (s₁.setTop (mkF m 47 #[.val (.int p0), .val (.int p1)] [(.int p0)])) _
          exact kt
        by_cases hc47_50 : p0 < (0 : Int32)
        · have k51 : ∀ t, Steps p.tables e below (s₁.setTop (mkF m 65 #[.val (.int p0), .val (.int p1)] [(.int ((-2147483648 : Int32) + (p0 &&& (3 : Int32))))])) t → Steps p.tables e below (s₁.setTop (entryFrame m #[(.int p0), (.int p1)] 2)) t := by
            intro t kt
            refine k49 t ?_
            refine XS.ifNo X0.here hx rfl (hb hby d1_47) rfl ((if0 _ _).trans (tlt hc47_50).2.1) ?_
            show Steps p.tables e below (s₁.setTop (mkF m 50 #[.val (.int p0), .val (.int p1)] [])) _
            refine X0.ldcInt hx hown (mvT hZ (hw _ (List.mem_of_getElem? (i := 46) rfl))) (g := (mkF m 50 #[.val (.int p0), .val (.int p1)] [])) rfl (hb hby d1_50) _ ?_
            show Steps p.tables e below (s₁.setTop (mkF m 52 #[.val (.int p0), .val (.int p1)] [(.int (-2147483648 : Int32))])) _
            refine XS.iloadN X0.here hx rfl (hb hby d1_52) rfl ?_
            show Steps p.tables e below (s₁.setTop (mkF m 53 #[.val (.int p0), .val (.int p1)] [(.int p0), (.int (-2147483648 : Int32))])) _
            refine XS.iconst X0.here hx rfl (hb hby d1_53) ?_
            show Steps p.tables e below (s₁.setTop (mkF m 54 #[.val (.int p0), .val (.int p1)] [(.int (3 : Int32)), (.int p0), (.int (-2147483648 : Int32))])) _
            refine XS.iand X0.here hx rfl (hb hby d1_54) rfl ?_
            show Steps p.tables e below (s₁.setTop (mkF m 55 #[.val (.int p0), .val (.int p1)] [(.int (p0 &&& (3 : Int32))), (.int (-2147483648 : Int32))])) _
            refine XS.iadd X0.here hx rfl (hb hby d1_55) rfl ?_
            show Steps p.tables e below (s₁.setTop (mkF m 56 #[.val (.int p0), .val (.int p1)] [(.int ((-2147483648 : Int32) + (p0 &&& (3 : Int32))))])) _
            refine XS.goto X0.here hx rfl (pc0 := 56) (pc' := 65) rfl (hb hby d1_56) (by decide) (by decide) ?_
            show Steps p.tables e below (s₁.setTop (mkF m 65 #[.val (.int p0), .val (.int p1)] [(.int ((-2147483648 : Int32) + (p0 &&& (3 : Int32))))])) _
            exact kt
          obtain ⟨fs, hr, hrun, hended, hW, hsame⟩ := X0.leave (v := some (.int ((-2147483648 : Int32) + (p0 &&& (3 : Int32))))) (fun h => by rw [Bd.returns] at h; cases h)
          refine ⟨_, _, k51 _ (retI X0 hx Bd.returns (hb hby d1_65) hr), hrun, hended, _, _, rfl, ?_, ⟨_, rfl⟩, hW, hsame.mono (by decide) (by decide)⟩
          show Q1 Z p0 p1 h0 n0 _ s₁.heap _
          rw [e0]
          exact ⟨(by rw [own_eq_own_pick]; rw [if_neg hc1_38, if_neg hc8_41, if_neg hc24_44, if_pos hc47_50]), N0, rfl⟩
        · have k52 : ∀ t, Steps p.tables e below (s₁.setTop (mkF m 65 #[.val (.int p0), .val (.int p1)] [(.int ((2147483647 : Int32) - (p0 &&& (3 : Int32))))])) t → Steps p.tables e below (s₁.setTop (entryFrame m #[(.int p0), (.int p1)] 2)) t := by
            intro t kt
            refine k49 t ?_
            refine XS.ifYes X0.here hx rfl (pc0 := 47) (pc' := 59) rfl (hb hby d1_47) rfl ((if0 _ _).trans (flt hc47_50).2.1) (by decide) (by decide) ?_
            show Steps p.tables e below (s₁.setTop (mkF m 59 #[.val (.int p0), .val (.int p1)] [])) _
            refine X0.ldcInt hx hown (mvT hZ (hw _ (List.mem_of_getElem? (i := 11) rfl))) (g := (mkF m 59 #[.val (.int p0), .val (.int p1)] [])) rfl (hb hby d1_59) _ ?_
            show Steps p.tables e below (s₁.setTop (mkF m 61 #[.val (.int p0), .val (.int p1)] [(.int (2147483647 : Int32))])) _
            refine XS.iloadN X0.here hx rfl (hb hby d1_61) rfl ?_
            show Steps p.tables e below (s₁.setTop (mkF m 62 #[.val (.int p0), .val (.int p1)] [(.int p0), (.int (2147483647 : Int32))])) _
            refine XS.iconst X0.here hx rfl (hb hby d1_62) ?_
            show Steps p.tables e below (s₁.setTop (mkF m 63 #[.val (.int p0), .val (.int p1)] [(.int (3 : Int32)), (.int p0), (.int (2147483647 : Int32))])) _
            refine XS.iand X0.here hx rfl (hb hby d1_63) rfl ?_
            show Steps p.tables e below (s₁.setTop (mkF m 64 #[.val (.int p0), .val (.int p1)] [(.int (p0 &&& (3 : Int32))), (.int (2147483647 : Int32))])) _
            refine XS.isub X0.here hx rfl (hb hby d1_64) rfl ?_
            show Steps p.tables e below (s₁.setTop (mkF m 65 #[.val (.int p0), .val (.int p1)] [(.int ((2147483647 : Int32) - (p0 &&& (3 : Int32))))])) _
            exact kt
          obtain ⟨fs, hr, hrun, hended, hW, hsame⟩ := X0.leave (v := some (.int ((2147483647 : Int32) - (p0 &&& (3 : Int32))))) (fun h => by rw [Bd.returns] at h; cases h)
          refine ⟨_, _, k52 _ (retI X0 hx Bd.returns (hb hby d1_65) hr), hrun, hended, _, _, rfl, ?_, ⟨_, rfl⟩, hW, hsame.mono (by decide) (by decide)⟩
          show Q1 Z p0 p1 h0 n0 _ s₁.heap _
          rw [e0]
          exact ⟨(by rw [own_eq_own_pick]; rw [if_neg hc1_38, if_neg hc8_41, if_neg hc24_44, if_neg hc47_50]), N0, rfl⟩
theorem d3_0 : decode method_3_code 0 = .ok (.iload_n 0, 1) := by decide +kernel
theorem d3_1 : decode method_3_code 1 = .ok (.ifCond .lt 14, 3) := by decide +kernel
theorem d3_4 : decode method_3_code 4 = .ok (.iload_n 0, 1) := by decide +kernel
theorem d3_5 : decode method_3_code 5 = .ok (.sipush 1439, 3) := by decide +kernel
theorem d3_8 : decode method_3_code 8 = .ok (.if_icmp .gt 7, 3) := by decide +kernel
theorem d3_11 : decode method_3_code 11 = .ok (.iconst 1, 1) := by decide +kernel
theorem d3_12 : decode method_3_code 12 = .ok (.goto 4, 3) := by decide +kernel
theorem d3_15 : decode method_3_code 15 = .ok (.iconst 0, 1) := by decide +kernel
theorem d3_16 : decode method_3_code 16 = .ok (.ireturn, 1) := by decide +kernel
theorem pn_3 : plainName "com/example/tidegate/tidegate/model/OperatingDayIsDayPinLaw" = true := by first | (simp [plainName, overriddenIn]; done) | decide +kernel
theorem ef_3 (m : MethodId) (x0 : Int32) : entryFrame m #[(.int x0)] 1 = mkF m 0 #[.val (.int x0)] [] := by first | (simp [entryFrame, mkF, argsToLocals, Value.category]; done) | rfl
def own_inday (p0 : Int32) : Int32 := (if p0 < (0 : Int32) then (0 : Int32) else (if (1439 : Int32) < p0 then (0 : Int32) else (1 : Int32)))
theorem own_eq_own_inday (p0 : Int32) : own_inday p0 = (if p0 < (0 : Int32) then (0 : Int32) else (if (1439 : Int32) < p0 then (0 : Int32) else (1 : Int32))) := rfl
def Q3 (Z : State) (p0 : Int32) (h0 : Heap) (n0 : Nat) (rv_ : Option Value) (h : Heap) (LL_ : List Loc) : Prop := rv_ = some (.int (own_inday p0)) ∧ Fr n0 LL_ ∧ h = h0
set_option maxRecDepth 65536 in
set_option maxHeartbeats 40000000 in
theorem rm3 (l : Launch) (Z : State) (a0 : Array Value) (hw : ∀ d ∈ tables_1, d.before a0 Z = true) (ws : List Jvm.Cond) (p0 : Int32) (h0 : Heap) (n0 : Nat) :
    MetFree l (⟨"com/example/tidegate/tidegate/model/OperatingDayIsDayPinLaw", "inDay", "(I)Z"⟩ : MethodName) (head1 (Jvm.Cond.code (⟨"com/example/tidegate/tidegate/model/OperatingDayIsDayPinLaw", "inDay", "(I)Z"⟩ : MethodName) method_3_code 1 (some .boolean) :: ws) ({ frames := 0, cells := 0, slots := 0, locals := 0 } : Room)) (fun aa UU => aa = #[(.int p0)] ∧ Z.Warmed39 UU.vm ∧ UU.heap = h0) (fun _ _ _ _ _ => True) (fun _ UU oo UV => ∃ vv LL, oo = .returned vv ∧ Q3 Z p0 h0 n0 vv UV.heap LL ∧ FrameEnd UU oo UV LL ({ frames := 0, cells := 0, slots := 0, locals := 0 } : Room).cells ({ frames := 0, cells := 0, slots := 0, locals := 0 } : Room).slots) := by
  refine MetFree.of_bodySF (plainFor_of_name pn_3) hisR ?_
  intro p e s m args below meth c s₁ Bd hml0 hP hK
  obtain ⟨rfl, hZ, hh⟩ := hP
  have hx := Bd.exec
  have hby := Bd.bytes
  have hml : c.maxLocals = 1 := hml0
  have hown : s.vm.findClass "com/example/tidegate/tidegate/model/OperatingDayIsDayPinLaw" = some m.cls := findClass_of_methodNamed Bd.named
  have hnm := (name_of_methodNamed Bd.named Bd.method).1
  have X0 : Stand p l e ({ frames := 0, cells := 0, slots := 0, locals := 0 } : Room) s m #[(.int p0)] below meth c s₁ [] 0 0 := Stand.of_body Bd
  have e0 : s₁.heap = h0 := by rw [← hh, Bd.state]; rfl
  have N0 := Fr.nil n0
  have k0 : ∀ t, Steps p.tables e below (s₁.setTop (mkF m 0 #[.val (.int p0)] [])) t → Steps p.tables e below (s₁.setTop (entryFrame m #[(.int p0)] 1)) t := fun t k => castTop (ef_3 m p0) k
  have k53 : ∀ t, Steps p.tables e below (s₁.setTop (mkF m 1 #[.val (.int p0)] [(.int p0)])) t → Steps p.tables e below (s₁.setTop (entryFrame m #[(.int p0)] 1)) t := by
    intro t kt
    refine k0 t ?_
    refine XS.iloadN X0.here hx rfl (hb hby d3_0) rfl ?_
    show Steps p.tables e below (s₁.setTop (mkF m 1 #[.val (.int p0)] [(.int p0)])) _
    exact kt
  by_cases hc1_54 : p0 < (0 : Int32)
  · have k55 : ∀ t, Steps p.tables e below (s₁.setTop (mkF m 16 #[.val (.int p0)] [(.int (0 : Int32))])) t → Steps p.tables e below (s₁.setTop (entryFrame m #[(.int p0)] 1)) t := by
      intro t kt
      refine k53 t ?_
      refine XS.ifYes X0.here hx rfl (pc0 := 1) (pc' := 15) rfl (hb hby d3_1) rfl ((if0 _ _).trans (tlt hc1_54).1) (by decide) (by decide) ?_
      show Steps p.tables e below (s₁.setTop (mkF m 15 #[.val (.int p0)] [])) _
      refine XS.iconst X0.here hx rfl (hb hby d3_15) ?_
      show Steps p.tables e below (s₁.setTop (mkF m 16 #[.val (.int p0)] [(.int (0 : Int32))])) _
      exact kt
    obtain ⟨fs, hr, hrun, hended, hW, hsame⟩ := X0.leave (v := some (.int (0 : Int32))) (fun h => by rw [Bd.returns] at h; cases h)
    refine ⟨_, _, k55 _ (retN X0 hx (t := .boolean) Bd.returns (by simp) (hb hby d3_16) hr), hrun, hended, _, _, rfl, ?_, ⟨_, rfl⟩, hW, hsame.mono (by decide) (by decide)⟩
    show Q3 Z p0 h0 n0 _ s₁.heap _
    rw [e0]
    exact ⟨(by rw [own_eq_own_inday]; rw [if_pos hc1_54]), N0, rfl⟩
  · have k56 : ∀ t, Steps p.tables e below (s₁.setTop (mkF m 8 #[.val (.int p0)] [(.int (1439 : Int32)), (.int p0)])) t → Steps p.tables e below (s₁.setTop (entryFrame m #[(.int p0)] 1)) t := by
      intro t kt
      refine k53 t ?_
      refine XS.ifNo X0.here hx rfl (hb hby d3_1) rfl ((if0 _ _).trans (flt hc1_54).1) ?_
      show Steps p.tables e below (s₁.setTop (mkF m 4 #[.val (.int p0)] [])) _
      refine XS.iloadN X0.here hx rfl (hb hby d3_4) rfl ?_
      show Steps p.tables e below (s₁.setTop (mkF m 5 #[.val (.int p0)] [(.int p0)])) _
      refine XS.sipush X0.here hx rfl (hb hby d3_5) ?_
      show Steps p.tables e below (s₁.setTop (mkF m 8 #[.val (.int p0)] [(.int (1439 : Int32)), (.int p0)])) _
      exact kt
    by_cases hc8_57 : (1439 : Int32) < p0
    · have k58 : ∀ t, Steps p.tables e below (s₁.setTop (mkF m 16 #[.val (.int p0)] [(.int (0 : Int32))])) t → Steps p.tables e below (s₁.setTop (entryFrame m #[(.int p0)] 1)) t := by
        intro t kt
        refine k56 t ?_
        refine XS.icmpYes X0.here hx rfl (pc0 := 8) (pc' := 15) rfl (hb hby d3_8) rfl (tlt hc8_57).2.2.1 (by decide) (by decide) ?_
        show Steps p.tables e below (s₁.setTop (mkF m 15 #[.val (.int p0)] [])) _
        refine XS.iconst X0.here hx rfl (hb hby d3_15) ?_
        show Steps p.tables e below (s₁.setTop (mkF m 16 #[.val (.int p0)] [(.int (0 : Int32))])) _
        exact kt
      obtain ⟨fs, hr, hrun, hended, hW, hsame⟩ := X0.leave (v := some (.int (0 : Int32))) (fun h => by rw [Bd.returns] at h; cases h)
      refine ⟨_, _, k58 _ (retN X0 hx (t := .boolean) Bd.returns (by simp) (hb hby d3_16) hr), hrun, hended, _, _, rfl, ?_, ⟨_, rfl⟩, hW, hsame.mono (by decide) (by decide)⟩
      show Q3 Z p0 h0 n0 _ s₁.heap _
      rw [e0]
      exact ⟨(by rw [own_eq_own_inday]; rw [if_neg hc1_54, if_pos hc8_57]), N0, rfl⟩
    · have k59 : ∀ t, Steps p.tables e below (s₁.setTop (mkF m 16 #[.val (.int p0)] [(.int (1 : Int32))])) t → Steps p.tables e below (s₁.setTop (entryFrame m #[(.int p0)] 1)) t := by
        intro t kt
        refine k56 t ?_
        refine XS.icmpNo X0.here hx rfl (hb hby d3_8) rfl (flt hc8_57).2.2.1 ?_
        show Steps p.tables e below (s₁.setTop (mkF m 11 #[.val (.int p0)] [])) _
        refine XS.iconst X0.here hx rfl (hb hby d3_11) ?_
        show Steps p.tables e below (s₁.setTop (mkF m 12 #[.val (.int p0)] [(.int (1 : Int32))])) _
        refine XS.goto X0.here hx rfl (pc0 := 12) (pc' := 16) rfl (hb hby d3_12) (by decide) (by decide) ?_
        show Steps p.tables e below (s₁.setTop (mkF m 16 #[.val (.int p0)] [(.int (1 : Int32))])) _
        exact kt
      obtain ⟨fs, hr, hrun, hended, hW, hsame⟩ := X0.leave (v := some (.int (1 : Int32))) (fun h => by rw [Bd.returns] at h; cases h)
      refine ⟨_, _, k59 _ (retN X0 hx (t := .boolean) Bd.returns (by simp) (hb hby d3_16) hr), hrun, hended, _, _, rfl, ?_, ⟨_, rfl⟩, hW, hsame.mono (by decide) (by decide)⟩
      show Q3 Z p0 h0 n0 _ s₁.heap _
      rw [e0]
      exact ⟨(by rw [own_eq_own_inday]; rw [if_neg hc1_54, if_neg hc8_57]), N0, rfl⟩
theorem pd_0 : parseMethodDescriptor "(II)I" = some ⟨[.int, .int], some .int⟩ := by decide +kernel
theorem pd_2 : parseMethodDescriptor "(I)Z" = some ⟨[.int], some .boolean⟩ := by decide +kernel
theorem pd_3 : parseMethodDescriptor "(II)V" = some ⟨[.int, .int], none⟩ := by decide +kernel
theorem pd_5 : parseMethodDescriptor "()I" = some ⟨[], some .int⟩ := by decide +kernel
theorem pn_0 : plainName "com/example/tidegate/tidegate/model/OperatingDayIsDayPinLaw" = true := by first | (simp [plainName, overriddenIn]; done) | decide +kernel
theorem ef_0 (m : MethodId) (x0 : Int32) (x1 : Int32) (x2 : Int32) : entryFrame m #[(.int x0), (.int x1), (.int x2)] maxLocals = mkF m 0 #[.val (.int x0), .val (.int x1), .val (.int x2), .unset, .unset, .unset, .unset, .unset, .unset] [] := by first | (simp [entryFrame, mkF, argsToLocals, Value.category, maxLocals]; done) | rfl
def Q0 (Z : State) (p0 : Int32) (p1 : Int32) (p2 : Int32) (h0 : Heap) (n0 : Nat) (rv_ : Option Value) (h : Heap) (LL_ : List Loc) : Prop := rv_ = some (.int 1) ∧ Fr n0 LL_
set_option maxRecDepth 65536 in
set_option maxHeartbeats 40000000 in
theorem rm0 (l : Launch) (Z : State) (a0 : Array Value) (hw : ∀ d ∈ tables_1, d.before a0 Z = true) (ws : List Jvm.Cond) (p0 : Int32) (p1 : Int32) (p2 : Int32) (h0 : Heap) (n0 : Nat) (Z0 : n0 ≤ h0.size) :
    MetFree l x (head1 (Jvm.Cond.code x code maxLocals ret :: ws) room_1) (fun aa UU => aa = #[(.int p0), (.int p1), (.int p2)] ∧ Z.Warmed39 UU.vm ∧ UU.heap = h0) (fun _ _ _ _ _ => True) (fun _ UU oo UV => ∃ vv LL, oo = .returned vv ∧ Q0 Z p0 p1 p2 h0 n0 vv UV.heap LL ∧ FrameEnd UU oo UV LL room_1.cells room_1.slots) := by
  refine MetFree.of_bodySF (plainFor_of_name pn_0) hisR ?_
  intro p e s m args below meth c s₁ Bd hml0 hP hK
  obtain ⟨rfl, hZ, hh⟩ := hP
  have hx := Bd.exec
  have hby := Bd.bytes
  have hml : c.maxLocals = 9 := hml0
  have hown : s.vm.findClass "com/example/tidegate/tidegate/model/OperatingDayIsDayPinLaw" = some m.cls := findClass_of_methodNamed Bd.named
  have hnm := (name_of_methodNamed Bd.named Bd.method).1
  have X0 : Stand p l e room_1 s m #[(.int p0), (.int p1), (.int p2)] below meth c s₁ [] 0 0 := Stand.of_body Bd
  have e0 : s₁.heap = h0 := by rw [← hh, Bd.state]; rfl
  have N0 := Fr.nil n0
  have k0 : ∀ t, Steps p.tables e below (s₁.setTop (mkF m 0 #[.val (.int p0), .val (.int p1), .val (.int p2), .unset, .unset, .unset, .unset, .unset, .unset] [])) t → Steps p.tables e below (s₁.setTop (entryFrame m #[(.int p0), (.int p1), (.int p2)] maxLocals)) t := fun t k => castTop (ef_0 m p0 p1 p2) k
  obtain ⟨_, _, ⟨T60, L60, kc60, nc60⟩, -, X60, ⟨Lc60, hQ60, l60, y60, z60⟩, st60⟩ := Jvm.LawKit.callS X0 hx (y := (⟨"com/example/tidegate/tidegate/model/OperatingDayIsDayPinLaw", "pick", "(II)I"⟩ : MethodName)) hown (mvT hZ (hw _ (List.mem_of_getElem? (i := 0) rfl))) (mvT hZ (hw _ (List.mem_of_getElem? (i := 1) rfl))) (mvT hZ (hw _ (List.mem_of_getElem? (i := 2) rfl))) (mvT hZ (hw _ (List.mem_of_getElem? (i := 3) rfl))) (by decide) (backOf (W := 0) (rm1 l Z a0 hw [] p0 (p2 &&& (3 : Int32)) h0 n0 ) hZ (hw _ (List.mem_of_getElem? (i := 3) rfl)) (hw _ (List.mem_of_getElem? (i := 2) rfl)) (by decide) (by decide)) (g := (mkF m 4 #[.val (.int p0), .val (.int p1), .val (.int p2), .unset, .unset, .unset, .unset, .unset, .unset] [(.int (p2 &&& (3 : Int32))), (.int p0)])) rfl (by rw [hml]; rfl) (argsL := [(.int p0), (.int (p2 &&& (3 : Int32)))]) (rest := []) (lenOf pd_0 rfl) rfl (by show 2 * 0 + _ ≤ _; exact Nat.le_of_eq rfl) (hb hby at_4) (fun _ _ => ⟨rfl, e0, (by decide : 0 + 0 ≤ _), (by decide : 0 + 0 ≤ _)⟩)
  dsimp only [Pt.U, Pt.locs, Pt.cells, Pt.slots] at X60 l60 y60 z60 st60 hQ60
  subst l60 y60 z60
  obtain ⟨rfl, Nq60, eq60⟩ := hQ60
  have N60 := Fr.app N0 Nq60
  have k61 : ∀ t, Steps p.tables e below (T60.setTop (mkF m 7 #[.val (.int p0), .val (.int p1), .val (.int p2), .unset, .unset, .unset, .unset, .unset, .unset] [(.int (own_pick p0 (p2 &&& (3 : Int32))))])) t → Steps p.tables e below (s₁.setTop (entryFrame m #[(.int p0), (.int p1), (.int p2)] maxLocals)) t := by
    intro t kt
    refine k0 t ?_
    refine XS.iloadN X0.here hx rfl (hb hby at_0) rfl ?_
    show Steps p.tables e below (s₁.setTop (mkF m 1 #[.val (.int p0), .val (.int p1), .val (.int p2), .unset, .unset, .unset, .unset, .unset, .unset] [(.int p0)])) _
    refine XS.iloadN X0.here hx rfl (hb hby at_1) rfl ?_
    show Steps p.tables e below (s₁.setTop (mkF m 2 #[.val (.int p0), .val (.int p1), .val (.int p2), .unset, .unset, .unset, .unset, .unset, .unset] [(.int p2), (.int p0)])) _
    refine XS.iconst X0.here hx rfl (hb hby at_2) ?_
    show Steps p.tables e below (s₁.setTop (mkF m 3 #[.val (.int p0), .val (.int p1), .val (.int p2), .unset, .unset, .unset, .unset, .unset, .unset] [(.int (3 : Int32)), (.int p2), (.int p0)])) _
    refine XS.iand X0.here hx rfl (hb hby at_3) rfl ?_
    show Steps p.tables e below (s₁.setTop (mkF m 4 #[.val (.int p0), .val (.int p1), .val (.int p2), .unset, .unset, .unset, .unset, .unset, .unset] [(.int (p2 &&& (3 : Int32))), (.int p0)])) _
    refine st60 _ ?_
    show Steps p.tables e below (T60.setTop (mkF m 7 #[.val (.int p0), .val (.int p1), .val (.int p2), .unset, .unset, .unset, .unset, .unset, .unset] [(.int (own_pick p0 (p2 &&& (3 : Int32))))])) _
    exact kt
  obtain ⟨vo62, hvo62⟩ : ∃ z : Int32, z = (own_pick p0 (p2 &&& (3 : Int32))) := ⟨_, rfl⟩
  rw [← hvo62] at k61
  have k63 : ∀ t, Steps p.tables e below (T60.setTop (mkF m 13 #[.val (.int p0), .val (.int p1), .val (.int p2), .val (.int vo62), .unset, .unset, .unset, .unset, .unset] [(.int ((p2 >>> ((2 : Int32) &&& 31)) &&& (1 : Int32)))])) t → Steps p.tables e below (s₁.setTop (entryFrame m #[(.int p0), (.int p1), (.int p2)] maxLocals)) t := by
    intro t kt
    refine k61 t ?_
    show Steps p.tables e below (T60.setTop (mkF m 7 #[.val (.int p0), .val (.int p1), .val (.int p2), .unset, .unset, .unset, .unset, .unset, .unset] [(.int vo62)])) _
    refine XS.istoreN X60.here hx rfl (hb hby at_7) rfl (l' := #[.val (.int p0), .val (.int p1), .val (.int p2), .val (.int vo62), .unset, .unset, .unset, .unset, .unset]) rfl ?_
    show Steps p.tables e below (T60.setTop (mkF m 8 #[.val (.int p0), .val (.int p1), .val (.int p2), .val (.int vo62), .unset, .unset, .unset, .unset, .unset] [])) _
    refine XS.iloadN X60.here hx rfl (hb hby at_8) rfl ?_
    show Steps p.tables e below (T60.setTop (mkF m 9 #[.val (.int p0), .val (.int p1), .val (.int p2), .val (.int vo62), .unset, .unset, .unset, .unset, .unset] [(.int p2)])) _
    refine XS.iconst X60.here hx rfl (hb hby at_9) ?_
    show Steps p.tables e below (T60.setTop (mkF m 10 #[.val (.int p0), .val (.int p1), .val (.int p2), .val (.int vo62), .unset, .unset, .unset, .unset, .unset] [(.int (2 : Int32)), (.int p2)])) _
    refine XS.ishr X60.here hx rfl (hb hby at_10) rfl ?_
    show Steps p.tables e below (T60.setTop (mkF m 11 #[.val (.int p0), .val (.int p1), .val (.int p2), .val (.int vo62), .unset, .unset, .unset, .unset, .unset] [(.int (p2 >>> ((2 : Int32) &&& 31)))])) _
    refine XS.iconst X60.here hx rfl (hb hby at_11) ?_
    show Steps p.tables e below (T60.setTop (mkF m 12 #[.val (.int p0), .val (.int p1), .val (.int p2), .val (.int vo62), .unset, .unset, .unset, .unset, .unset] [(.int (1 : Int32)), (.int (p2 >>> ((2 : Int32) &&& 31)))])) _
    refine XS.iand X60.here hx rfl (hb hby at_12) rfl ?_
    show Steps p.tables e below (T60.setTop (mkF m 13 #[.val (.int p0), .val (.int p1), .val (.int p2), .val (.int vo62), .unset, .unset, .unset, .unset, .unset] [(.int ((p2 >>> ((2 : Int32) &&& 31)) &&& (1 : Int32)))])) _
    exact kt
  by_cases hc13_64 : ((p2 >>> ((2 : Int32) &&& 31)) &&& (1 : Int32)) = (0 : Int32)
  · obtain ⟨_, _, ⟨T65, L65, kc65, nc65⟩, -, X65, ⟨Lc65, hQ65, l65, y65, z65⟩, st65⟩ := Jvm.LawKit.callS X60 hx (y := (⟨"com/example/tidegate/tidegate/model/OperatingDayIsDayPinLaw", "pick", "(II)I"⟩ : MethodName)) hown (mvT hZ (hw _ (List.mem_of_getElem? (i := 0) rfl))) (mvT hZ (hw _ (List.mem_of_getElem? (i := 1) rfl))) (mvT hZ (hw _ (List.mem_of_getElem? (i := 2) rfl))) (mvT hZ (hw _ (List.mem_of_getElem? (i := 3) rfl))) (by decide) (backOf (W := 0) (rm1 l Z a0 hw [] p1 ((p2 >>> ((3 : Int32) &&& 31)) &&& (3 : Int32)) h0 n0 ) hZ (hw _ (List.mem_of_getElem? (i := 3) rfl)) (hw _ (List.mem_of_getElem? (i := 2) rfl)) (by decide) (by decide)) (g := (mkF m 33 #[.val (.int p0), .val (.int p1), .val (.int p2), .val (.int vo62), .unset, .unset, .unset, .unset, .unset] [(.int ((p2 >>> ((3 : Int32) &&& 31)) &&& (3 : Int32))), (.int p1)])) rfl (by rw [hml]; rfl) (argsL := [(.int p1), (.int ((p2 >>> ((3 : Int32) &&& 31)) &&& (3 : Int32)))]) (rest := []) (lenOf pd_0 rfl) rfl (by show 2 * 0 + _ ≤ _; exact Nat.le_of_eq rfl) (hb hby at_33) (fun _ _ => ⟨rfl, eq60, (by decide : 0 + 0 ≤ _), (by decide : 0 + 0 ≤ _)⟩)
    dsimp only [Pt.U, Pt.locs, Pt.cells, Pt.slots] at X65 l65 y65 z65 st65 hQ65
    subst l65 y65 z65
    obtain ⟨rfl, Nq65, eq65⟩ := hQ65
    have N65 := Fr.app N60 Nq65
    have k66 : ∀ t, Steps p.tables e below (T65.setTop (mkF m 36 #[.val (.int p0), .val (.int p1), .val (.int p2), .val (.int vo62), .unset, .unset, .unset, .unset, .unset] [(.int (own_pick p1 ((p2 >>> ((3 : Int32) &&& 31)) &&& (3 : Int32))))])) t → Steps p.tables e below (s₁.setTop (entryFrame m #[(.int p0), (.int p1), (.int p2)] maxLocals)) t := by
      intro t kt
      refine k63 t ?_
      refine XS.ifYes X60.here hx rfl (pc0 := 13) (pc' := 27) rfl (hb hby at_13) rfl ((if0 _ _).trans (teq hc13_64).1) (by decide) (by decide) ?_
      show Steps p.tables e below (T60.setTop (mkF m 27 #[.val (.int p0), .val (.int p1), .val (.int p2), .val (.int vo62), .unset, .unset, .unset, .unset, .unset] [])) _
      refine XS.iloadN X60.here hx rfl (hb hby at_27) rfl ?_
      show Steps p.tables e below (T60.setTop (mkF m 28 #[.val (.int p0), .val (.int p1), .val (.int p2), .val (.int vo62), .unset, .unset, .unset, .unset, .unset] [(.int p1)])) _
      refine XS.iloadN X60.here hx rfl (hb hby at_28) rfl ?_
      show Steps p.tables e below (T60.setTop (mkF m 29 #[.val (.int p0), .val (.int p1), .val (.int p2), .val (.int vo62), .unset, .unset, .unset, .unset, .unset] [(.int p2), (.int p1)])) _
      refine XS.iconst X60.here hx rfl (hb hby at_29) ?_
      show Steps p.tables e below (T60.setTop (mkF m 30 #[.val (.int p0), .val (.int p1), .val (.int p2), .val (.int vo62), .unset, .unset, .unset, .unset, .unset] [(.int (3 : Int32)), (.int p2), (.int p1)])) _
      refine XS.ishr X60.here hx rfl (hb hby at_30) rfl ?_
      show Steps p.tables e below (T60.setTop (mkF m 31 #[.val (.int p0), .val (.int p1), .val (.int p2), .val (.int vo62), .unset, .unset, .unset, .unset, .unset] [(.int (p2 >>> ((3 : Int32) &&& 31))), (.int p1)])) _
      refine XS.iconst X60.here hx rfl (hb hby at_31) ?_
      show Steps p.tables e below (T60.setTop (mkF m 32 #[.val (.int p0), .val (.int p1), .val (.int p2), .val (.int vo62), .unset, .unset, .unset, .unset, .unset] [(.int (3 : Int32)), (.int (p2 >>> ((3 : Int32) &&& 31))), (.int p1)])) _
      refine XS.iand X60.here hx rfl (hb hby at_32) rfl ?_
      show Steps p.tables e below (T60.setTop (mkF m 33 #[.val (.int p0), .val (.int p1), .val (.int p2), .val (.int vo62), .unset, .unset, .unset, .unset, .unset] [(.int ((p2 >>> ((3 : Int32) &&& 31)) &&& (3 : Int32))), (.int p1)])) _
      refine st65 _ ?_
      show Steps p.tables e below (T65.setTop (mkF m 36 #[.val (.int p0), .val (.int p1), .val (.int p2), .val (.int vo62), .unset, .unset, .unset, .unset, .unset] [(.int (own_pick p1 ((p2 >>> ((3 : Int32) &&& 31)) &&& (3 : Int32))))])) _
      exact kt
    obtain ⟨vc67, hvc67⟩ : ∃ z : Int32, z = (own_pick p1 ((p2 >>> ((3 : Int32) &&& 31)) &&& (3 : Int32))) := ⟨_, rfl⟩
    rw [← hvc67] at k66
    obtain ⟨_, _, ⟨T68, L68, kc68, nc68⟩, -, X68, ⟨Lc68, hQ68, l68, y68, z68⟩, st68⟩ := Jvm.LawKit.callS X65 hx (y := (⟨"com/example/tidegate/tidegate/model/OperatingDay", "isDay", "(II)Z"⟩ : MethodName)) hown (mvT hZ (hw _ (List.mem_of_getElem? (i := 4) rfl))) (mvT hZ (hw _ (List.mem_of_getElem? (i := 5) rfl))) (mvT hZ (hw _ (List.mem_of_getElem? (i := 6) rfl))) (mvT hZ (hw _ (List.mem_of_getElem? (i := 7) rfl))) (by decide) (backOf (W := 0) (rm2 l Z a0 hw [] vo62 vc67 h0 n0 ) hZ (hw _ (List.mem_of_getElem? (i := 7) rfl)) (hw _ (List.mem_of_getElem? (i := 6) rfl)) (by decide) (by decide)) (g := (mkF m 41 #[.val (.int p0), .val (.int p1), .val (.int p2), .val (.int vo62), .val (.int vc67), .unset, .unset, .unset, .unset] [(.int vc67), (.int vo62)])) rfl (by rw [hml]; rfl) (argsL := [(.int vo62), (.int vc67)]) (rest := []) (lenOf pd_1 rfl) rfl (by show 2 * 0 + _ ≤ _; exact Nat.le_of_eq rfl) (hb hby at_41) (fun _ _ => ⟨rfl, eq65, (by decide : 0 + 0 ≤ _), (by decide : 0 + 0 ≤ _)⟩)
    dsimp only [Pt.U, Pt.locs, Pt.cells, Pt.slots] at X68 l68 y68 z68 st68 hQ68
    subst l68 y68 z68
    obtain ⟨rfl, Nq68, eq68⟩ := hQ68
    have N68 := Fr.app N65 Nq68
    have k69 : ∀ t, Steps p.tables e below (T68.setTop (mkF m 44 #[.val (.int p0), .val (.int p1), .val (.int p2), .val (.int vo62), .val (.int vc67), .unset, .unset, .unset, .unset] [(.int (own_isday vo62 vc67))])) t → Steps p.tables e below (s₁.setTop (entryFrame m #[(.int p0), (.int p1), (.int p2)] maxLocals)) t := by
      intro t kt
      refine k66 t ?_
      show Steps p.tables e below (T65.setTop (mkF m 36 #[.val (.int p0), .val (.int p1), .val (.int p2), .val (.int vo62), .unset, .unset, .unset, .unset, .unset] [(.int vc67)])) _
      refine XS.istore X65.here hx rfl (hb hby at_36) rfl (l' := #[.val (.int p0), .val (.int p1), .val (.int p2), .val (.int vo62), .val (.int vc67), .unset, .unset, .unset, .unset]) rfl ?_
      show Steps p.tables e below (T65.setTop (mkF m 38 #[.val (.int p0), .val (.int p1), .val (.int p2), .val (.int vo62), .val (.int vc67), .unset, .unset, .unset, .unset] [])) _
      refine XS.iloadN X65.here hx rfl (hb hby at_38) rfl ?_
      show Steps p.tables e below (T65.setTop (mkF m 39 #[.val (.int p0), .val (.int p1), .val (.int p2), .val (.int vo62), .val (.int vc67), .unset, .unset, .unset, .unset] [(.int vo62)])) _
      refine XS.iload X65.here hx rfl (hb hby at_39) rfl ?_
      show Steps p.tables e below (T65.setTop (mkF m 41 #[.val (.int p0), .val (.int p1), .val (.int p2), .val (.int vo62), .val (.int vc67), .unset, .unset, .unset, .unset] [(.int vc67), (.int vo62)])) _
      refine st68 _ ?_
      show Steps p.tables e below (T68.setTop (mkF m 44 #[.val (.int p0), .val (.int p1), .val (.int p2), .val (.int vo62), .val (.int vc67), .unset, .unset, .unset, .unset] [(.int (own_isday vo62 vc67))])) _
      exact kt
    obtain ⟨r70, hr70⟩ : ∃ z : Int32, z = (own_isday vo62 vc67) := ⟨_, rfl⟩
    rw [← hr70] at k69
    obtain ⟨_, _, ⟨T71, L71, kc71, nc71⟩, -, X71, ⟨Lc71, hQ71, l71, y71, z71⟩, st71⟩ := Jvm.LawKit.callS X68 hx (y := (⟨"com/example/tidegate/tidegate/model/OperatingDayIsDayPinLaw", "inDay", "(I)Z"⟩ : MethodName)) hown (mvT hZ (hw _ (List.mem_of_getElem? (i := 8) rfl))) (mvT hZ (hw _ (List.mem_of_getElem? (i := 9) rfl))) (mvT hZ (hw _ (List.mem_of_getElem? (i := 2) rfl))) (mvT hZ (hw _ (List.mem_of_getElem? (i := 10) rfl))) (by decide) (backOf (W := 0) (rm3 l Z a0 hw [] vo62 h0 n0 ) hZ (hw _ (List.mem_of_getElem? (i := 10) rfl)) (hw _ (List.mem_of_getElem? (i := 2) rfl)) (by decide) (by decide)) (g := (mkF m 47 #[.val (.int p0), .val (.int p1), .val (.int p2), .val (.int vo62), .val (.int vc67), .val (.int r70), .unset, .unset, .unset] [(.int vo62)])) rfl (by rw [hml]; rfl) (argsL := [(.int vo62)]) (rest := []) (lenOf pd_2 rfl) rfl (by show 2 * 0 + _ ≤ _; exact Nat.le_of_eq rfl) (hb hby at_47) (fun _ _ => ⟨rfl, eq68, (by decide : 0 + 0 ≤ _), (by decide : 0 + 0 ≤ _)⟩)
    dsimp only [Pt.U, Pt.locs, Pt.cells, Pt.slots] at X71 l71 y71 z71 st71 hQ71
    subst l71 y71 z71
    obtain ⟨rfl, Nq71, eq71⟩ := hQ71
    have N71 := Fr.app N68 Nq71
    have k72 : ∀ t, Steps p.tables e below (T71.setTop (mkF m 50 #[.val (.int p0), .val (.int p1), .val (.int p2), .val (.int vo62), .val (.int vc67), .val (.int r70), .unset, .unset, .unset] [(.int (own_inday vo62))])) t → Steps p.tables e below (s₁.setTop (entryFrame m #[(.int p0), (.int p1), (.int p2)] maxLocals)) t := by
      intro t kt
      refine k69 t ?_
      show Steps p.tables e below (T68.setTop (mkF m 44 #[.val (.int p0), .val (.int p1), .val (.int p2), .val (.int vo62), .val (.int vc67), .unset, .unset, .unset, .unset] [(.int r70)])) _
      refine XS.istore X68.here hx rfl (hb hby at_44) rfl (l' := #[.val (.int p0), .val (.int p1), .val (.int p2), .val (.int vo62), .val (.int vc67), .val (.int r70), .unset, .unset, .unset]) rfl ?_
      show Steps p.tables e below (T68.setTop (mkF m 46 #[.val (.int p0), .val (.int p1), .val (.int p2), .val (.int vo62), .val (.int vc67), .val (.int r70), .unset, .unset, .unset] [])) _
      refine XS.iloadN X68.here hx rfl (hb hby at_46) rfl ?_
      show Steps p.tables e below (T68.setTop (mkF m 47 #[.val (.int p0), .val (.int p1), .val (.int p2), .val (.int vo62), .val (.int vc67), .val (.int r70), .unset, .unset, .unset] [(.int vo62)])) _
      refine st71 _ ?_
      show Steps p.tables e below (T71.setTop (mkF m 50 #[.val (.int p0), .val (.int p1), .val (.int p2), .val (.int vo62), .val (.int vc67), .val (.int r70), .unset, .unset, .unset] [(.int (own_inday vo62))])) _
      exact kt
    obtain ⟨r73, hr73⟩ : ∃ z : Int32, z = (own_inday vo62) := ⟨_, rfl⟩
    rw [← hr73] at k72
    have k74 : ∀ t, Steps p.tables e below (T71.setTop (mkF m 50 #[.val (.int p0), .val (.int p1), .val (.int p2), .val (.int vo62), .val (.int vc67), .val (.int r70), .unset, .unset, .unset] [(.int r73)])) t → Steps p.tables e below (s₁.setTop (entryFrame m #[(.int p0), (.int p1), (.int p2)] maxLocals)) t := by
      intro t kt
      refine k72 t ?_
      show Steps p.tables e below (T71.setTop (mkF m 50 #[.val (.int p0), .val (.int p1), .val (.int p2), .val (.int vo62), .val (.int vc67), .val (.int r70), .unset, .unset, .unset] [(.int r73)])) _
      exact kt
    by_cases hc50_75 : r73 = (0 : Int32)
    · have hc83_100 : r70 = (0 : Int32) := (by
          have ar76 := rng32 p2
          have ar77 := rng32 (p2 >>> ((2 : Int32) &&& 31))
          first | have ar78 : (p2 >>> ((2 : Int32) &&& 31)).toInt = p2.toInt / 4 := (by have qw := c_ishr p2 (2 : Int32) 2 (by decide); simp only [show (2 ^ 2 : Nat) = 4 from by decide, Int.cast_ofNat_Int] at qw; omega) | (have ar78 := c_ishr p2 (2 : Int32) 2 (by decide); simp only [show (2 ^ 2 : Nat) = 4 from by decide, Int.cast_ofNat_Int] at ar78)
          have ar79 : (1 : Int32).toInt = 1 := by decide
          have ar80 := c_mask (p2 >>> ((2 : Int32) &&& 31)) (1 : Int32) 1 (by decide) (by decide)
          simp only [show (2 ^ 1 : Nat) = 2 from by decide, Int.cast_ofNat_Int] at ar80
          have ar81 := rng32 ((p2 >>> ((2 : Int32) &&& 31)) &&& (1 : Int32))
          have ar82 : (0 : Int32).toInt = 0 := by decide
          have ar83 : ((p2 >>> ((2 : Int32) &&& 31)) &&& (1 : Int32)).toInt = (0 : Int32).toInt := congrArg Int32.toInt hc13_64
          have ar84 := rng32 r73
          have ar85 := rng32 vo62
          have ar86 : (1439 : Int32).toInt = 1439 := by decide
          have ar87 : ((1439 : Int32).toInt < vo62.toInt ∧ (if (1439 : Int32) < vo62 then (0 : Int32) else (1 : Int32)).toInt = (0 : Int32).toInt) ∨ (¬ ((1439 : Int32).toInt < vo62.toInt) ∧ (if (1439 : Int32) < vo62 then (0 : Int32) else (1 : Int32)).toInt = (1 : Int32).toInt) := by
                by_cases q : (1439 : Int32) < vo62
                · exact Or.inl ⟨Int32.lt_iff_toInt_lt.mp q, by rw [if_pos q]⟩
                · exact Or.inr ⟨fun q' => q (Int32.lt_iff_toInt_lt.mpr q'), by rw [if_neg q]⟩
          have ar88 : (vo62.toInt < (0 : Int32).toInt ∧ (if vo62 < (0 : Int32) then (0 : Int32) else (if (1439 : Int32) < vo62 then (0 : Int32) else (1 : Int32))).toInt = (0 : Int32).toInt) ∨ (¬ (vo62.toInt < (0 : Int32).toInt) ∧ (if vo62 < (0 : Int32) then (0 : Int32) else (if (1439 : Int32) < vo62 then (0 : Int32) else (1 : Int32))).toInt = (if (1439 : Int32) < vo62 then (0 : Int32) else (1 : Int32)).toInt) := by
                by_cases q : vo62 < (0 : Int32)
                · exact Or.inl ⟨Int32.lt_iff_toInt_lt.mp q, by rw [if_pos q]⟩
                · exact Or.inr ⟨fun q' => q (Int32.lt_iff_toInt_lt.mpr q'), by rw [if_neg q]⟩
          have ar89 : (own_inday vo62).toInt = (if vo62 < (0 : Int32) then (0 : Int32) else (if (1439 : Int32) < vo62 then (0 : Int32) else (1 : Int32))).toInt := congrArg _ (own_eq_own_inday vo62)
          have ar90 := congrArg Int32.toInt hr73
          have ar91 : r73.toInt = (0 : Int32).toInt := congrArg Int32.toInt hc50_75
          have ar92 := rng32 r70
          have ar93 := rng32 vc67
          have ar94 : (1440 : Int32).toInt = 1440 := by decide
          have ar95 : (vc67.toInt < (1440 : Int32).toInt ∧ (if vc67 < (1440 : Int32) then (1 : Int32) else (0 : Int32)).toInt = (1 : Int32).toInt) ∨ (¬ (vc67.toInt < (1440 : Int32).toInt) ∧ (if vc67 < (1440 : Int32) then (1 : Int32) else (0 : Int32)).toInt = (0 : Int32).toInt) := by
                by_cases q : vc67 < (1440 : Int32)
                · exact Or.inl ⟨Int32.lt_iff_toInt_lt.mp q, by rw [if_pos q]⟩
                · exact Or.inr ⟨fun q' => q (Int32.lt_iff_toInt_lt.mpr q'), by rw [if_neg q]⟩
          have ar96 : (vc67.toInt < vo62.toInt ∧ (if vc67 < vo62 then (0 : Int32) else (if vc67 < (1440 : Int32) then (1 : Int32) else (0 : Int32))).toInt = (0 : Int32).toInt) ∨ (¬ (vc67.toInt < vo62.toInt) ∧ (if vc67 < vo62 then (0 : Int32) else (if vc67 < (1440 : Int32) then (1 : Int32) else (0 : Int32))).toInt = (if vc67 < (1440 : Int32) then (1 : Int32) else (0 : Int32)).toInt) := by
                by_cases q : vc67 < vo62
                · exact Or.inl ⟨Int32.lt_iff_toInt_lt.mp q, by rw [if_pos q]⟩
                · exact Or.inr ⟨fun q' => q (Int32.lt_iff_toInt_lt.mpr q'), by rw [if_neg q]⟩
          have ar97 : (vo62.toInt < (0 : Int32).toInt ∧ (if vo62 < (0 : Int32) then (0 : Int32) else (if vc67 < vo62 then (0 : Int32) else (if vc67 < (1440 : Int32) then (1 : Int32) else (0 : Int32)))).toInt = (0 : Int32).toInt) ∨ (¬ (vo62.toInt < (0 : Int32).toInt) ∧ (if vo62 < (0 : Int32) then (0 : Int32) else (if vc67 < vo62 then (0 : Int32) else (if vc67 < (1440 : Int32) then (1 : Int32) else (0 : Int32)))).toInt = (if vc67 < vo62 then (0 : Int32) else (if vc67 < (1440 : Int32) then (1 : Int32) else (0 : Int32))).toInt) := by
                by_cases q : vo62 < (0 : Int32)
                · exact Or.inl ⟨Int32.lt_iff_toInt_lt.mp q, by rw [if_pos q]⟩
                · exact Or.inr ⟨fun q' => q (Int32.lt_iff_toInt_lt.mpr q'), by rw [if_neg q]⟩
          have ar98 : (own_isday vo62 vc67).toInt = (if vo62 < (0 : Int32) then (0 : Int32) else (if vc67 < vo62 then (0 : Int32) else (if vc67 < (1440 : Int32) then (1 : Int32) else (0 : Int32)))).toInt := congrArg _ (own_eq_own_isday vo62 vc67)
          have ar99 := congrArg Int32.toInt hr70
          exact Int32.toInt_inj.mp (by omega))
      have k101 : ∀ t, Steps p.tables e below (T71.setTop (mkF m 94 #[.val (.int p0), .val (.int p1), .val (.int p2), .val (.int vo62), .val (.int vc67), .val (.int r70), .val (.int (0 : Int32)), .unset, .unset] [(.int (1 : Int32))])) t → Steps p.tables e below (s₁.setTop (entryFrame m #[(.int p0), (.int p1), (.int p2)] maxLocals)) t := by
        intro t kt
        refine k74 t ?_
        refine XS.ifYes X71.here hx rfl (pc0 := 50) (pc' := 76) rfl (hb hby at_50) rfl ((if0 _ _).trans (teq hc50_75).1) (by decide) (by decide) ?_
        show Steps p.tables e below (T71.setTop (mkF m 76 #[.val (.int p0), .val (.int p1), .val (.int p2), .val (.int vo62), .val (.int vc67), .val (.int r70), .unset, .unset, .unset] [])) _
        refine XS.iconst X71.here hx rfl (hb hby at_76) ?_
        show Steps p.tables e below (T71.setTop (mkF m 77 #[.val (.int p0), .val (.int p1), .val (.int p2), .val (.int vo62), .val (.int vc67), .val (.int r70), .unset, .unset, .unset] [(.int (0 : Int32))])) _
        refine XS.istore X71.here hx rfl (hb hby at_77) rfl (l' := #[.val (.int p0), .val (.int p1), .val (.int p2), .val (.int vo62), .val (.int vc67), .val (.int r70), .val (.int (0 : Int32)), .unset, .unset]) rfl ?_
        show Steps p.tables e below (T71.setTop (mkF m 79 #[.val (.int p0), .val (.int p1), .val (.int p2), .val (.int vo62), .val (.int vc67), .val (.int r70), .val (.int (0 : Int32)), .unset, .unset] [])) _
        refine XS.iload X71.here hx rfl (hb hby at_79) rfl ?_
        show Steps p.tables e below (T71.setTop (mkF m 81 #[.val (.int p0), .val (.int p1), .val (.int p2), .val (.int vo62), .val (.int vc67), .val (.int r70), .val (.int (0 : Int32)), .unset, .unset] [(.int r70)])) _
        refine XS.iload X71.here hx rfl (hb hby at_81) rfl ?_
        show Steps p.tables e below (T71.setTop (mkF m 83 #[.val (.int p0), .val (.int p1), .val (.int p2), .val (.int vo62), .val (.int vc67), .val (.int r70), .val (.int (0 : Int32)), .unset, .unset] [(.int (0 : Int32)), (.int r70)])) _
        refine XS.icmpYes X71.here hx rfl (pc0 := 83) (pc' := 88) rfl (hb hby at_83) rfl (teq hc83_100).1 (by decide) (by decide) ?_
        show Steps p.tables e below (T71.setTop (mkF m 88 #[.val (.int p0), .val (.int p1), .val (.int p2), .val (.int vo62), .val (.int vc67), .val (.int r70), .val (.int (0 : Int32)), .unset, .unset] [])) _
        refine XS.iload X71.here hx rfl (hb hby at_88) rfl ?_
        show Steps p.tables e below (T71.setTop (mkF m 90 #[.val (.int p0), .val (.int p1), .val (.int p2), .val (.int vo62), .val (.int vc67), .val (.int r70), .val (.int (0 : Int32)), .unset, .unset] [(.int r70)])) _
        refine XS.ifNo X71.here hx rfl (hb hby at_90) rfl ((if0 _ _).trans (teq hc83_100).2) ?_
        show Steps p.tables e below (T71.setTop (mkF m 93 #[.val (.int p0), .val (.int p1), .val (.int p2), .val (.int vo62), .val (.int vc67), .val (.int r70), .val (.int (0 : Int32)), .unset, .unset] [])) _
        refine XS.iconst X71.here hx rfl (hb hby at_93) ?_
        show Steps p.tables e below (T71.setTop (mkF m 94 #[.val (.int p0), .val (.int p1), .val (.int p2), .val (.int vo62), .val (.int vc67), .val (.int r70), .val (.int (0 : Int32)), .unset, .unset] [(.int (1 : Int32))])) _
        exact kt
      obtain ⟨fs, hr, hrun, hended, hW, hsame⟩ := X71.leave (v := some (.int (1 : Int32))) (fun h => by rw [Bd.returns] at h; cases h)
      refine ⟨_, _, k101 _ (retN X71 hx (t := .boolean) Bd.returns (by simp) (hb hby at_94) hr), hrun, hended, _, _, rfl, ?_, ⟨_, rfl⟩, hW, hsame.mono (by decide) (by decide)⟩
      show Q0 Z p0 p1 p2 h0 n0 _ T71.heap _
      rw [eq71]
      exact ⟨rfl, N71⟩
    · obtain ⟨_, _, ⟨T102, L102, kc102, nc102⟩, -, X102, ⟨Lc102, hQ102, l102, y102, z102⟩, st102⟩ := Jvm.LawKit.callS X71 hx (y := (⟨"com/example/tidegate/tidegate/model/OperatingDayIsDayPinLaw", "inDay", "(I)Z"⟩ : MethodName)) hown (mvT hZ (hw _ (List.mem_of_getElem? (i := 8) rfl))) (mvT hZ (hw _ (List.mem_of_getElem? (i := 9) rfl))) (mvT hZ (hw _ (List.mem_of_getElem? (i := 2) rfl))) (mvT hZ (hw _ (List.mem_of_getElem? (i := 10) rfl))) (by decide) (backOf (W := 0) (rm3 l Z a0 hw [] vc67 h0 n0 ) hZ (hw _ (List.mem_of_getElem? (i := 10) rfl)) (hw _ (List.mem_of_getElem? (i := 2) rfl)) (by decide) (by decide)) (g := (mkF m 55 #[.val (.int p0), .val (.int p1), .val (.int p2), .val (.int vo62), .val (.int vc67), .val (.int r70), .unset, .unset, .unset] [(.int vc67)])) rfl (by rw [hml]; rfl) (argsL := [(.int vc67)]) (rest := []) (lenOf pd_2 rfl) rfl (by show 2 * 0 + _ ≤ _; exact Nat.le_of_eq rfl) (hb hby at_55) (fun _ _ => ⟨rfl, eq71, (by decide : 0 + 0 ≤ _), (by decide : 0 + 0 ≤ _)⟩)
      dsimp only [Pt.U, Pt.locs, Pt.cells, Pt.slots] at X102 l102 y102 z102 st102 hQ102
      subst l102 y102 z102
      obtain ⟨rfl, Nq102, eq102⟩ := hQ102
      have N102 := Fr.app N71 Nq102
      have k103 : ∀ t, Steps p.tables e below (T102.setTop (mkF m 58 #[.val (.int p0), .val (.int p1), .val (.int p2), .val (.int vo62), .val (.int vc67), .val (.int r70), .unset, .unset, .unset] [(.int (own_inday vc67))])) t → Steps p.tables e below (s₁.setTop (entryFrame m #[(.int p0), (.int p1), (.int p2)] maxLocals)) t := by
        intro t kt
        refine k74 t ?_
        refine XS.ifNo X71.here hx rfl (hb hby at_50) rfl ((if0 _ _).trans (feq hc50_75).1) ?_
        show Steps p.tables e below (T71.setTop (mkF m 53 #[.val (.int p0), .val (.int p1), .val (.int p2), .val (.int vo62), .val (.int vc67), .val (.int r70), .unset, .unset, .unset] [])) _
        refine XS.iload X71.here hx rfl (hb hby at_53) rfl ?_
        show Steps p.tables e below (T71.setTop (mkF m 55 #[.val (.int p0), .val (.int p1), .val (.int p2), .val (.int vo62), .val (.int vc67), .val (.int r70), .unset, .unset, .unset] [(.int vc67)])) _
        refine st102 _ ?_
        show Steps p.tables e below (T102.setTop (mkF m 58 #[.val (.int p0), .val (.int p1), .val (.int p2), .val (.int vo62), .val (.int vc67), .val (.int r70), .unset, .unset, .unset] [(.int (own_inday vc67))])) _
        exact kt
      obtain ⟨r104, hr104⟩ : ∃ z : Int32, z = (own_inday vc67) := ⟨_, rfl⟩
      rw [← hr104] at k103
      have k105 : ∀ t, Steps p.tables e below (T102.setTop (mkF m 58 #[.val (.int p0), .val (.int p1), .val (.int p2), .val (.int vo62), .val (.int vc67), .val (.int r70), .unset, .unset, .unset] [(.int r104)])) t → Steps p.tables e below (s₁.setTop (entryFrame m #[(.int p0), (.int p1), (.int p2)] maxLocals)) t := by
        intro t kt
        refine k103 t ?_
        show Steps p.tables e below (T102.setTop (mkF m 58 #[.val (.int p0), .val (.int p1), .val (.int p2), .val (.int vo62), .val (.int vc67), .val (.int r70), .unset, .unset, .unset] [(.int r104)])) _
        exact kt
      by_cases hc58_106 : r104 = (0 : Int32)
      · have hc83_137 : r70 = (0 : Int32) := (by
            have ar107 := rng32 p2
            have ar108 := rng32 (p2 >>> ((2 : Int32) &&& 31))
            first | have ar109 : (p2 >>> ((2 : Int32) &&& 31)).toInt = p2.toInt / 4 := (by have qw := c_ishr p2 (2 : Int32) 2 (by decide); simp only [show (2 ^ 2 : Nat) = 4 from by decide, Int.cast_ofNat_Int] at qw; omega) | (have ar109 := c_ishr p2 (2 : Int32) 2 (by decide); simp only [show (2 ^ 2 : Nat) = 4 from by decide, Int.cast_ofNat_Int] at ar109)
            have ar110 : (1 : Int32).toInt = 1 := by decide
            have ar111 := c_mask (p2 >>> ((2 : Int32) &&& 31)) (1 : Int32) 1 (by decide) (by decide)
            simp only [show (2 ^ 1 : Nat) = 2 from by decide, Int.cast_ofNat_Int] at ar111
            have ar112 := rng32 ((p2 >>> ((2 : Int32) &&& 31)) &&& (1 : Int32))
            have ar113 : (0 : Int32).toInt = 0 := by decide
            have ar114 : ((p2 >>> ((2 : Int32) &&& 31)) &&& (1 : Int32)).toInt = (0 : Int32).toInt := congrArg Int32.toInt hc13_64
            have ar115 := rng32 r73
            have ar116 := rng32 vo62
            have ar117 : (1439 : Int32).toInt = 1439 := by decide
            have ar118 : ((1439 : Int32).toInt < vo62.toInt ∧ (if (1439 : Int32) < vo62 then (0 : Int32) else (1 : Int32)).toInt = (0 : Int32).toInt) ∨ (¬ ((1439 : Int32).toInt < vo62.toInt) ∧ (if (1439 : Int32) < vo62 then (0 : Int32) else (1 : Int32)).toInt = (1 : Int32).toInt) := by
                  by_cases q : (1439 : Int32) < vo62
                  · exact Or.inl ⟨Int32.lt_iff_toInt_lt.mp q, by rw [if_pos q]⟩
                  · exact Or.inr ⟨fun q' => q (Int32.lt_iff_toInt_lt.mpr q'), by rw [if_neg q]⟩
            have ar119 : (vo62.toInt < (0 : Int32).toInt ∧ (if vo62 < (0 : Int32) then (0 : Int32) else (if (1439 : Int32) < vo62 then (0 : Int32) else (1 : Int32))).toInt = (0 : Int32).toInt) ∨ (¬ (vo62.toInt < (0 : Int32).toInt) ∧ (if vo62 < (0 : Int32) then (0 : Int32) else (if (1439 : Int32) < vo62 then (0 : Int32) else (1 : Int32))).toInt = (if (1439 : Int32) < vo62 then (0 : Int32) else (1 : Int32)).toInt) := by
                  by_cases q : vo62 < (0 : Int32)
                  · exact Or.inl ⟨Int32.lt_iff_toInt_lt.mp q, by rw [if_pos q]⟩
                  · exact Or.inr ⟨fun q' => q (Int32.lt_iff_toInt_lt.mpr q'), by rw [if_neg q]⟩
            have ar120 : (own_inday vo62).toInt = (if vo62 < (0 : Int32) then (0 : Int32) else (if (1439 : Int32) < vo62 then (0 : Int32) else (1 : Int32))).toInt := congrArg _ (own_eq_own_inday vo62)
            have ar121 := congrArg Int32.toInt hr73
            have ar122 : ¬ (r73.toInt = (0 : Int32).toInt) := fun qq_ => hc50_75 (Int32.toInt_inj.mp qq_)
            have ar123 := rng32 r104
            have ar124 := rng32 vc67
            have ar125 : ((1439 : Int32).toInt < vc67.toInt ∧ (if (1439 : Int32) < vc67 then (0 : Int32) else (1 : Int32)).toInt = (0 : Int32).toInt) ∨ (¬ ((1439 : Int32).toInt < vc67.toInt) ∧ (if (1439 : Int32) < vc67 then (0 : Int32) else (1 : Int32)).toInt = (1 : Int32).toInt) := by
                  by_cases q : (1439 : Int32) < vc67
                  · exact Or.inl ⟨Int32.lt_iff_toInt_lt.mp q, by rw [if_pos q]⟩
                  · exact Or.inr ⟨fun q' => q (Int32.lt_iff_toInt_lt.mpr q'), by rw [if_neg q]⟩
            have ar126 : (vc67.toInt < (0 : Int32).toInt ∧ (if vc67 < (0 : Int32) then (0 : Int32) else (if (1439 : Int32) < vc67 then (0 : Int32) else (1 : Int32))).toInt = (0 : Int32).toInt) ∨ (¬ (vc67.toInt < (0 : Int32).toInt) ∧ (if vc67 < (0 : Int32) then (0 : Int32) else (if (1439 : Int32) < vc67 then (0 : Int32) else (1 : Int32))).toInt = (if (1439 : Int32) < vc67 then (0 : Int32) else (1 : Int32)).toInt) := by
                  by_cases q : vc67 < (0 : Int32)
                  · exact Or.inl ⟨Int32.lt_iff_toInt_lt.mp q, by rw [if_pos q]⟩
                  · exact Or.inr ⟨fun q' => q (Int32.lt_iff_toInt_lt.mpr q'), by rw [if_neg q]⟩
            have ar127 : (own_inday vc67).toInt = (if vc67 < (0 : Int32) then (0 : Int32) else (if (1439 : Int32) < vc67 then (0 : Int32) else (1 : Int32))).toInt := congrArg _ (own_eq_own_inday vc67)
            have ar128 := congrArg Int32.toInt hr104
            have ar129 : r104.toInt = (0 : Int32).toInt := congrArg Int32.toInt hc58_106
            have ar130 := rng32 r70
            have ar131 : (1440 : Int32).toInt = 1440 := by decide
            have ar132 : (vc67.toInt < (1440 : Int32).toInt ∧ (if vc67 < (1440 : Int32) then (1 : Int32) else (0 : Int32)).toInt = (1 : Int32).toInt) ∨ (¬ (vc67.toInt < (1440 : Int32).toInt) ∧ (if vc67 < (1440 : Int32) then (1 : Int32) else (0 : Int32)).toInt = (0 : Int32).toInt) := by
                  by_cases q : vc67 < (1440 : Int32)
                  · exact Or.inl ⟨Int32.lt_iff_toInt_lt.mp q, by rw [if_pos q]⟩
                  · exact Or.inr ⟨fun q' => q (Int32.lt_iff_toInt_lt.mpr q'), by rw [if_neg q]⟩
            have ar133 : (vc67.toInt < vo62.toInt ∧ (if vc67 < vo62 then (0 : Int32) else (if vc67 < (1440 : Int32) then (1 : Int32) else (0 : Int32))).toInt = (0 : Int32).toInt) ∨ (¬ (vc67.toInt < vo62.toInt) ∧ (if vc67 < vo62 then (0 : Int32) else (if vc67 < (1440 : Int32) then (1 : Int32) else (0 : Int32))).toInt = (if vc67 < (1440 : Int32) then (1 : Int32) else (0 : Int32)).toInt) := by
                  by_cases q : vc67 < vo62
                  · exact Or.inl ⟨Int32.lt_iff_toInt_lt.mp q, by rw [if_pos q]⟩
                  · exact Or.inr ⟨fun q' => q (Int32.lt_iff_toInt_lt.mpr q'), by rw [if_neg q]⟩
            have ar134 : (vo62.toInt < (0 : Int32).toInt ∧ (if vo62 < (0 : Int32) then (0 : Int32) else (if vc67 < vo62 then (0 : Int32) else (if vc67 < (1440 : Int32) then (1 : Int32) else (0 : Int32)))).toInt = (0 : Int32).toInt) ∨ (¬ (vo62.toInt < (0 : Int32).toInt) ∧ (if vo62 < (0 : Int32) then (0 : Int32) else (if vc67 < vo62 then (0 : Int32) else (if vc67 < (1440 : Int32) then (1 : Int32) else (0 : Int32)))).toInt = (if vc67 < vo62 then (0 : Int32) else (if vc67 < (1440 : Int32) then (1 : Int32) else (0 : Int32))).toInt) := by
                  by_cases q : vo62 < (0 : Int32)
                  · exact Or.inl ⟨Int32.lt_iff_toInt_lt.mp q, by rw [if_pos q]⟩
                  · exact Or.inr ⟨fun q' => q (Int32.lt_iff_toInt_lt.mpr q'), by rw [if_neg q]⟩
            have ar135 : (own_isday vo62 vc67).toInt = (if vo62 < (0 : Int32) then (0 : Int32) else (if vc67 < vo62 then (0 : Int32) else (if vc67 < (1440 : Int32) then (1 : Int32) else (0 : Int32)))).toInt := congrArg _ (own_eq_own_isday vo62 vc67)
            have ar136 := congrArg Int32.toInt hr70
            exact Int32.toInt_inj.mp (by omega))
        have k138 : ∀ t, Steps p.tables e below (T102.setTop (mkF m 94 #[.val (.int p0), .val (.int p1), .val (.int p2), .val (.int vo62), .val (.int vc67), .val (.int r70), .val (.int (0 : Int32)), .unset, .unset] [(.int (1 : Int32))])) t → Steps p.tables e below (s₁.setTop (entryFrame m #[(.int p0), (.int p1), (.int p2)] maxLocals)) t := by
          intro t kt
          refine k105 t ?_
          refine XS.ifYes X102.here hx rfl (pc0 := 58) (pc' := 76) rfl (hb hby at_58) rfl ((if0 _ _).trans (teq hc58_106).1) (by decide) (by decide) ?_
          show Steps p.tables e below (T102.setTop (mkF m 76 #[.val (.int p0), .val (.int p1), .val (.int p2), .val (.int vo62), .val (.int vc67), .val (.int r70), .unset, .unset, .unset] [])) _
          refine XS.iconst X102.here hx rfl (hb hby at_76) ?_
          show Steps p.tables e below (T102.setTop (mkF m 77 #[.val (.int p0), .val (.int p1), .val (.int p2), .val (.int vo62), .val (.int vc67), .val (.int r70), .unset, .unset, .unset] [(.int (0 : Int32))])) _
          refine XS.istore X102.here hx rfl (hb hby at_77) rfl (l' := #[.val (.int p0), .val (.int p1), .val (.int p2), .val (.int vo62), .val (.int vc67), .val (.int r70), .val (.int (0 : Int32)), .unset, .unset]) rfl ?_
          show Steps p.tables e below (T102.setTop (mkF m 79 #[.val (.int p0), .val (.int p1), .val (.int p2), .val (.int vo62), .val (.int vc67), .val (.int r70), .val (.int (0 : Int32)), .unset, .unset] [])) _
          refine XS.iload X102.here hx rfl (hb hby at_79) rfl ?_
          show Steps p.tables e below (T102.setTop (mkF m 81 #[.val (.int p0), .val (.int p1), .val (.int p2), .val (.int vo62), .val (.int vc67), .val (.int r70), .val (.int (0 : Int32)), .unset, .unset] [(.int r70)])) _
          refine XS.iload X102.here hx rfl (hb hby at_81) rfl ?_
          show Steps p.tables e below (T102.setTop (mkF m 83 #[.val (.int p0), .val (.int p1), .val (.int p2), .val (.int vo62), .val (.int vc67), .val (.int r70), .val (.int (0 : Int32)), .unset, .unset] [(.int (0 : Int32)), (.int r70)])) _
          refine XS.icmpYes X102.here hx rfl (pc0 := 83) (pc' := 88) rfl (hb hby at_83) rfl (teq hc83_137).1 (by decide) (by decide) ?_
          show Steps p.tables e below (T102.setTop (mkF m 88 #[.val (.int p0), .val (.int p1), .val (.int p2), .val (.int vo62), .val (.int vc67), .val (.int r70), .val (.int (0 : Int32)), .unset, .unset] [])) _
          refine XS.iload X102.here hx rfl (hb hby at_88) rfl ?_
          show Steps p.tables e below (T102.setTop (mkF m 90 #[.val (.int p0), .val (.int p1), .val (.int p2), .val (.int vo62), .val (.int vc67), .val (.int r70), .val (.int (0 : Int32)), .unset, .unset] [(.int r70)])) _
          refine XS.ifNo X102.here hx rfl (hb hby at_90) rfl ((if0 _ _).trans (teq hc83_137).2) ?_
          show Steps p.tables e below (T102.setTop (mkF m 93 #[.val (.int p0), .val (.int p1), .val (.int p2), .val (.int vo62), .val (.int vc67), .val (.int r70), .val (.int (0 : Int32)), .unset, .unset] [])) _
          refine XS.iconst X102.here hx rfl (hb hby at_93) ?_
          show Steps p.tables e below (T102.setTop (mkF m 94 #[.val (.int p0), .val (.int p1), .val (.int p2), .val (.int vo62), .val (.int vc67), .val (.int r70), .val (.int (0 : Int32)), .unset, .unset] [(.int (1 : Int32))])) _
          exact kt
        obtain ⟨fs, hr, hrun, hended, hW, hsame⟩ := X102.leave (v := some (.int (1 : Int32))) (fun h => by rw [Bd.returns] at h; cases h)
        refine ⟨_, _, k138 _ (retN X102 hx (t := .boolean) Bd.returns (by simp) (hb hby at_94) hr), hrun, hended, _, _, rfl, ?_, ⟨_, rfl⟩, hW, hsame.mono (by decide) (by decide)⟩
        show Q0 Z p0 p1 p2 h0 n0 _ T102.heap _
        rw [eq102]
        exact ⟨rfl, N102⟩
      · have k139 : ∀ t, Steps p.tables e below (T102.setTop (mkF m 69 #[.val (.int p0), .val (.int p1), .val (.int p2), .val (.int vo62), .val (.int vc67), .val (.int r70), .unset, .unset, .unset] [(.int (lcmpW ((vc67.toInt64) - (vo62.toInt64)) (0 : Int64)))])) t → Steps p.tables e below (s₁.setTop (entryFrame m #[(.int p0), (.int p1), (.int p2)] maxLocals)) t := by
          intro t kt
          refine k105 t ?_
          refine XS.ifNo X102.here hx rfl (hb hby at_58) rfl ((if0 _ _).trans (feq hc58_106).1) ?_
          show Steps p.tables e below (T102.setTop (mkF m 61 #[.val (.int p0), .val (.int p1), .val (.int p2), .val (.int vo62), .val (.int vc67), .val (.int r70), .unset, .unset, .unset] [])) _
          refine XS.iload X102.here hx rfl (hb hby at_61) rfl ?_
          show Steps p.tables e below (T102.setTop (mkF m 63 #[.val (.int p0), .val (.int p1), .val (.int p2), .val (.int vo62), .val (.int vc67), .val (.int r70), .unset, .unset, .unset] [(.int vc67)])) _
          refine XS.i2l X102.here hx rfl (hb hby at_63) rfl ?_
          show Steps p.tables e below (T102.setTop (mkF m 64 #[.val (.int p0), .val (.int p1), .val (.int p2), .val (.int vo62), .val (.int vc67), .val (.int r70), .unset, .unset, .unset] [(.long (vc67.toInt64))])) _
          refine XS.iloadN X102.here hx rfl (hb hby at_64) rfl ?_
          show Steps p.tables e below (T102.setTop (mkF m 65 #[.val (.int p0), .val (.int p1), .val (.int p2), .val (.int vo62), .val (.int vc67), .val (.int r70), .unset, .unset, .unset] [(.int vo62), (.long (vc67.toInt64))])) _
          refine XS.i2l X102.here hx rfl (hb hby at_65) rfl ?_
          show Steps p.tables e below (T102.setTop (mkF m 66 #[.val (.int p0), .val (.int p1), .val (.int p2), .val (.int vo62), .val (.int vc67), .val (.int r70), .unset, .unset, .unset] [(.long (vo62.toInt64)), (.long (vc67.toInt64))])) _
          refine XS.lsub X102.here hx rfl (hb hby at_66) rfl ?_
          show Steps p.tables e below (T102.setTop (mkF m 67 #[.val (.int p0), .val (.int p1), .val (.int p2), .val (.int vo62), .val (.int vc67), .val (.int r70), .unset, .unset, .unset] [(.long ((vc67.toInt64) - (vo62.toInt64)))])) _
          refine XS.lconst X102.here hx rfl (hb hby at_67) ?_
          show Steps p.tables e below (T102.setTop (mkF m 68 #[.val (.int p0), .val (.int p1), .val (.int p2), .val (.int vo62), .val (.int vc67), .val (.int r70), .unset, .unset, .unset] [(.long (0 : Int64)), (.long ((vc67.toInt64) - (vo62.toInt64)))])) _
          refine XS.lcmp X102.here hx rfl (hb hby at_68) rfl ?_
          show Steps p.tables e below (T102.setTop (mkF m 69 #[.val (.int p0), .val (.int p1), .val (.int p2), .val (.int vo62), .val (.int vc67), .val (.int r70), .unset, .unset, .unset] [(.int (lcmpW ((vc67.toInt64) - (vo62.toInt64)) (0 : Int64)))])) _
          exact kt
        by_cases hc69_140 : ((vc67.toInt64) - (vo62.toInt64)) < (0 : Int64)
        · have hc83_179 : r70 = (0 : Int32) := (by
              have ar141 := rng32 p2
              have ar142 := rng32 (p2 >>> ((2 : Int32) &&& 31))
              first | have ar143 : (p2 >>> ((2 : Int32) &&& 31)).toInt = p2.toInt / 4 := (by have qw := c_ishr p2 (2 : Int32) 2 (by decide); simp only [show (2 ^ 2 : Nat) = 4 from by decide, Int.cast_ofNat_Int] at qw; omega) | (have ar143 := c_ishr p2 (2 : Int32) 2 (by decide); simp only [show (2 ^ 2 : Nat) = 4 from by decide, Int.cast_ofNat_Int] at ar143)
              have ar144 : (1 : Int32).toInt = 1 := by decide
              have ar145 := c_mask (p2 >>> ((2 : Int32) &&& 31)) (1 : Int32) 1 (by decide) (by decide)
              simp only [show (2 ^ 1 : Nat) = 2 from by decide, Int.cast_ofNat_Int] at ar145
              have ar146 := rng32 ((p2 >>> ((2 : Int32) &&& 31)) &&& (1 : Int32))
              have ar147 : (0 : Int32).toInt = 0 := by decide
              have ar148 : ((p2 >>> ((2 : Int32) &&& 31)) &&& (1 : Int32)).toInt = (0 : Int32).toInt := congrArg Int32.toInt hc13_64
              have ar149 := rng32 r73
              have ar150 := rng32 vo62
              have ar151 : (1439 : Int32).toInt = 1439 := by decide
              have ar152 : ((1439 : Int32).toInt < vo62.toInt ∧ (if (1439 : Int32) < vo62 then (0 : Int32) else (1 : Int32)).toInt = (0 : Int32).toInt) ∨ (¬ ((1439 : Int32).toInt < vo62.toInt) ∧ (if (1439 : Int32) < vo62 then (0 : Int32) else (1 : Int32)).toInt = (1 : Int32).toInt) := by
                    by_cases q : (1439 : Int32) < vo62
                    · exact Or.inl ⟨Int32.lt_iff_toInt_lt.mp q, by rw [if_pos q]⟩
                    · exact Or.inr ⟨fun q' => q (Int32.lt_iff_toInt_lt.mpr q'), by rw [if_neg q]⟩
              have ar153 : (vo62.toInt < (0 : Int32).toInt ∧ (if vo62 < (0 : Int32) then (0 : Int32) else (if (1439 : Int32) < vo62 then (0 : Int32) else (1 : Int32))).toInt = (0 : Int32).toInt) ∨ (¬ (vo62.toInt < (0 : Int32).toInt) ∧ (if vo62 < (0 : Int32) then (0 : Int32) else (if (1439 : Int32) < vo62 then (0 : Int32) else (1 : Int32))).toInt = (if (1439 : Int32) < vo62 then (0 : Int32) else (1 : Int32)).toInt) := by
                    by_cases q : vo62 < (0 : Int32)
                    · exact Or.inl ⟨Int32.lt_iff_toInt_lt.mp q, by rw [if_pos q]⟩
                    · exact Or.inr ⟨fun q' => q (Int32.lt_iff_toInt_lt.mpr q'), by rw [if_neg q]⟩
              have ar154 : (own_inday vo62).toInt = (if vo62 < (0 : Int32) then (0 : Int32) else (if (1439 : Int32) < vo62 then (0 : Int32) else (1 : Int32))).toInt := congrArg _ (own_eq_own_inday vo62)
              have ar155 := congrArg Int32.toInt hr73
              have ar156 : ¬ (r73.toInt = (0 : Int32).toInt) := fun qq_ => hc50_75 (Int32.toInt_inj.mp qq_)
              have ar157 := rng32 r104
              have ar158 := rng32 vc67
              have ar159 : ((1439 : Int32).toInt < vc67.toInt ∧ (if (1439 : Int32) < vc67 then (0 : Int32) else (1 : Int32)).toInt = (0 : Int32).toInt) ∨ (¬ ((1439 : Int32).toInt < vc67.toInt) ∧ (if (1439 : Int32) < vc67 then (0 : Int32) else (1 : Int32)).toInt = (1 : Int32).toInt) := by
                    by_cases q : (1439 : Int32) < vc67
                    · exact Or.inl ⟨Int32.lt_iff_toInt_lt.mp q, by rw [if_pos q]⟩
                    · exact Or.inr ⟨fun q' => q (Int32.lt_iff_toInt_lt.mpr q'), by rw [if_neg q]⟩
              have ar160 : (vc67.toInt < (0 : Int32).toInt ∧ (if vc67 < (0 : Int32) then (0 : Int32) else (if (1439 : Int32) < vc67 then (0 : Int32) else (1 : Int32))).toInt = (0 : Int32).toInt) ∨ (¬ (vc67.toInt < (0 : Int32).toInt) ∧ (if vc67 < (0 : Int32) then (0 : Int32) else (if (1439 : Int32) < vc67 then (0 : Int32) else (1 : Int32))).toInt = (if (1439 : Int32) < vc67 then (0 : Int32) else (1 : Int32)).toInt) := by
                    by_cases q : vc67 < (0 : Int32)
                    · exact Or.inl ⟨Int32.lt_iff_toInt_lt.mp q, by rw [if_pos q]⟩
                    · exact Or.inr ⟨fun q' => q (Int32.lt_iff_toInt_lt.mpr q'), by rw [if_neg q]⟩
              have ar161 : (own_inday vc67).toInt = (if vc67 < (0 : Int32) then (0 : Int32) else (if (1439 : Int32) < vc67 then (0 : Int32) else (1 : Int32))).toInt := congrArg _ (own_eq_own_inday vc67)
              have ar162 := congrArg Int32.toInt hr104
              have ar163 : ¬ (r104.toInt = (0 : Int32).toInt) := fun qq_ => hc58_106 (Int32.toInt_inj.mp qq_)
              have ar164 := c_i2l vc67
              have ar165 := rng64 (vc67.toInt64)
              have ar166 := c_i2l vo62
              have ar167 := rng64 (vo62.toInt64)
              have ar168 := rng64 ((vc67.toInt64) - (vo62.toInt64))
              first | have ar169 : ((vc67.toInt64) - (vo62.toInt64)).toInt = (vc67.toInt64).toInt - (vo62.toInt64).toInt := (by have qw := c_lsub (vc67.toInt64) (vo62.toInt64); omega) | (have ar169 := c_lsub (vc67.toInt64) (vo62.toInt64); skip)
              have ar170 : (0 : Int64).toInt = 0 := by decide
              have ar171 : ((vc67.toInt64) - (vo62.toInt64)).toInt < (0 : Int64).toInt := Int64.lt_iff_toInt_lt.mp hc69_140
              have ar172 := rng32 r70
              have ar173 : (1440 : Int32).toInt = 1440 := by decide
              have ar174 : (vc67.toInt < (1440 : Int32).toInt ∧ (if vc67 < (1440 : Int32) then (1 : Int32) else (0 : Int32)).toInt = (1 : Int32).toInt) ∨ (¬ (vc67.toInt < (1440 : Int32).toInt) ∧ (if vc67 < (1440 : Int32) then (1 : Int32) else (0 : Int32)).toInt = (0 : Int32).toInt) := by
                    by_cases q : vc67 < (1440 : Int32)
                    · exact Or.inl ⟨Int32.lt_iff_toInt_lt.mp q, by rw [if_pos q]⟩
                    · exact Or.inr ⟨fun q' => q (Int32.lt_iff_toInt_lt.mpr q'), by rw [if_neg q]⟩
              have ar175 : (vc67.toInt < vo62.toInt ∧ (if vc67 < vo62 then (0 : Int32) else (if vc67 < (1440 : Int32) then (1 : Int32) else (0 : Int32))).toInt = (0 : Int32).toInt) ∨ (¬ (vc67.toInt < vo62.toInt) ∧ (if vc67 < vo62 then (0 : Int32) else (if vc67 < (1440 : Int32) then (1 : Int32) else (0 : Int32))).toInt = (if vc67 < (1440 : Int32) then (1 : Int32) else (0 : Int32)).toInt) := by
                    by_cases q : vc67 < vo62
                    · exact Or.inl ⟨Int32.lt_iff_toInt_lt.mp q, by rw [if_pos q]⟩
                    · exact Or.inr ⟨fun q' => q (Int32.lt_iff_toInt_lt.mpr q'), by rw [if_neg q]⟩
              have ar176 : (vo62.toInt < (0 : Int32).toInt ∧ (if vo62 < (0 : Int32) then (0 : Int32) else (if vc67 < vo62 then (0 : Int32) else (if vc67 < (1440 : Int32) then (1 : Int32) else (0 : Int32)))).toInt = (0 : Int32).toInt) ∨ (¬ (vo62.toInt < (0 : Int32).toInt) ∧ (if vo62 < (0 : Int32) then (0 : Int32) else (if vc67 < vo62 then (0 : Int32) else (if vc67 < (1440 : Int32) then (1 : Int32) else (0 : Int32)))).toInt = (if vc67 < vo62 then (0 : Int32) else (if vc67 < (1440 : Int32) then (1 : Int32) else (0 : Int32))).toInt) := by
                    by_cases q : vo62 < (0 : Int32)
                    · exact Or.inl ⟨Int32.lt_iff_toInt_lt.mp q, by rw [if_pos q]⟩
                    · exact Or.inr ⟨fun q' => q (Int32.lt_iff_toInt_lt.mpr q'), by rw [if_neg q]⟩
              have ar177 : (own_isday vo62 vc67).toInt = (if vo62 < (0 : Int32) then (0 : Int32) else (if vc67 < vo62 then (0 : Int32) else (if vc67 < (1440 : Int32) then (1 : Int32) else (0 : Int32)))).toInt := congrArg _ (own_eq_own_isday vo62 vc67)
              have ar178 := congrArg Int32.toInt hr70
              exact Int32.toInt_inj.mp (by omega))
          have k180 : ∀ t, Steps p.tables e below (T102.setTop (mkF m 94 #[.val (.int p0), .val (.int p1), .val (.int p2), .val (.int vo62), .val (.int vc67), .val (.int r70), .val (.int (0 : Int32)), .unset, .unset] [(.int (1 : Int32))])) t → Steps p.tables e below (s₁.setTop (entryFrame m #[(.int p0), (.int p1), (.int p2)] maxLocals)) t := by
            intro t kt
            refine k139 t ?_
            refine XS.ifYes X102.here hx rfl (pc0 := 69) (pc' := 76) rfl (hb hby at_69) rfl ((if0 _ _).trans (tlt ((show ((lcmpW ((vc67.toInt64) - (vo62.toInt64)) (0 : Int64)) < 0) ↔ (((vc67.toInt64) - (vo62.toInt64)) < (0 : Int64)) from lw_lt ((vc67.toInt64) - (vo62.toInt64)) (0 : Int64)).mpr hc69_140)).1) (by decide) (by decide) ?_
            show Steps p.tables e below (T102.setTop (mkF m 76 #[.val (.int p0), .val (.int p1), .val (.int p2), .val (.int vo62), .val (.int vc67), .val (.int r70), .unset, .unset, .unset] [])) _
            refine XS.iconst X102.here hx rfl (hb hby at_76) ?_
            show Steps p.tables e below (T102.setTop (mkF m 77 #[.val (.int p0), .val (.int p1), .val (.int p2), .val (.int vo62), .val (.int vc67), .val (.int r70), .unset, .unset, .unset] [(.int (0 : Int32))])) _
            refine XS.istore X102.here hx rfl (hb hby at_77) rfl (l' := #[.val (.int p0), .val (.int p1), .val (.int p2), .val (.int vo62), .val (.int vc67), .val (.int r70), .val (.int (0 : Int32)), .unset, .unset]) rfl ?_
            show Steps p.tables e below (T102.setTop (mkF m 79 #[.val (.int p0), .val (.int p1), .val (.int p2), .val (.int vo62), .val (.int vc67), .val (.int r70), .val (.int (0 : Int32)), .unset, .unset] [])) _
            refine XS.iload X102.here hx rfl (hb hby at_79) rfl ?_
            show Steps p.tables e below (T102.setTop (mkF m 81 #[.val (.int p0), .val (.int p1), .val (.int p2), .val (.int vo62), .val (.int vc67), .val (.int r70), .val (.int (0 : Int32)), .unset, .unset] [(.int r70)])) _
            refine XS.iload X102.here hx rfl (hb hby at_81) rfl ?_
            show Steps p.tables e below (T102.setTop (mkF m 83 #[.val (.int p0), .val (.int p1), .val (.int p2), .val (.int vo62), .val (.int vc67), .val (.int r70), .val (.int (0 : Int32)), .unset, .unset] [(.int (0 : Int32)), (.int r70)])) _
            refine XS.icmpYes X102.here hx rfl (pc0 := 83) (pc' := 88) rfl (hb hby at_83) rfl (teq hc83_179).1 (by decide) (by decide) ?_
            show Steps p.tables e below (T102.setTop (mkF m 88 #[.val (.int p0), .val (.int p1), .val (.int p2), .val (.int vo62), .val (.int vc67), .val (.int r70), .val (.int (0 : Int32)), .unset, .unset] [])) _
            refine XS.iload X102.here hx rfl (hb hby at_88) rfl ?_
            show Steps p.tables e below (T102.setTop (mkF m 90 #[.val (.int p0), .val (.int p1), .val (.int p2), .val (.int vo62), .val (.int vc67), .val (.int r70), .val (.int (0 : Int32)), .unset, .unset] [(.int r70)])) _
            refine XS.ifNo X102.here hx rfl (hb hby at_90) rfl ((if0 _ _).trans (teq hc83_179).2) ?_
            show Steps p.tables e below (T102.setTop (mkF m 93 #[.val (.int p0), .val (.int p1), .val (.int p2), .val (.int vo62), .val (.int vc67), .val (.int r70), .val (.int (0 : Int32)), .unset, .unset] [])) _
            refine XS.iconst X102.here hx rfl (hb hby at_93) ?_
            show Steps p.tables e below (T102.setTop (mkF m 94 #[.val (.int p0), .val (.int p1), .val (.int p2), .val (.int vo62), .val (.int vc67), .val (.int r70), .val (.int (0 : Int32)), .unset, .unset] [(.int (1 : Int32))])) _
            exact kt
          obtain ⟨fs, hr, hrun, hended, hW, hsame⟩ := X102.leave (v := some (.int (1 : Int32))) (fun h => by rw [Bd.returns] at h; cases h)
          refine ⟨_, _, k180 _ (retN X102 hx (t := .boolean) Bd.returns (by simp) (hb hby at_94) hr), hrun, hended, _, _, rfl, ?_, ⟨_, rfl⟩, hW, hsame.mono (by decide) (by decide)⟩
          show Q0 Z p0 p1 p2 h0 n0 _ T102.heap _
          rw [eq102]
          exact ⟨rfl, N102⟩
        · have hc83_219 : r70 = (1 : Int32) := (by
              have ar181 := rng32 p2
              have ar182 := rng32 (p2 >>> ((2 : Int32) &&& 31))
              first | have ar183 : (p2 >>> ((2 : Int32) &&& 31)).toInt = p2.toInt / 4 := (by have qw := c_ishr p2 (2 : Int32) 2 (by decide); simp only [show (2 ^ 2 : Nat) = 4 from by decide, Int.cast_ofNat_Int] at qw; omega) | (have ar183 := c_ishr p2 (2 : Int32) 2 (by decide); simp only [show (2 ^ 2 : Nat) = 4 from by decide, Int.cast_ofNat_Int] at ar183)
              have ar184 : (1 : Int32).toInt = 1 := by decide
              have ar185 := c_mask (p2 >>> ((2 : Int32) &&& 31)) (1 : Int32) 1 (by decide) (by decide)
              simp only [show (2 ^ 1 : Nat) = 2 from by decide, Int.cast_ofNat_Int] at ar185
              have ar186 := rng32 ((p2 >>> ((2 : Int32) &&& 31)) &&& (1 : Int32))
              have ar187 : (0 : Int32).toInt = 0 := by decide
              have ar188 : ((p2 >>> ((2 : Int32) &&& 31)) &&& (1 : Int32)).toInt = (0 : Int32).toInt := congrArg Int32.toInt hc13_64
              have ar189 := rng32 r73
              have ar190 := rng32 vo62
              have ar191 : (1439 : Int32).toInt = 1439 := by decide
              have ar192 : ((1439 : Int32).toInt < vo62.toInt ∧ (if (1439 : Int32) < vo62 then (0 : Int32) else (1 : Int32)).toInt = (0 : Int32).toInt) ∨ (¬ ((1439 : Int32).toInt < vo62.toInt) ∧ (if (1439 : Int32) < vo62 then (0 : Int32) else (1 : Int32)).toInt = (1 : Int32).toInt) := by
                    by_cases q : (1439 : Int32) < vo62
                    · exact Or.inl ⟨Int32.lt_iff_toInt_lt.mp q, by rw [if_pos q]⟩
                    · exact Or.inr ⟨fun q' => q (Int32.lt_iff_toInt_lt.mpr q'), by rw [if_neg q]⟩
              have ar193 : (vo62.toInt < (0 : Int32).toInt ∧ (if vo62 < (0 : Int32) then (0 : Int32) else (if (1439 : Int32) < vo62 then (0 : Int32) else (1 : Int32))).toInt = (0 : Int32).toInt) ∨ (¬ (vo62.toInt < (0 : Int32).toInt) ∧ (if vo62 < (0 : Int32) then (0 : Int32) else (if (1439 : Int32) < vo62 then (0 : Int32) else (1 : Int32))).toInt = (if (1439 : Int32) < vo62 then (0 : Int32) else (1 : Int32)).toInt) := by
                    by_cases q : vo62 < (0 : Int32)
                    · exact Or.inl ⟨Int32.lt_iff_toInt_lt.mp q, by rw [if_pos q]⟩
                    · exact Or.inr ⟨fun q' => q (Int32.lt_iff_toInt_lt.mpr q'), by rw [if_neg q]⟩
              have ar194 : (own_inday vo62).toInt = (if vo62 < (0 : Int32) then (0 : Int32) else (if (1439 : Int32) < vo62 then (0 : Int32) else (1 : Int32))).toInt := congrArg _ (own_eq_own_inday vo62)
              have ar195 := congrArg Int32.toInt hr73
              have ar196 : ¬ (r73.toInt = (0 : Int32).toInt) := fun qq_ => hc50_75 (Int32.toInt_inj.mp qq_)
              have ar197 := rng32 r104
              have ar198 := rng32 vc67
              have ar199 : ((1439 : Int32).toInt < vc67.toInt ∧ (if (1439 : Int32) < vc67 then (0 : Int32) else (1 : Int32)).toInt = (0 : Int32).toInt) ∨ (¬ ((1439 : Int32).toInt < vc67.toInt) ∧ (if (1439 : Int32) < vc67 then (0 : Int32) else (1 : Int32)).toInt = (1 : Int32).toInt) := by
                    by_cases q : (1439 : Int32) < vc67
                    · exact Or.inl ⟨Int32.lt_iff_toInt_lt.mp q, by rw [if_pos q]⟩
                    · exact Or.inr ⟨fun q' => q (Int32.lt_iff_toInt_lt.mpr q'), by rw [if_neg q]⟩
              have ar200 : (vc67.toInt < (0 : Int32).toInt ∧ (if vc67 < (0 : Int32) then (0 : Int32) else (if (1439 : Int32) < vc67 then (0 : Int32) else (1 : Int32))).toInt = (0 : Int32).toInt) ∨ (¬ (vc67.toInt < (0 : Int32).toInt) ∧ (if vc67 < (0 : Int32) then (0 : Int32) else (if (1439 : Int32) < vc67 then (0 : Int32) else (1 : Int32))).toInt = (if (1439 : Int32) < vc67 then (0 : Int32) else (1 : Int32)).toInt) := by
                    by_cases q : vc67 < (0 : Int32)
                    · exact Or.inl ⟨Int32.lt_iff_toInt_lt.mp q, by rw [if_pos q]⟩
                    · exact Or.inr ⟨fun q' => q (Int32.lt_iff_toInt_lt.mpr q'), by rw [if_neg q]⟩
              have ar201 : (own_inday vc67).toInt = (if vc67 < (0 : Int32) then (0 : Int32) else (if (1439 : Int32) < vc67 then (0 : Int32) else (1 : Int32))).toInt := congrArg _ (own_eq_own_inday vc67)
              have ar202 := congrArg Int32.toInt hr104
              have ar203 : ¬ (r104.toInt = (0 : Int32).toInt) := fun qq_ => hc58_106 (Int32.toInt_inj.mp qq_)
              have ar204 := c_i2l vc67
              have ar205 := rng64 (vc67.toInt64)
              have ar206 := c_i2l vo62
              have ar207 := rng64 (vo62.toInt64)
              have ar208 := rng64 ((vc67.toInt64) - (vo62.toInt64))
              first | have ar209 : ((vc67.toInt64) - (vo62.toInt64)).toInt = (vc67.toInt64).toInt - (vo62.toInt64).toInt := (by have qw := c_lsub (vc67.toInt64) (vo62.toInt64); omega) | (have ar209 := c_lsub (vc67.toInt64) (vo62.toInt64); skip)
              have ar210 : (0 : Int64).toInt = 0 := by decide
              have ar211 : ¬ (((vc67.toInt64) - (vo62.toInt64)).toInt < (0 : Int64).toInt) := fun qq_ => hc69_140 (Int64.lt_iff_toInt_lt.mpr qq_)
              have ar212 := rng32 r70
              have ar213 : (1440 : Int32).toInt = 1440 := by decide
              have ar214 : (vc67.toInt < (1440 : Int32).toInt ∧ (if vc67 < (1440 : Int32) then (1 : Int32) else (0 : Int32)).toInt = (1 : Int32).toInt) ∨ (¬ (vc67.toInt < (1440 : Int32).toInt) ∧ (if vc67 < (1440 : Int32) then (1 : Int32) else (0 : Int32)).toInt = (0 : Int32).toInt) := by
                    by_cases q : vc67 < (1440 : Int32)
                    · exact Or.inl ⟨Int32.lt_iff_toInt_lt.mp q, by rw [if_pos q]⟩
                    · exact Or.inr ⟨fun q' => q (Int32.lt_iff_toInt_lt.mpr q'), by rw [if_neg q]⟩
              have ar215 : (vc67.toInt < vo62.toInt ∧ (if vc67 < vo62 then (0 : Int32) else (if vc67 < (1440 : Int32) then (1 : Int32) else (0 : Int32))).toInt = (0 : Int32).toInt) ∨ (¬ (vc67.toInt < vo62.toInt) ∧ (if vc67 < vo62 then (0 : Int32) else (if vc67 < (1440 : Int32) then (1 : Int32) else (0 : Int32))).toInt = (if vc67 < (1440 : Int32) then (1 : Int32) else (0 : Int32)).toInt) := by
                    by_cases q : vc67 < vo62
                    · exact Or.inl ⟨Int32.lt_iff_toInt_lt.mp q, by rw [if_pos q]⟩
                    · exact Or.inr ⟨fun q' => q (Int32.lt_iff_toInt_lt.mpr q'), by rw [if_neg q]⟩
              have ar216 : (vo62.toInt < (0 : Int32).toInt ∧ (if vo62 < (0 : Int32) then (0 : Int32) else (if vc67 < vo62 then (0 : Int32) else (if vc67 < (1440 : Int32) then (1 : Int32) else (0 : Int32)))).toInt = (0 : Int32).toInt) ∨ (¬ (vo62.toInt < (0 : Int32).toInt) ∧ (if vo62 < (0 : Int32) then (0 : Int32) else (if vc67 < vo62 then (0 : Int32) else (if vc67 < (1440 : Int32) then (1 : Int32) else (0 : Int32)))).toInt = (if vc67 < vo62 then (0 : Int32) else (if vc67 < (1440 : Int32) then (1 : Int32) else (0 : Int32))).toInt) := by
                    by_cases q : vo62 < (0 : Int32)
                    · exact Or.inl ⟨Int32.lt_iff_toInt_lt.mp q, by rw [if_pos q]⟩
                    · exact Or.inr ⟨fun q' => q (Int32.lt_iff_toInt_lt.mpr q'), by rw [if_neg q]⟩
              have ar217 : (own_isday vo62 vc67).toInt = (if vo62 < (0 : Int32) then (0 : Int32) else (if vc67 < vo62 then (0 : Int32) else (if vc67 < (1440 : Int32) then (1 : Int32) else (0 : Int32)))).toInt := congrArg _ (own_eq_own_isday vo62 vc67)
              have ar218 := congrArg Int32.toInt hr70
              exact Int32.toInt_inj.mp (by omega))
          have k220 : ∀ t, Steps p.tables e below (T102.setTop (mkF m 90 #[.val (.int p0), .val (.int p1), .val (.int p2), .val (.int vo62), .val (.int vc67), .val (.int r70), .val (.int (1 : Int32)), .unset, .unset] [(.int r70)])) t → Steps p.tables e below (s₁.setTop (entryFrame m #[(.int p0), (.int p1), (.int p2)] maxLocals)) t := by
            intro t kt
            refine k139 t ?_
            refine XS.ifNo X102.here hx rfl (hb hby at_69) rfl ((if0 _ _).trans (flt (fun qq_ => hc69_140 ((show ((lcmpW ((vc67.toInt64) - (vo62.toInt64)) (0 : Int64)) < 0) ↔ (((vc67.toInt64) - (vo62.toInt64)) < (0 : Int64)) from lw_lt ((vc67.toInt64) - (vo62.toInt64)) (0 : Int64)).mp qq_))).1) ?_
            show Steps p.tables e below (T102.setTop (mkF m 72 #[.val (.int p0), .val (.int p1), .val (.int p2), .val (.int vo62), .val (.int vc67), .val (.int r70), .unset, .unset, .unset] [])) _
            refine XS.iconst X102.here hx rfl (hb hby at_72) ?_
            show Steps p.tables e below (T102.setTop (mkF m 73 #[.val (.int p0), .val (.int p1), .val (.int p2), .val (.int vo62), .val (.int vc67), .val (.int r70), .unset, .unset, .unset] [(.int (1 : Int32))])) _
            refine XS.goto X102.here hx rfl (pc0 := 73) (pc' := 77) rfl (hb hby at_73) (by decide) (by decide) ?_
            show Steps p.tables e below (T102.setTop (mkF m 77 #[.val (.int p0), .val (.int p1), .val (.int p2), .val (.int vo62), .val (.int vc67), .val (.int r70), .unset, .unset, .unset] [(.int (1 : Int32))])) _
            refine XS.istore X102.here hx rfl (hb hby at_77) rfl (l' := #[.val (.int p0), .val (.int p1), .val (.int p2), .val (.int vo62), .val (.int vc67), .val (.int r70), .val (.int (1 : Int32)), .unset, .unset]) rfl ?_
            show Steps p.tables e below (T102.setTop (mkF m 79 #[.val (.int p0), .val (.int p1), .val (.int p2), .val (.int vo62), .val (.int vc67), .val (.int r70), .val (.int (1 : Int32)), .unset, .unset] [])) _
            refine XS.iload X102.here hx rfl (hb hby at_79) rfl ?_
            show Steps p.tables e below (T102.setTop (mkF m 81 #[.val (.int p0), .val (.int p1), .val (.int p2), .val (.int vo62), .val (.int vc67), .val (.int r70), .val (.int (1 : Int32)), .unset, .unset] [(.int r70)])) _
            refine XS.iload X102.here hx rfl (hb hby at_81) rfl ?_
            show Steps p.tables e below (T102.setTop (mkF m 83 #[.val (.int p0), .val (.int p1), .val (.int p2), .val (.int vo62), .val (.int vc67), .val (.int r70), .val (.int (1 : Int32)), .unset, .unset] [(.int (1 : Int32)), (.int r70)])) _
            refine XS.icmpYes X102.here hx rfl (pc0 := 83) (pc' := 88) rfl (hb hby at_83) rfl (teq hc83_219).1 (by decide) (by decide) ?_
            show Steps p.tables e below (T102.setTop (mkF m 88 #[.val (.int p0), .val (.int p1), .val (.int p2), .val (.int vo62), .val (.int vc67), .val (.int r70), .val (.int (1 : Int32)), .unset, .unset] [])) _
            refine XS.iload X102.here hx rfl (hb hby at_88) rfl ?_
            show Steps p.tables e below (T102.setTop (mkF m 90 #[.val (.int p0), .val (.int p1), .val (.int p2), .val (.int vo62), .val (.int vc67), .val (.int r70), .val (.int (1 : Int32)), .unset, .unset] [(.int r70)])) _
            exact kt
          by_cases hc90_221 : r70 = (0 : Int32)
          · have k222 : ∀ t, Steps p.tables e below (T102.setTop (mkF m 94 #[.val (.int p0), .val (.int p1), .val (.int p2), .val (.int vo62), .val (.int vc67), .val (.int r70), .val (.int (1 : Int32)), .unset, .unset] [(.int (1 : Int32))])) t → Steps p.tables e below (s₁.setTop (entryFrame m #[(.int p0), (.int p1), (.int p2)] maxLocals)) t := by
              intro t kt
              refine k220 t ?_
              refine XS.ifNo X102.here hx rfl (hb hby at_90) rfl ((if0 _ _).trans (teq hc90_221).2) ?_
              show Steps p.tables e below (T102.setTop (mkF m 93 #[.val (.int p0), .val (.int p1), .val (.int p2), .val (.int vo62), .val (.int vc67), .val (.int r70), .val (.int (1 : Int32)), .unset, .unset] [])) _
              refine XS.iconst X102.here hx rfl (hb hby at_93) ?_
              show Steps p.tables e below (T102.setTop (mkF m 94 #[.val (.int p0), .val (.int p1), .val (.int p2), .val (.int vo62), .val (.int vc67), .val (.int r70), .val (.int (1 : Int32)), .unset, .unset] [(.int (1 : Int32))])) _
              exact kt
            obtain ⟨fs, hr, hrun, hended, hW, hsame⟩ := X102.leave (v := some (.int (1 : Int32))) (fun h => by rw [Bd.returns] at h; cases h)
            refine ⟨_, _, k222 _ (retN X102 hx (t := .boolean) Bd.returns (by simp) (hb hby at_94) hr), hrun, hended, _, _, rfl, ?_, ⟨_, rfl⟩, hW, hsame.mono (by decide) (by decide)⟩
            show Q0 Z p0 p1 p2 h0 n0 _ T102.heap _
            rw [eq102]
            exact ⟨rfl, N102⟩
          · obtain ⟨T223, h223, X223, e223, E223, A223, D223, -, st223⟩ := newO X102 hx hZ hown (hw _ (List.mem_of_getElem? (i := 12) rfl)) (hw _ (List.mem_of_getElem? (i := 13) rfl)) (hw _ (List.mem_of_getElem? (i := 6) rfl)) eq102 (g := (mkF m 95 #[.val (.int p0), .val (.int p1), .val (.int p2), .val (.int vo62), .val (.int vc67), .val (.int r70), .val (.int (1 : Int32)), .unset, .unset] [])) rfl (hb hby at_95) (by decide) (by decide)
            obtain ⟨b223, g223⟩ : ∃ z, z = h0.size := ⟨_, rfl⟩
            rw [← g223] at A223 D223 st223
            have ge_b223 : n0 ≤ b223 := Nat.le_trans Z0 (Nat.le_of_eq g223.symm)
            have F224 : Fld Z h223 b223 "com/example/tidegate/tidegate/model/OperatingDay" "open" "I" (.int (0 : Int32)) := D223 (Or.inr (hw _ (List.mem_of_getElem? (i := 27) rfl))) (ty := .int) (by decide)
            have F225 : Fld Z h223 b223 "com/example/tidegate/tidegate/model/OperatingDay" "close" "I" (.int (0 : Int32)) := D223 (Or.inr (hw _ (List.mem_of_getElem? (i := 29) rfl))) (ty := .int) (by decide)
            have f226 := (Nat.le_trans Z0 ((Keep.refl _ []).ext E223).1)
            have ha227 : ¬ ((own_isday vo62 vc67) = (0 : Int32)) := (by
                have ar228 := rng32 p2
                have ar229 := rng32 (p2 >>> ((2 : Int32) &&& 31))
                first | have ar230 : (p2 >>> ((2 : Int32) &&& 31)).toInt = p2.toInt / 4 := (by have qw := c_ishr p2 (2 : Int32) 2 (by decide); simp only [show (2 ^ 2 : Nat) = 4 from by decide, Int.cast_ofNat_Int] at qw; omega) | (have ar230 := c_ishr p2 (2 : Int32) 2 (by decide); simp only [show (2 ^ 2 : Nat) = 4 from by decide, Int.cast_ofNat_Int] at ar230)
                have ar231 : (1 : Int32).toInt = 1 := by decide
                have ar232 := c_mask (p2 >>> ((2 : Int32) &&& 31)) (1 : Int32) 1 (by decide) (by decide)
                simp only [show (2 ^ 1 : Nat) = 2 from by decide, Int.cast_ofNat_Int] at ar232
                have ar233 := rng32 ((p2 >>> ((2 : Int32) &&& 31)) &&& (1 : Int32))
                have ar234 : (0 : Int32).toInt = 0 := by decide
                have ar235 : ((p2 >>> ((2 : Int32) &&& 31)) &&& (1 : Int32)).toInt = (0 : Int32).toInt := congrArg Int32.toInt hc13_64
                have ar236 := rng32 r73
                have ar237 := rng32 vo62
                have ar238 : (1439 : Int32).toInt = 1439 := by decide
                have ar239 : ((1439 : Int32).toInt < vo62.toInt ∧ (if (1439 : Int32) < vo62 then (0 : Int32) else (1 : Int32)).toInt = (0 : Int32).toInt) ∨ (¬ ((1439 : Int32).toInt < vo62.toInt) ∧ (if (1439 : Int32) < vo62 then (0 : Int32) else (1 : Int32)).toInt = (1 : Int32).toInt) := by
                      by_cases q : (1439 : Int32) < vo62
                      · exact Or.inl ⟨Int32.lt_iff_toInt_lt.mp q, by rw [if_pos q]⟩
                      · exact Or.inr ⟨fun q' => q (Int32.lt_iff_toInt_lt.mpr q'), by rw [if_neg q]⟩
                have ar240 : (vo62.toInt < (0 : Int32).toInt ∧ (if vo62 < (0 : Int32) then (0 : Int32) else (if (1439 : Int32) < vo62 then (0 : Int32) else (1 : Int32))).toInt = (0 : Int32).toInt) ∨ (¬ (vo62.toInt < (0 : Int32).toInt) ∧ (if vo62 < (0 : Int32) then (0 : Int32) else (if (1439 : Int32) < vo62 then (0 : Int32) else (1 : Int32))).toInt = (if (1439 : Int32) < vo62 then (0 : Int32) else (1 : Int32)).toInt) := by
                      by_cases q : vo62 < (0 : Int32)
                      · exact Or.inl ⟨Int32.lt_iff_toInt_lt.mp q, by rw [if_pos q]⟩
                      · exact Or.inr ⟨fun q' => q (Int32.lt_iff_toInt_lt.mpr q'), by rw [if_neg q]⟩
                have ar241 : (own_inday vo62).toInt = (if vo62 < (0 : Int32) then (0 : Int32) else (if (1439 : Int32) < vo62 then (0 : Int32) else (1 : Int32))).toInt := congrArg _ (own_eq_own_inday vo62)
                have ar242 := congrArg Int32.toInt hr73
                have ar243 : ¬ (r73.toInt = (0 : Int32).toInt) := fun qq_ => hc50_75 (Int32.toInt_inj.mp qq_)
                have ar244 := rng32 r104
                have ar245 := rng32 vc67
                have ar246 : ((1439 : Int32).toInt < vc67.toInt ∧ (if (1439 : Int32) < vc67 then (0 : Int32) else (1 : Int32)).toInt = (0 : Int32).toInt) ∨ (¬ ((1439 : Int32).toInt < vc67.toInt) ∧ (if (1439 : Int32) < vc67 then (0 : Int32) else (1 : Int32)).toInt = (1 : Int32).toInt) := by
                      by_cases q : (1439 : Int32) < vc67
                      · exact Or.inl ⟨Int32.lt_iff_toInt_lt.mp q, by rw [if_pos q]⟩
                      · exact Or.inr ⟨fun q' => q (Int32.lt_iff_toInt_lt.mpr q'), by rw [if_neg q]⟩
                have ar247 : (vc67.toInt < (0 : Int32).toInt ∧ (if vc67 < (0 : Int32) then (0 : Int32) else (if (1439 : Int32) < vc67 then (0 : Int32) else (1 : Int32))).toInt = (0 : Int32).toInt) ∨ (¬ (vc67.toInt < (0 : Int32).toInt) ∧ (if vc67 < (0 : Int32) then (0 : Int32) else (if (1439 : Int32) < vc67 then (0 : Int32) else (1 : Int32))).toInt = (if (1439 : Int32) < vc67 then (0 : Int32) else (1 : Int32)).toInt) := by
                      by_cases q : vc67 < (0 : Int32)
                      · exact Or.inl ⟨Int32.lt_iff_toInt_lt.mp q, by rw [if_pos q]⟩
                      · exact Or.inr ⟨fun q' => q (Int32.lt_iff_toInt_lt.mpr q'), by rw [if_neg q]⟩
                have ar248 : (own_inday vc67).toInt = (if vc67 < (0 : Int32) then (0 : Int32) else (if (1439 : Int32) < vc67 then (0 : Int32) else (1 : Int32))).toInt := congrArg _ (own_eq_own_inday vc67)
                have ar249 := congrArg Int32.toInt hr104
                have ar250 : ¬ (r104.toInt = (0 : Int32).toInt) := fun qq_ => hc58_106 (Int32.toInt_inj.mp qq_)
                have ar251 := c_i2l vc67
                have ar252 := rng64 (vc67.toInt64)
                have ar253 := c_i2l vo62
                have ar254 := rng64 (vo62.toInt64)
                have ar255 := rng64 ((vc67.toInt64) - (vo62.toInt64))
                first | have ar256 : ((vc67.toInt64) - (vo62.toInt64)).toInt = (vc67.toInt64).toInt - (vo62.toInt64).toInt := (by have qw := c_lsub (vc67.toInt64) (vo62.toInt64); omega) | (have ar256 := c_lsub (vc67.toInt64) (vo62.toInt64); skip)
                have ar257 : (0 : Int64).toInt = 0 := by decide
                have ar258 : ¬ (((vc67.toInt64) - (vo62.toInt64)).toInt < (0 : Int64).toInt) := fun qq_ => hc69_140 (Int64.lt_iff_toInt_lt.mpr qq_)
                have ar259 := rng32 r70
                have ar260 : (1440 : Int32).toInt = 1440 := by decide
                have ar261 : (vc67.toInt < (1440 : Int32).toInt ∧ (if vc67 < (1440 : Int32) then (1 : Int32) else (0 : Int32)).toInt = (1 : Int32).toInt) ∨ (¬ (vc67.toInt < (1440 : Int32).toInt) ∧ (if vc67 < (1440 : Int32) then (1 : Int32) else (0 : Int32)).toInt = (0 : Int32).toInt) := by
                      by_cases q : vc67 < (1440 : Int32)
                      · exact Or.inl ⟨Int32.lt_iff_toInt_lt.mp q, by rw [if_pos q]⟩
                      · exact Or.inr ⟨fun q' => q (Int32.lt_iff_toInt_lt.mpr q'), by rw [if_neg q]⟩
                have ar262 : (vc67.toInt < vo62.toInt ∧ (if vc67 < vo62 then (0 : Int32) else (if vc67 < (1440 : Int32) then (1 : Int32) else (0 : Int32))).toInt = (0 : Int32).toInt) ∨ (¬ (vc67.toInt < vo62.toInt) ∧ (if vc67 < vo62 then (0 : Int32) else (if vc67 < (1440 : Int32) then (1 : Int32) else (0 : Int32))).toInt = (if vc67 < (1440 : Int32) then (1 : Int32) else (0 : Int32)).toInt) := by
                      by_cases q : vc67 < vo62
                      · exact Or.inl ⟨Int32.lt_iff_toInt_lt.mp q, by rw [if_pos q]⟩
                      · exact Or.inr ⟨fun q' => q (Int32.lt_iff_toInt_lt.mpr q'), by rw [if_neg q]⟩
                have ar263 : (vo62.toInt < (0 : Int32).toInt ∧ (if vo62 < (0 : Int32) then (0 : Int32) else (if vc67 < vo62 then (0 : Int32) else (if vc67 < (1440 : Int32) then (1 : Int32) else (0 : Int32)))).toInt = (0 : Int32).toInt) ∨ (¬ (vo62.toInt < (0 : Int32).toInt) ∧ (if vo62 < (0 : Int32) then (0 : Int32) else (if vc67 < vo62 then (0 : Int32) else (if vc67 < (1440 : Int32) then (1 : Int32) else (0 : Int32)))).toInt = (if vc67 < vo62 then (0 : Int32) else (if vc67 < (1440 : Int32) then (1 : Int32) else (0 : Int32))).toInt) := by
                      by_cases q : vo62 < (0 : Int32)
                      · exact Or.inl ⟨Int32.lt_iff_toInt_lt.mp q, by rw [if_pos q]⟩
                      · exact Or.inr ⟨fun q' => q (Int32.lt_iff_toInt_lt.mpr q'), by rw [if_neg q]⟩
                have ar264 : (own_isday vo62 vc67).toInt = (if vo62 < (0 : Int32) then (0 : Int32) else (if vc67 < vo62 then (0 : Int32) else (if vc67 < (1440 : Int32) then (1 : Int32) else (0 : Int32)))).toInt := congrArg _ (own_eq_own_isday vo62 vc67)
                have ar265 := congrArg Int32.toInt hr70
                have ar266 : r70.toInt = (1 : Int32).toInt := congrArg Int32.toInt hc83_219
                have ar267 : ¬ (r70.toInt = (0 : Int32).toInt) := fun qq_ => hc90_221 (Int32.toInt_inj.mp qq_)
                exact fun qq_ => absurd (congrArg Int32.toInt qq_) (by omega))
            obtain ⟨_, _, ⟨T268, L268, kc268, nc268⟩, -, X268, ⟨Lc268, hQ268, l268, y268, z268⟩, st268⟩ := X223.specialBack hx (y := (⟨"com/example/tidegate/tidegate/model/OperatingDay", "<init>", "(II)V"⟩ : MethodName)) rfl hown (mvT hZ (hw _ (List.mem_of_getElem? (i := 14) rfl))) (mvT hZ (hw _ (List.mem_of_getElem? (i := 15) rfl))) (mvT hZ (hw _ (List.mem_of_getElem? (i := 16) rfl))) (by decide) (backOf (W := 1) (rm4 l Z a0 hw [] b223 vo62 vc67 h223 n0 f226 A223 F224 F225 ge_b223 ha227) hZ (hw _ (List.mem_of_getElem? (i := 16) rfl)) (hw _ (List.mem_of_getElem? (i := 6) rfl)) (by decide) (by decide)) (g := (mkF m 102 #[.val (.int p0), .val (.int p1), .val (.int p2), .val (.int vo62), .val (.int vc67), .val (.int r70), .val (.int (1 : Int32)), .unset, .unset] [(.int vc67), (.int vo62), (.ref b223), (.ref b223)])) rfl (by rw [hml]; rfl) (Steps.refl _) (a := b223) (argsL := [(.int vo62), (.int vc67)]) (rest := [(.ref b223)]) (lenOf pd_3 rfl) rfl (by show 2 * 0 + _ ≤ _; exact Nat.le_of_eq rfl) (hb hby at_102) (fun _ _ => ⟨rfl, e223, (by decide : 1 + 0 ≤ _), (by decide : 2 + 0 ≤ _)⟩)
            dsimp only [Pt.U, Pt.locs, Pt.cells, Pt.slots] at X268 l268 y268 z268 st268 hQ268
            subst l268 y268 z268
            obtain ⟨rfl, Nq268, oK268, oFaopen268, oFaclose268⟩ := hQ268
            have N268 := Fr.app N102 Nq268
            have f270 := (A223.keep oK268)
            obtain ⟨cq269, kq269, q269a, q269b, q269c⟩ := isOf hZ rfl f270
            obtain ⟨_, _, ⟨T269, L269, kc269, nc269⟩, -, X269, ⟨Lc269, hQ269, l269, y269, z269⟩, st269⟩ := X268.virtualBack hx (y := (⟨"com/example/tidegate/tidegate/model/OperatingDay", "minutes", "()I"⟩ : MethodName)) (z := (⟨"com/example/tidegate/tidegate/model/OperatingDay", "minutes", "()I"⟩ : MethodName)) hown (mvT hZ (hw _ (List.mem_of_getElem? (i := 30) rfl))) (mvT hZ (hw _ (List.mem_of_getElem? (i := 31) rfl))) (notFace_of_selects (args := #[]) (mvT hZ (hw _ (List.mem_of_getElem? (i := 33) rfl)))) (mvT hZ (hw _ (List.mem_of_getElem? (i := 33) rfl))) (mvT hZ (hw _ (List.mem_of_getElem? (i := 32) rfl))) (by decide) (backOf (W := 0) (rm7 l Z a0 hw [] b223 vo62 vc67 T268.heap n0 oFaopen268 oFaclose268) hZ (hw _ (List.mem_of_getElem? (i := 34) rfl)) (hw _ (List.mem_of_getElem? (i := 6) rfl)) (by decide) (by decide)) q269a q269c (g := (mkF m 109 #[.val (.int p0), .val (.int p1), .val (.int p2), .val (.int vo62), .val (.int vc67), .val (.int r70), .val (.int (1 : Int32)), .val (.ref b223), .unset] [(.ref b223)])) rfl (by rw [hml]; rfl) (Steps.refl _) (argsL := []) (rest := []) (lenOf pd_5 rfl) rfl (by show 2 * 0 + _ ≤ _; exact Nat.le_of_eq rfl) (hb hby at_109) (fun _ _ => ⟨rfl, rfl, (by decide : 1 + 0 ≤ _), (by decide : 2 + 0 ≤ _)⟩)
            dsimp only [Pt.U, Pt.locs, Pt.cells, Pt.slots] at X269 l269 y269 z269 st269 hQ269
            subst l269 y269 z269
            obtain ⟨rfl, Nq269, eq269⟩ := hQ269
            have N269 := Fr.app N268 Nq269
            have k271 : ∀ t, Steps p.tables e below (T269.setTop (mkF m 112 #[.val (.int p0), .val (.int p1), .val (.int p2), .val (.int vo62), .val (.int vc67), .val (.int r70), .val (.int (1 : Int32)), .val (.ref b223), .unset] [(.int ((vc67 - vo62) + (1 : Int32)))])) t → Steps p.tables e below (s₁.setTop (entryFrame m #[(.int p0), (.int p1), (.int p2)] maxLocals)) t := by
              intro t kt
              refine k220 t ?_
              refine XS.ifYes X102.here hx rfl (pc0 := 90) (pc' := 95) rfl (hb hby at_90) rfl ((if0 _ _).trans (feq hc90_221).2) (by decide) (by decide) ?_
              show Steps p.tables e below (T102.setTop (mkF m 95 #[.val (.int p0), .val (.int p1), .val (.int p2), .val (.int vo62), .val (.int vc67), .val (.int r70), .val (.int (1 : Int32)), .unset, .unset] [])) _
              refine st223 _ ?_
              show Steps p.tables e below (T223.setTop (mkF m 98 #[.val (.int p0), .val (.int p1), .val (.int p2), .val (.int vo62), .val (.int vc67), .val (.int r70), .val (.int (1 : Int32)), .unset, .unset] [(.ref b223)])) _
              refine XS.dup X223.here hx rfl (hb hby at_98) rfl rfl ?_
              show Steps p.tables e below (T223.setTop (mkF m 99 #[.val (.int p0), .val (.int p1), .val (.int p2), .val (.int vo62), .val (.int vc67), .val (.int r70), .val (.int (1 : Int32)), .unset, .unset] [(.ref b223), (.ref b223)])) _
              refine XS.iloadN X223.here hx rfl (hb hby at_99) rfl ?_
              show Steps p.tables e below (T223.setTop (mkF m 100 #[.val (.int p0), .val (.int p1), .val (.int p2), .val (.int vo62), .val (.int vc67), .val (.int r70), .val (.int (1 : Int32)), .unset, .unset] [(.int vo62), (.ref b223), (.ref b223)])) _
              refine XS.iload X223.here hx rfl (hb hby at_100) rfl ?_
              show Steps p.tables e below (T223.setTop (mkF m 102 #[.val (.int p0), .val (.int p1), .val (.int p2), .val (.int vo62), .val (.int vc67), .val (.int r70), .val (.int (1 : Int32)), .unset, .unset] [(.int vc67), (.int vo62), (.ref b223), (.ref b223)])) _
              refine st268.trans ?_
              show Steps p.tables e below (T268.setTop (mkF m 105 #[.val (.int p0), .val (.int p1), .val (.int p2), .val (.int vo62), .val (.int vc67), .val (.int r70), .val (.int (1 : Int32)), .unset, .unset] [(.ref b223)])) _
              refine XS.astore X268.here hx rfl (hb hby at_105) rfl rfl (l' := #[.val (.int p0), .val (.int p1), .val (.int p2), .val (.int vo62), .val (.int vc67), .val (.int r70), .val (.int (1 : Int32)), .val (.ref b223), .unset]) rfl ?_
              show Steps p.tables e below (T268.setTop (mkF m 107 #[.val (.int p0), .val (.int p1), .val (.int p2), .val (.int vo62), .val (.int vc67), .val (.int r70), .val (.int (1 : Int32)), .val (.ref b223), .unset] [])) _
              refine XS.aload X268.here hx rfl (hb hby at_107) rfl rfl ?_
              show Steps p.tables e below (T268.setTop (mkF m 109 #[.val (.int p0), .val (.int p1), .val (.int p2), .val (.int vo62), .val (.int vc67), .val (.int r70), .val (.int (1 : Int32)), .val (.ref b223), .unset] [(.ref b223)])) _
              refine st269.trans ?_
              show Steps p.tables e below (T269.setTop (mkF m 112 #[.val (.int p0), .val (.int p1), .val (.int p2), .val (.int vo62), .val (.int vc67), .val (.int r70), .val (.int (1 : Int32)), .val (.ref b223), .unset] [(.int ((vc67 - vo62) + (1 : Int32)))])) _
              exact kt
            obtain ⟨r272, hr272⟩ : ∃ z : Int32, z = ((vc67 - vo62) + (1 : Int32)) := ⟨_, rfl⟩
            rw [← hr272] at k271
            have hc117_319 : ¬ (r272 < (1 : Int32)) := (by
                have ar273 := rng32 p2
                have ar274 := rng32 (p2 >>> ((2 : Int32) &&& 31))
                first | have ar275 : (p2 >>> ((2 : Int32) &&& 31)).toInt = p2.toInt / 4 := (by have qw := c_ishr p2 (2 : Int32) 2 (by decide); simp only [show (2 ^ 2 : Nat) = 4 from by decide, Int.cast_ofNat_Int] at qw; omega) | (have ar275 := c_ishr p2 (2 : Int32) 2 (by decide); simp only [show (2 ^ 2 : Nat) = 4 from by decide, Int.cast_ofNat_Int] at ar275)
                have ar276 : (1 : Int32).toInt = 1 := by decide
                have ar277 := c_mask (p2 >>> ((2 : Int32) &&& 31)) (1 : Int32) 1 (by decide) (by decide)
                simp only [show (2 ^ 1 : Nat) = 2 from by decide, Int.cast_ofNat_Int] at ar277
                have ar278 := rng32 ((p2 >>> ((2 : Int32) &&& 31)) &&& (1 : Int32))
                have ar279 : (0 : Int32).toInt = 0 := by decide
                have ar280 : ((p2 >>> ((2 : Int32) &&& 31)) &&& (1 : Int32)).toInt = (0 : Int32).toInt := congrArg Int32.toInt hc13_64
                have ar281 := rng32 r73
                have ar282 := rng32 vo62
                have ar283 : (1439 : Int32).toInt = 1439 := by decide
                have ar284 : ((1439 : Int32).toInt < vo62.toInt ∧ (if (1439 : Int32) < vo62 then (0 : Int32) else (1 : Int32)).toInt = (0 : Int32).toInt) ∨ (¬ ((1439 : Int32).toInt < vo62.toInt) ∧ (if (1439 : Int32) < vo62 then (0 : Int32) else (1 : Int32)).toInt = (1 : Int32).toInt) := by
                      by_cases q : (1439 : Int32) < vo62
                      · exact Or.inl ⟨Int32.lt_iff_toInt_lt.mp q, by rw [if_pos q]⟩
                      · exact Or.inr ⟨fun q' => q (Int32.lt_iff_toInt_lt.mpr q'), by rw [if_neg q]⟩
                have ar285 : (vo62.toInt < (0 : Int32).toInt ∧ (if vo62 < (0 : Int32) then (0 : Int32) else (if (1439 : Int32) < vo62 then (0 : Int32) else (1 : Int32))).toInt = (0 : Int32).toInt) ∨ (¬ (vo62.toInt < (0 : Int32).toInt) ∧ (if vo62 < (0 : Int32) then (0 : Int32) else (if (1439 : Int32) < vo62 then (0 : Int32) else (1 : Int32))).toInt = (if (1439 : Int32) < vo62 then (0 : Int32) else (1 : Int32)).toInt) := by
                      by_cases q : vo62 < (0 : Int32)
                      · exact Or.inl ⟨Int32.lt_iff_toInt_lt.mp q, by rw [if_pos q]⟩
                      · exact Or.inr ⟨fun q' => q (Int32.lt_iff_toInt_lt.mpr q'), by rw [if_neg q]⟩
                have ar286 : (own_inday vo62).toInt = (if vo62 < (0 : Int32) then (0 : Int32) else (if (1439 : Int32) < vo62 then (0 : Int32) else (1 : Int32))).toInt := congrArg _ (own_eq_own_inday vo62)
                have ar287 := congrArg Int32.toInt hr73
                have ar288 : ¬ (r73.toInt = (0 : Int32).toInt) := fun qq_ => hc50_75 (Int32.toInt_inj.mp qq_)
                have ar289 := rng32 r104
                have ar290 := rng32 vc67
                have ar291 : ((1439 : Int32).toInt < vc67.toInt ∧ (if (1439 : Int32) < vc67 then (0 : Int32) else (1 : Int32)).toInt = (0 : Int32).toInt) ∨ (¬ ((1439 : Int32).toInt < vc67.toInt) ∧ (if (1439 : Int32) < vc67 then (0 : Int32) else (1 : Int32)).toInt = (1 : Int32).toInt) := by
                      by_cases q : (1439 : Int32) < vc67
                      · exact Or.inl ⟨Int32.lt_iff_toInt_lt.mp q, by rw [if_pos q]⟩
                      · exact Or.inr ⟨fun q' => q (Int32.lt_iff_toInt_lt.mpr q'), by rw [if_neg q]⟩
                have ar292 : (vc67.toInt < (0 : Int32).toInt ∧ (if vc67 < (0 : Int32) then (0 : Int32) else (if (1439 : Int32) < vc67 then (0 : Int32) else (1 : Int32))).toInt = (0 : Int32).toInt) ∨ (¬ (vc67.toInt < (0 : Int32).toInt) ∧ (if vc67 < (0 : Int32) then (0 : Int32) else (if (1439 : Int32) < vc67 then (0 : Int32) else (1 : Int32))).toInt = (if (1439 : Int32) < vc67 then (0 : Int32) else (1 : Int32)).toInt) := by
                      by_cases q : vc67 < (0 : Int32)
                      · exact Or.inl ⟨Int32.lt_iff_toInt_lt.mp q, by rw [if_pos q]⟩
                      · exact Or.inr ⟨fun q' => q (Int32.lt_iff_toInt_lt.mpr q'), by rw [if_neg q]⟩
                have ar293 : (own_inday vc67).toInt = (if vc67 < (0 : Int32) then (0 : Int32) else (if (1439 : Int32) < vc67 then (0 : Int32) else (1 : Int32))).toInt := congrArg _ (own_eq_own_inday vc67)
                have ar294 := congrArg Int32.toInt hr104
                have ar295 : ¬ (r104.toInt = (0 : Int32).toInt) := fun qq_ => hc58_106 (Int32.toInt_inj.mp qq_)
                have ar296 := c_i2l vc67
                have ar297 := rng64 (vc67.toInt64)
                have ar298 := c_i2l vo62
                have ar299 := rng64 (vo62.toInt64)
                have ar300 := rng64 ((vc67.toInt64) - (vo62.toInt64))
                first | have ar301 : ((vc67.toInt64) - (vo62.toInt64)).toInt = (vc67.toInt64).toInt - (vo62.toInt64).toInt := (by have qw := c_lsub (vc67.toInt64) (vo62.toInt64); omega) | (have ar301 := c_lsub (vc67.toInt64) (vo62.toInt64); skip)
                have ar302 : (0 : Int64).toInt = 0 := by decide
                have ar303 : ¬ (((vc67.toInt64) - (vo62.toInt64)).toInt < (0 : Int64).toInt) := fun qq_ => hc69_140 (Int64.lt_iff_toInt_lt.mpr qq_)
                have ar304 := rng32 r70
                have ar305 : (1440 : Int32).toInt = 1440 := by decide
                have ar306 : (vc67.toInt < (1440 : Int32).toInt ∧ (if vc67 < (1440 : Int32) then (1 : Int32) else (0 : Int32)).toInt = (1 : Int32).toInt) ∨ (¬ (vc67.toInt < (1440 : Int32).toInt) ∧ (if vc67 < (1440 : Int32) then (1 : Int32) else (0 : Int32)).toInt = (0 : Int32).toInt) := by
                      by_cases q : vc67 < (1440 : Int32)
                      · exact Or.inl ⟨Int32.lt_iff_toInt_lt.mp q, by rw [if_pos q]⟩
                      · exact Or.inr ⟨fun q' => q (Int32.lt_iff_toInt_lt.mpr q'), by rw [if_neg q]⟩
                have ar307 : (vc67.toInt < vo62.toInt ∧ (if vc67 < vo62 then (0 : Int32) else (if vc67 < (1440 : Int32) then (1 : Int32) else (0 : Int32))).toInt = (0 : Int32).toInt) ∨ (¬ (vc67.toInt < vo62.toInt) ∧ (if vc67 < vo62 then (0 : Int32) else (if vc67 < (1440 : Int32) then (1 : Int32) else (0 : Int32))).toInt = (if vc67 < (1440 : Int32) then (1 : Int32) else (0 : Int32)).toInt) := by
                      by_cases q : vc67 < vo62
                      · exact Or.inl ⟨Int32.lt_iff_toInt_lt.mp q, by rw [if_pos q]⟩
                      · exact Or.inr ⟨fun q' => q (Int32.lt_iff_toInt_lt.mpr q'), by rw [if_neg q]⟩
                have ar308 : (vo62.toInt < (0 : Int32).toInt ∧ (if vo62 < (0 : Int32) then (0 : Int32) else (if vc67 < vo62 then (0 : Int32) else (if vc67 < (1440 : Int32) then (1 : Int32) else (0 : Int32)))).toInt = (0 : Int32).toInt) ∨ (¬ (vo62.toInt < (0 : Int32).toInt) ∧ (if vo62 < (0 : Int32) then (0 : Int32) else (if vc67 < vo62 then (0 : Int32) else (if vc67 < (1440 : Int32) then (1 : Int32) else (0 : Int32)))).toInt = (if vc67 < vo62 then (0 : Int32) else (if vc67 < (1440 : Int32) then (1 : Int32) else (0 : Int32))).toInt) := by
                      by_cases q : vo62 < (0 : Int32)
                      · exact Or.inl ⟨Int32.lt_iff_toInt_lt.mp q, by rw [if_pos q]⟩
                      · exact Or.inr ⟨fun q' => q (Int32.lt_iff_toInt_lt.mpr q'), by rw [if_neg q]⟩
                have ar309 : (own_isday vo62 vc67).toInt = (if vo62 < (0 : Int32) then (0 : Int32) else (if vc67 < vo62 then (0 : Int32) else (if vc67 < (1440 : Int32) then (1 : Int32) else (0 : Int32)))).toInt := congrArg _ (own_eq_own_isday vo62 vc67)
                have ar310 := congrArg Int32.toInt hr70
                have ar311 : r70.toInt = (1 : Int32).toInt := congrArg Int32.toInt hc83_219
                have ar312 : ¬ (r70.toInt = (0 : Int32).toInt) := fun qq_ => hc90_221 (Int32.toInt_inj.mp qq_)
                have ar313 := rng32 r272
                have ar314 := rng32 (vc67 - vo62)
                first | have ar315 : (vc67 - vo62).toInt = vc67.toInt - vo62.toInt := (by have qw := c_isub vc67 vo62; omega) | (have ar315 := c_isub vc67 vo62; skip)
                have ar316 := rng32 ((vc67 - vo62) + (1 : Int32))
                first | have ar317 : ((vc67 - vo62) + (1 : Int32)).toInt = (vc67 - vo62).toInt + 1 := (by have qw := c_iadd (vc67 - vo62) (1 : Int32); omega) | (have ar317 := c_iadd (vc67 - vo62) (1 : Int32); skip)
                have ar318 := congrArg Int32.toInt hr272
                exact fun qq_ => absurd (Int32.lt_iff_toInt_lt.mp qq_) (by omega))
            have hc125_367 : ¬ ((1440 : Int32) < r272) := (by
                have ar320 := rng32 p2
                have ar321 := rng32 (p2 >>> ((2 : Int32) &&& 31))
                first | have ar322 : (p2 >>> ((2 : Int32) &&& 31)).toInt = p2.toInt / 4 := (by have qw := c_ishr p2 (2 : Int32) 2 (by decide); simp only [show (2 ^ 2 : Nat) = 4 from by decide, Int.cast_ofNat_Int] at qw; omega) | (have ar322 := c_ishr p2 (2 : Int32) 2 (by decide); simp only [show (2 ^ 2 : Nat) = 4 from by decide, Int.cast_ofNat_Int] at ar322)
                have ar323 : (1 : Int32).toInt = 1 := by decide
                have ar324 := c_mask (p2 >>> ((2 : Int32) &&& 31)) (1 : Int32) 1 (by decide) (by decide)
                simp only [show (2 ^ 1 : Nat) = 2 from by decide, Int.cast_ofNat_Int] at ar324
                have ar325 := rng32 ((p2 >>> ((2 : Int32) &&& 31)) &&& (1 : Int32))
                have ar326 : (0 : Int32).toInt = 0 := by decide
                have ar327 : ((p2 >>> ((2 : Int32) &&& 31)) &&& (1 : Int32)).toInt = (0 : Int32).toInt := congrArg Int32.toInt hc13_64
                have ar328 := rng32 r73
                have ar329 := rng32 vo62
                have ar330 : (1439 : Int32).toInt = 1439 := by decide
                have ar331 : ((1439 : Int32).toInt < vo62.toInt ∧ (if (1439 : Int32) < vo62 then (0 : Int32) else (1 : Int32)).toInt = (0 : Int32).toInt) ∨ (¬ ((1439 : Int32).toInt < vo62.toInt) ∧ (if (1439 : Int32) < vo62 then (0 : Int32) else (1 : Int32)).toInt = (1 : Int32).toInt) := by
                      by_cases q : (1439 : Int32) < vo62
                      · exact Or.inl ⟨Int32.lt_iff_toInt_lt.mp q, by rw [if_pos q]⟩
                      · exact Or.inr ⟨fun q' => q (Int32.lt_iff_toInt_lt.mpr q'), by rw [if_neg q]⟩
                have ar332 : (vo62.toInt < (0 : Int32).toInt ∧ (if vo62 < (0 : Int32) then (0 : Int32) else (if (1439 : Int32) < vo62 then (0 : Int32) else (1 : Int32))).toInt = (0 : Int32).toInt) ∨ (¬ (vo62.toInt < (0 : Int32).toInt) ∧ (if vo62 < (0 : Int32) then (0 : Int32) else (if (1439 : Int32) < vo62 then (0 : Int32) else (1 : Int32))).toInt = (if (1439 : Int32) < vo62 then (0 : Int32) else (1 : Int32)).toInt) := by
                      by_cases q : vo62 < (0 : Int32)
                      · exact Or.inl ⟨Int32.lt_iff_toInt_lt.mp q, by rw [if_pos q]⟩
                      · exact Or.inr ⟨fun q' => q (Int32.lt_iff_toInt_lt.mpr q'), by rw [if_neg q]⟩
                have ar333 : (own_inday vo62).toInt = (if vo62 < (0 : Int32) then (0 : Int32) else (if (1439 : Int32) < vo62 then (0 : Int32) else (1 : Int32))).toInt := congrArg _ (own_eq_own_inday vo62)
                have ar334 := congrArg Int32.toInt hr73
                have ar335 : ¬ (r73.toInt = (0 : Int32).toInt) := fun qq_ => hc50_75 (Int32.toInt_inj.mp qq_)
                have ar336 := rng32 r104
                have ar337 := rng32 vc67
                have ar338 : ((1439 : Int32).toInt < vc67.toInt ∧ (if (1439 : Int32) < vc67 then (0 : Int32) else (1 : Int32)).toInt = (0 : Int32).toInt) ∨ (¬ ((1439 : Int32).toInt < vc67.toInt) ∧ (if (1439 : Int32) < vc67 then (0 : Int32) else (1 : Int32)).toInt = (1 : Int32).toInt) := by
                      by_cases q : (1439 : Int32) < vc67
                      · exact Or.inl ⟨Int32.lt_iff_toInt_lt.mp q, by rw [if_pos q]⟩
                      · exact Or.inr ⟨fun q' => q (Int32.lt_iff_toInt_lt.mpr q'), by rw [if_neg q]⟩
                have ar339 : (vc67.toInt < (0 : Int32).toInt ∧ (if vc67 < (0 : Int32) then (0 : Int32) else (if (1439 : Int32) < vc67 then (0 : Int32) else (1 : Int32))).toInt = (0 : Int32).toInt) ∨ (¬ (vc67.toInt < (0 : Int32).toInt) ∧ (if vc67 < (0 : Int32) then (0 : Int32) else (if (1439 : Int32) < vc67 then (0 : Int32) else (1 : Int32))).toInt = (if (1439 : Int32) < vc67 then (0 : Int32) else (1 : Int32)).toInt) := by
                      by_cases q : vc67 < (0 : Int32)
                      · exact Or.inl ⟨Int32.lt_iff_toInt_lt.mp q, by rw [if_pos q]⟩
                      · exact Or.inr ⟨fun q' => q (Int32.lt_iff_toInt_lt.mpr q'), by rw [if_neg q]⟩
                have ar340 : (own_inday vc67).toInt = (if vc67 < (0 : Int32) then (0 : Int32) else (if (1439 : Int32) < vc67 then (0 : Int32) else (1 : Int32))).toInt := congrArg _ (own_eq_own_inday vc67)
                have ar341 := congrArg Int32.toInt hr104
                have ar342 : ¬ (r104.toInt = (0 : Int32).toInt) := fun qq_ => hc58_106 (Int32.toInt_inj.mp qq_)
                have ar343 := c_i2l vc67
                have ar344 := rng64 (vc67.toInt64)
                have ar345 := c_i2l vo62
                have ar346 := rng64 (vo62.toInt64)
                have ar347 := rng64 ((vc67.toInt64) - (vo62.toInt64))
                first | have ar348 : ((vc67.toInt64) - (vo62.toInt64)).toInt = (vc67.toInt64).toInt - (vo62.toInt64).toInt := (by have qw := c_lsub (vc67.toInt64) (vo62.toInt64); omega) | (have ar348 := c_lsub (vc67.toInt64) (vo62.toInt64); skip)
                have ar349 : (0 : Int64).toInt = 0 := by decide
                have ar350 : ¬ (((vc67.toInt64) - (vo62.toInt64)).toInt < (0 : Int64).toInt) := fun qq_ => hc69_140 (Int64.lt_iff_toInt_lt.mpr qq_)
                have ar351 := rng32 r70
                have ar352 : (1440 : Int32).toInt = 1440 := by decide
                have ar353 : (vc67.toInt < (1440 : Int32).toInt ∧ (if vc67 < (1440 : Int32) then (1 : Int32) else (0 : Int32)).toInt = (1 : Int32).toInt) ∨ (¬ (vc67.toInt < (1440 : Int32).toInt) ∧ (if vc67 < (1440 : Int32) then (1 : Int32) else (0 : Int32)).toInt = (0 : Int32).toInt) := by
                      by_cases q : vc67 < (1440 : Int32)
                      · exact Or.inl ⟨Int32.lt_iff_toInt_lt.mp q, by rw [if_pos q]⟩
                      · exact Or.inr ⟨fun q' => q (Int32.lt_iff_toInt_lt.mpr q'), by rw [if_neg q]⟩
                have ar354 : (vc67.toInt < vo62.toInt ∧ (if vc67 < vo62 then (0 : Int32) else (if vc67 < (1440 : Int32) then (1 : Int32) else (0 : Int32))).toInt = (0 : Int32).toInt) ∨ (¬ (vc67.toInt < vo62.toInt) ∧ (if vc67 < vo62 then (0 : Int32) else (if vc67 < (1440 : Int32) then (1 : Int32) else (0 : Int32))).toInt = (if vc67 < (1440 : Int32) then (1 : Int32) else (0 : Int32)).toInt) := by
                      by_cases q : vc67 < vo62
                      · exact Or.inl ⟨Int32.lt_iff_toInt_lt.mp q, by rw [if_pos q]⟩
                      · exact Or.inr ⟨fun q' => q (Int32.lt_iff_toInt_lt.mpr q'), by rw [if_neg q]⟩
                have ar355 : (vo62.toInt < (0 : Int32).toInt ∧ (if vo62 < (0 : Int32) then (0 : Int32) else (if vc67 < vo62 then (0 : Int32) else (if vc67 < (1440 : Int32) then (1 : Int32) else (0 : Int32)))).toInt = (0 : Int32).toInt) ∨ (¬ (vo62.toInt < (0 : Int32).toInt) ∧ (if vo62 < (0 : Int32) then (0 : Int32) else (if vc67 < vo62 then (0 : Int32) else (if vc67 < (1440 : Int32) then (1 : Int32) else (0 : Int32)))).toInt = (if vc67 < vo62 then (0 : Int32) else (if vc67 < (1440 : Int32) then (1 : Int32) else (0 : Int32))).toInt) := by
                      by_cases q : vo62 < (0 : Int32)
                      · exact Or.inl ⟨Int32.lt_iff_toInt_lt.mp q, by rw [if_pos q]⟩
                      · exact Or.inr ⟨fun q' => q (Int32.lt_iff_toInt_lt.mpr q'), by rw [if_neg q]⟩
                have ar356 : (own_isday vo62 vc67).toInt = (if vo62 < (0 : Int32) then (0 : Int32) else (if vc67 < vo62 then (0 : Int32) else (if vc67 < (1440 : Int32) then (1 : Int32) else (0 : Int32)))).toInt := congrArg _ (own_eq_own_isday vo62 vc67)
                have ar357 := congrArg Int32.toInt hr70
                have ar358 : r70.toInt = (1 : Int32).toInt := congrArg Int32.toInt hc83_219
                have ar359 : ¬ (r70.toInt = (0 : Int32).toInt) := fun qq_ => hc90_221 (Int32.toInt_inj.mp qq_)
                have ar360 := rng32 r272
                have ar361 := rng32 (vc67 - vo62)
                first | have ar362 : (vc67 - vo62).toInt = vc67.toInt - vo62.toInt := (by have qw := c_isub vc67 vo62; omega) | (have ar362 := c_isub vc67 vo62; skip)
                have ar363 := rng32 ((vc67 - vo62) + (1 : Int32))
                first | have ar364 : ((vc67 - vo62) + (1 : Int32)).toInt = (vc67 - vo62).toInt + 1 := (by have qw := c_iadd (vc67 - vo62) (1 : Int32); omega) | (have ar364 := c_iadd (vc67 - vo62) (1 : Int32); skip)
                have ar365 := congrArg Int32.toInt hr272
                have ar366 : ¬ (r272.toInt < (1 : Int32).toInt) := fun qq_ => hc117_319 (Int32.lt_iff_toInt_lt.mpr qq_)
                exact fun qq_ => absurd (Int32.lt_iff_toInt_lt.mp qq_) (by omega))
            obtain ⟨cq368, kq368, q368a, q368b, q368c⟩ := isOf hZ eq269 f270
            obtain ⟨_, _, ⟨T368, L368, kc368, nc368⟩, -, X368, ⟨Lc368, hQ368, l368, y368, z368⟩, st368⟩ := X269.virtualBack hx (y := (⟨"com/example/tidegate/tidegate/model/OperatingDay", "end", "()I"⟩ : MethodName)) (z := (⟨"com/example/tidegate/tidegate/model/OperatingDay", "end", "()I"⟩ : MethodName)) hown (mvT hZ (hw _ (List.mem_of_getElem? (i := 35) rfl))) (mvT hZ (hw _ (List.mem_of_getElem? (i := 36) rfl))) (notFace_of_selects (args := #[]) (mvT hZ (hw _ (List.mem_of_getElem? (i := 38) rfl)))) (mvT hZ (hw _ (List.mem_of_getElem? (i := 38) rfl))) (mvT hZ (hw _ (List.mem_of_getElem? (i := 37) rfl))) (by decide) (backOf (W := 0) (rm8 l Z a0 hw [] b223 vc67 T268.heap n0 oFaclose268) hZ (hw _ (List.mem_of_getElem? (i := 39) rfl)) (hw _ (List.mem_of_getElem? (i := 6) rfl)) (by decide) (by decide)) q368a q368c (g := (mkF m 130 #[.val (.int p0), .val (.int p1), .val (.int p2), .val (.int vo62), .val (.int vc67), .val (.int r70), .val (.int (1 : Int32)), .val (.ref b223), .val (.int r272)] [(.ref b223)])) rfl (by rw [hml]; rfl) (Steps.refl _) (argsL := []) (rest := []) (lenOf pd_5 rfl) rfl (by show 2 * 0 + _ ≤ _; exact Nat.le_of_eq rfl) (hb hby at_130) (fun _ _ => ⟨rfl, eq269, (by decide : 1 + 0 ≤ _), (by decide : 2 + 0 ≤ _)⟩)
            dsimp only [Pt.U, Pt.locs, Pt.cells, Pt.slots] at X368 l368 y368 z368 st368 hQ368
            subst l368 y368 z368
            obtain ⟨rfl, Nq368, eq368⟩ := hQ368
            have N368 := Fr.app N269 Nq368
            have k369 : ∀ t, Steps p.tables e below (T368.setTop (mkF m 133 #[.val (.int p0), .val (.int p1), .val (.int p2), .val (.int vo62), .val (.int vc67), .val (.int r70), .val (.int (1 : Int32)), .val (.ref b223), .val (.int r272)] [(.int ((vc67 + (1 : Int32)) * (60 : Int32)))])) t → Steps p.tables e below (s₁.setTop (entryFrame m #[(.int p0), (.int p1), (.int p2)] maxLocals)) t := by
              intro t kt
              refine k271 t ?_
              show Steps p.tables e below (T269.setTop (mkF m 112 #[.val (.int p0), .val (.int p1), .val (.int p2), .val (.int vo62), .val (.int vc67), .val (.int r70), .val (.int (1 : Int32)), .val (.ref b223), .unset] [(.int r272)])) _
              refine XS.istore X269.here hx rfl (hb hby at_112) rfl (l' := #[.val (.int p0), .val (.int p1), .val (.int p2), .val (.int vo62), .val (.int vc67), .val (.int r70), .val (.int (1 : Int32)), .val (.ref b223), .val (.int r272)]) rfl ?_
              show Steps p.tables e below (T269.setTop (mkF m 114 #[.val (.int p0), .val (.int p1), .val (.int p2), .val (.int vo62), .val (.int vc67), .val (.int r70), .val (.int (1 : Int32)), .val (.ref b223), .val (.int r272)] [])) _
              refine XS.iload X269.here hx rfl (hb hby at_114) rfl ?_
              show Steps p.tables e below (T269.setTop (mkF m 116 #[.val (.int p0), .val (.int p1), .val (.int p2), .val (.int vo62), .val (.int vc67), .val (.int r70), .val (.int (1 : Int32)), .val (.ref b223), .val (.int r272)] [(.int r272)])) _
              refine XS.iconst X269.here hx rfl (hb hby at_116) ?_
              show Steps p.tables e below (T269.setTop (mkF m 117 #[.val (.int p0), .val (.int p1), .val (.int p2), .val (.int vo62), .val (.int vc67), .val (.int r70), .val (.int (1 : Int32)), .val (.ref b223), .val (.int r272)] [(.int (1 : Int32)), (.int r272)])) _
              refine XS.icmpNo X269.here hx rfl (hb hby at_117) rfl (flt hc117_319).1 ?_
              show Steps p.tables e below (T269.setTop (mkF m 120 #[.val (.int p0), .val (.int p1), .val (.int p2), .val (.int vo62), .val (.int vc67), .val (.int r70), .val (.int (1 : Int32)), .val (.ref b223), .val (.int r272)] [])) _
              refine XS.iload X269.here hx rfl (hb hby at_120) rfl ?_
              show Steps p.tables e below (T269.setTop (mkF m 122 #[.val (.int p0), .val (.int p1), .val (.int p2), .val (.int vo62), .val (.int vc67), .val (.int r70), .val (.int (1 : Int32)), .val (.ref b223), .val (.int r272)] [(.int r272)])) _
              refine XS.sipush X269.here hx rfl (hb hby at_122) ?_
              show Steps p.tables e below (T269.setTop (mkF m 125 #[.val (.int p0), .val (.int p1), .val (.int p2), .val (.int vo62), .val (.int vc67), .val (.int r70), .val (.int (1 : Int32)), .val (.ref b223), .val (.int r272)] [(.int (1440 : Int32)), (.int r272)])) _
              refine XS.icmpNo X269.here hx rfl (hb hby at_125) rfl (flt hc125_367).2.2.1 ?_
              show Steps p.tables e below (T269.setTop (mkF m 128 #[.val (.int p0), .val (.int p1), .val (.int p2), .val (.int vo62), .val (.int vc67), .val (.int r70), .val (.int (1 : Int32)), .val (.ref b223), .val (.int r272)] [])) _
              refine XS.aload X269.here hx rfl (hb hby at_128) rfl rfl ?_
              show Steps p.tables e below (T269.setTop (mkF m 130 #[.val (.int p0), .val (.int p1), .val (.int p2), .val (.int vo62), .val (.int vc67), .val (.int r70), .val (.int (1 : Int32)), .val (.ref b223), .val (.int r272)] [(.ref b223)])) _
              refine st368.trans ?_
              show Steps p.tables e below (T368.setTop (mkF m 133 #[.val (.int p0), .val (.int p1), .val (.int p2), .val (.int vo62), .val (.int vc67), .val (.int r70), .val (.int (1 : Int32)), .val (.ref b223), .val (.int r272)] [(.int ((vc67 + (1 : Int32)) * (60 : Int32)))])) _
              exact kt
            obtain ⟨r370, hr370⟩ : ∃ z : Int32, z = ((vc67 + (1 : Int32)) * (60 : Int32)) := ⟨_, rfl⟩
            rw [← hr370] at k369
            have hc135_427 : ¬ ((86400 : Int32) < r370) := (by
                have ar371 := rng32 p2
                have ar372 := rng32 (p2 >>> ((2 : Int32) &&& 31))
                first | have ar373 : (p2 >>> ((2 : Int32) &&& 31)).toInt = p2.toInt / 4 := (by have qw := c_ishr p2 (2 : Int32) 2 (by decide); simp only [show (2 ^ 2 : Nat) = 4 from by decide, Int.cast_ofNat_Int] at qw; omega) | (have ar373 := c_ishr p2 (2 : Int32) 2 (by decide); simp only [show (2 ^ 2 : Nat) = 4 from by decide, Int.cast_ofNat_Int] at ar373)
                have ar374 : (1 : Int32).toInt = 1 := by decide
                have ar375 := c_mask (p2 >>> ((2 : Int32) &&& 31)) (1 : Int32) 1 (by decide) (by decide)
                simp only [show (2 ^ 1 : Nat) = 2 from by decide, Int.cast_ofNat_Int] at ar375
                have ar376 := rng32 ((p2 >>> ((2 : Int32) &&& 31)) &&& (1 : Int32))
                have ar377 : (0 : Int32).toInt = 0 := by decide
                have ar378 : ((p2 >>> ((2 : Int32) &&& 31)) &&& (1 : Int32)).toInt = (0 : Int32).toInt := congrArg Int32.toInt hc13_64
                have ar379 := rng32 r73
                have ar380 := rng32 vo62
                have ar381 : (1439 : Int32).toInt = 1439 := by decide
                have ar382 : ((1439 : Int32).toInt < vo62.toInt ∧ (if (1439 : Int32) < vo62 then (0 : Int32) else (1 : Int32)).toInt = (0 : Int32).toInt) ∨ (¬ ((1439 : Int32).toInt < vo62.toInt) ∧ (if (1439 : Int32) < vo62 then (0 : Int32) else (1 : Int32)).toInt = (1 : Int32).toInt) := by
                      by_cases q : (1439 : Int32) < vo62
                      · exact Or.inl ⟨Int32.lt_iff_toInt_lt.mp q, by rw [if_pos q]⟩
                      · exact Or.inr ⟨fun q' => q (Int32.lt_iff_toInt_lt.mpr q'), by rw [if_neg q]⟩
                have ar383 : (vo62.toInt < (0 : Int32).toInt ∧ (if vo62 < (0 : Int32) then (0 : Int32) else (if (1439 : Int32) < vo62 then (0 : Int32) else (1 : Int32))).toInt = (0 : Int32).toInt) ∨ (¬ (vo62.toInt < (0 : Int32).toInt) ∧ (if vo62 < (0 : Int32) then (0 : Int32) else (if (1439 : Int32) < vo62 then (0 : Int32) else (1 : Int32))).toInt = (if (1439 : Int32) < vo62 then (0 : Int32) else (1 : Int32)).toInt) := by
                      by_cases q : vo62 < (0 : Int32)
                      · exact Or.inl ⟨Int32.lt_iff_toInt_lt.mp q, by rw [if_pos q]⟩
                      · exact Or.inr ⟨fun q' => q (Int32.lt_iff_toInt_lt.mpr q'), by rw [if_neg q]⟩
                have ar384 : (own_inday vo62).toInt = (if vo62 < (0 : Int32) then (0 : Int32) else (if (1439 : Int32) < vo62 then (0 : Int32) else (1 : Int32))).toInt := congrArg _ (own_eq_own_inday vo62)
                have ar385 := congrArg Int32.toInt hr73
                have ar386 : ¬ (r73.toInt = (0 : Int32).toInt) := fun qq_ => hc50_75 (Int32.toInt_inj.mp qq_)
                have ar387 := rng32 r104
                have ar388 := rng32 vc67
                have ar389 : ((1439 : Int32).toInt < vc67.toInt ∧ (if (1439 : Int32) < vc67 then (0 : Int32) else (1 : Int32)).toInt = (0 : Int32).toInt) ∨ (¬ ((1439 : Int32).toInt < vc67.toInt) ∧ (if (1439 : Int32) < vc67 then (0 : Int32) else (1 : Int32)).toInt = (1 : Int32).toInt) := by
                      by_cases q : (1439 : Int32) < vc67
                      · exact Or.inl ⟨Int32.lt_iff_toInt_lt.mp q, by rw [if_pos q]⟩
                      · exact Or.inr ⟨fun q' => q (Int32.lt_iff_toInt_lt.mpr q'), by rw [if_neg q]⟩
                have ar390 : (vc67.toInt < (0 : Int32).toInt ∧ (if vc67 < (0 : Int32) then (0 : Int32) else (if (1439 : Int32) < vc67 then (0 : Int32) else (1 : Int32))).toInt = (0 : Int32).toInt) ∨ (¬ (vc67.toInt < (0 : Int32).toInt) ∧ (if vc67 < (0 : Int32) then (0 : Int32) else (if (1439 : Int32) < vc67 then (0 : Int32) else (1 : Int32))).toInt = (if (1439 : Int32) < vc67 then (0 : Int32) else (1 : Int32)).toInt) := by
                      by_cases q : vc67 < (0 : Int32)
                      · exact Or.inl ⟨Int32.lt_iff_toInt_lt.mp q, by rw [if_pos q]⟩
                      · exact Or.inr ⟨fun q' => q (Int32.lt_iff_toInt_lt.mpr q'), by rw [if_neg q]⟩
                have ar391 : (own_inday vc67).toInt = (if vc67 < (0 : Int32) then (0 : Int32) else (if (1439 : Int32) < vc67 then (0 : Int32) else (1 : Int32))).toInt := congrArg _ (own_eq_own_inday vc67)
                have ar392 := congrArg Int32.toInt hr104
                have ar393 : ¬ (r104.toInt = (0 : Int32).toInt) := fun qq_ => hc58_106 (Int32.toInt_inj.mp qq_)
                have ar394 := c_i2l vc67
                have ar395 := rng64 (vc67.toInt64)
                have ar396 := c_i2l vo62
                have ar397 := rng64 (vo62.toInt64)
                have ar398 := rng64 ((vc67.toInt64) - (vo62.toInt64))
                first | have ar399 : ((vc67.toInt64) - (vo62.toInt64)).toInt = (vc67.toInt64).toInt - (vo62.toInt64).toInt := (by have qw := c_lsub (vc67.toInt64) (vo62.toInt64); omega) | (have ar399 := c_lsub (vc67.toInt64) (vo62.toInt64); skip)
                have ar400 : (0 : Int64).toInt = 0 := by decide
                have ar401 : ¬ (((vc67.toInt64) - (vo62.toInt64)).toInt < (0 : Int64).toInt) := fun qq_ => hc69_140 (Int64.lt_iff_toInt_lt.mpr qq_)
                have ar402 := rng32 r70
                have ar403 : (1440 : Int32).toInt = 1440 := by decide
                have ar404 : (vc67.toInt < (1440 : Int32).toInt ∧ (if vc67 < (1440 : Int32) then (1 : Int32) else (0 : Int32)).toInt = (1 : Int32).toInt) ∨ (¬ (vc67.toInt < (1440 : Int32).toInt) ∧ (if vc67 < (1440 : Int32) then (1 : Int32) else (0 : Int32)).toInt = (0 : Int32).toInt) := by
                      by_cases q : vc67 < (1440 : Int32)
                      · exact Or.inl ⟨Int32.lt_iff_toInt_lt.mp q, by rw [if_pos q]⟩
                      · exact Or.inr ⟨fun q' => q (Int32.lt_iff_toInt_lt.mpr q'), by rw [if_neg q]⟩
                have ar405 : (vc67.toInt < vo62.toInt ∧ (if vc67 < vo62 then (0 : Int32) else (if vc67 < (1440 : Int32) then (1 : Int32) else (0 : Int32))).toInt = (0 : Int32).toInt) ∨ (¬ (vc67.toInt < vo62.toInt) ∧ (if vc67 < vo62 then (0 : Int32) else (if vc67 < (1440 : Int32) then (1 : Int32) else (0 : Int32))).toInt = (if vc67 < (1440 : Int32) then (1 : Int32) else (0 : Int32)).toInt) := by
                      by_cases q : vc67 < vo62
                      · exact Or.inl ⟨Int32.lt_iff_toInt_lt.mp q, by rw [if_pos q]⟩
                      · exact Or.inr ⟨fun q' => q (Int32.lt_iff_toInt_lt.mpr q'), by rw [if_neg q]⟩
                have ar406 : (vo62.toInt < (0 : Int32).toInt ∧ (if vo62 < (0 : Int32) then (0 : Int32) else (if vc67 < vo62 then (0 : Int32) else (if vc67 < (1440 : Int32) then (1 : Int32) else (0 : Int32)))).toInt = (0 : Int32).toInt) ∨ (¬ (vo62.toInt < (0 : Int32).toInt) ∧ (if vo62 < (0 : Int32) then (0 : Int32) else (if vc67 < vo62 then (0 : Int32) else (if vc67 < (1440 : Int32) then (1 : Int32) else (0 : Int32)))).toInt = (if vc67 < vo62 then (0 : Int32) else (if vc67 < (1440 : Int32) then (1 : Int32) else (0 : Int32))).toInt) := by
                      by_cases q : vo62 < (0 : Int32)
                      · exact Or.inl ⟨Int32.lt_iff_toInt_lt.mp q, by rw [if_pos q]⟩
                      · exact Or.inr ⟨fun q' => q (Int32.lt_iff_toInt_lt.mpr q'), by rw [if_neg q]⟩
                have ar407 : (own_isday vo62 vc67).toInt = (if vo62 < (0 : Int32) then (0 : Int32) else (if vc67 < vo62 then (0 : Int32) else (if vc67 < (1440 : Int32) then (1 : Int32) else (0 : Int32)))).toInt := congrArg _ (own_eq_own_isday vo62 vc67)
                have ar408 := congrArg Int32.toInt hr70
                have ar409 : r70.toInt = (1 : Int32).toInt := congrArg Int32.toInt hc83_219
                have ar410 : ¬ (r70.toInt = (0 : Int32).toInt) := fun qq_ => hc90_221 (Int32.toInt_inj.mp qq_)
                have ar411 := rng32 r272
                have ar412 := rng32 (vc67 - vo62)
                first | have ar413 : (vc67 - vo62).toInt = vc67.toInt - vo62.toInt := (by have qw := c_isub vc67 vo62; omega) | (have ar413 := c_isub vc67 vo62; skip)
                have ar414 := rng32 ((vc67 - vo62) + (1 : Int32))
                first | have ar415 : ((vc67 - vo62) + (1 : Int32)).toInt = (vc67 - vo62).toInt + 1 := (by have qw := c_iadd (vc67 - vo62) (1 : Int32); omega) | (have ar415 := c_iadd (vc67 - vo62) (1 : Int32); skip)
                have ar416 := congrArg Int32.toInt hr272
                have ar417 : ¬ (r272.toInt < (1 : Int32).toInt) := fun qq_ => hc117_319 (Int32.lt_iff_toInt_lt.mpr qq_)
                have ar418 : ¬ ((1440 : Int32).toInt < r272.toInt) := fun qq_ => hc125_367 (Int32.lt_iff_toInt_lt.mpr qq_)
                have ar419 : (86400 : Int32).toInt = 86400 := by decide
                have ar420 := rng32 r370
                have ar421 := rng32 (vc67 + (1 : Int32))
                first | have ar422 : (vc67 + (1 : Int32)).toInt = vc67.toInt + 1 := (by have qw := c_iadd vc67 (1 : Int32); omega) | (have ar422 := c_iadd vc67 (1 : Int32); skip)
                have ar423 : (60 : Int32).toInt = 60 := by decide
                have ar424 := rng32 ((vc67 + (1 : Int32)) * (60 : Int32))
                first | have ar425 : ((vc67 + (1 : Int32)) * (60 : Int32)).toInt = (vc67 + (1 : Int32)).toInt * 60 := (by have qw := c_imul (vc67 + (1 : Int32)) (60 : Int32); rw [show (60 : Int32).toInt = 60 from by decide] at qw; omega) | (have ar425 := c_imul (vc67 + (1 : Int32)) (60 : Int32); rw [show (60 : Int32).toInt = 60 from by decide] at ar425)
                have ar426 := congrArg Int32.toInt hr370
                exact fun qq_ => absurd (Int32.lt_iff_toInt_lt.mp qq_) (by omega))
            obtain ⟨cq428, kq428, q428a, q428b, q428c⟩ := isOf hZ eq368 f270
            obtain ⟨_, _, ⟨T428, L428, kc428, nc428⟩, -, X428, ⟨Lc428, hQ428, l428, y428, z428⟩, st428⟩ := X368.virtualBack hx (y := (⟨"com/example/tidegate/tidegate/model/OperatingDay", "containsMinute", "(I)Z"⟩ : MethodName)) (z := (⟨"com/example/tidegate/tidegate/model/OperatingDay", "containsMinute", "(I)Z"⟩ : MethodName)) hown (mvT hZ (hw _ (List.mem_of_getElem? (i := 41) rfl))) (mvT hZ (hw _ (List.mem_of_getElem? (i := 42) rfl))) (notFace_of_selects (args := #[]) (mvT hZ (hw _ (List.mem_of_getElem? (i := 44) rfl)))) (mvT hZ (hw _ (List.mem_of_getElem? (i := 44) rfl))) (mvT hZ (hw _ (List.mem_of_getElem? (i := 43) rfl))) (by decide) (backOf (W := 0) (rm9 l Z a0 hw [] b223 vo62 vo62 vc67 T268.heap n0 oFaopen268 oFaclose268) hZ (hw _ (List.mem_of_getElem? (i := 45) rfl)) (hw _ (List.mem_of_getElem? (i := 6) rfl)) (by decide) (by decide)) q428a q428c (g := (mkF m 141 #[.val (.int p0), .val (.int p1), .val (.int p2), .val (.int vo62), .val (.int vc67), .val (.int r70), .val (.int (1 : Int32)), .val (.ref b223), .val (.int r272)] [(.int vo62), (.ref b223)])) rfl (by rw [hml]; rfl) (Steps.refl _) (argsL := [(.int vo62)]) (rest := []) (lenOf pd_2 rfl) rfl (by show 2 * 0 + _ ≤ _; exact Nat.le_of_eq rfl) (hb hby at_141) (fun _ _ => ⟨rfl, eq368, (by decide : 1 + 0 ≤ _), (by decide : 2 + 0 ≤ _)⟩)
            dsimp only [Pt.U, Pt.locs, Pt.cells, Pt.slots] at X428 l428 y428 z428 st428 hQ428
            subst l428 y428 z428
            obtain ⟨rfl, Nq428, eq428⟩ := hQ428
            have N428 := Fr.app N368 Nq428
            have k429 : ∀ t, Steps p.tables e below (T428.setTop (mkF m 144 #[.val (.int p0), .val (.int p1), .val (.int p2), .val (.int vo62), .val (.int vc67), .val (.int r70), .val (.int (1 : Int32)), .val (.ref b223), .val (.int r272)] [(.int (own_cm vo62 vo62 vc67))])) t → Steps p.tables e below (s₁.setTop (entryFrame m #[(.int p0), (.int p1), (.int p2)] maxLocals)) t := by
              intro t kt
              refine k369 t ?_
              show Steps p.tables e below (T368.setTop (mkF m 133 #[.val (.int p0), .val (.int p1), .val (.int p2), .val (.int vo62), .val (.int vc67), .val (.int r70), .val (.int (1 : Int32)), .val (.ref b223), .val (.int r272)] [(.int r370)])) _
              refine X368.ldcInt hx hown (mvT hZ (hw _ (List.mem_of_getElem? (i := 40) rfl))) (g := (mkF m 133 #[.val (.int p0), .val (.int p1), .val (.int p2), .val (.int vo62), .val (.int vc67), .val (.int r70), .val (.int (1 : Int32)), .val (.ref b223), .val (.int r272)] [(.int r370)])) rfl (hb hby at_133) _ ?_
              show Steps p.tables e below (T368.setTop (mkF m 135 #[.val (.int p0), .val (.int p1), .val (.int p2), .val (.int vo62), .val (.int vc67), .val (.int r70), .val (.int (1 : Int32)), .val (.ref b223), .val (.int r272)] [(.int (86400 : Int32)), (.int r370)])) _
              refine XS.icmpNo X368.here hx rfl (hb hby at_135) rfl (flt hc135_427).2.2.1 ?_
              show Steps p.tables e below (T368.setTop (mkF m 138 #[.val (.int p0), .val (.int p1), .val (.int p2), .val (.int vo62), .val (.int vc67), .val (.int r70), .val (.int (1 : Int32)), .val (.ref b223), .val (.int r272)] [])) _
              refine XS.aload X368.here hx rfl (hb hby at_138) rfl rfl ?_
              show Steps p.tables e below (T368.setTop (mkF m 140 #[.val (.int p0), .val (.int p1), .val (.int p2), .val (.int vo62), .val (.int vc67), .val (.int r70), .val (.int (1 : Int32)), .val (.ref b223), .val (.int r272)] [(.ref b223)])) _
              refine XS.iloadN X368.here hx rfl (hb hby at_140) rfl ?_
              show Steps p.tables e below (T368.setTop (mkF m 141 #[.val (.int p0), .val (.int p1), .val (.int p2), .val (.int vo62), .val (.int vc67), .val (.int r70), .val (.int (1 : Int32)), .val (.ref b223), .val (.int r272)] [(.int vo62), (.ref b223)])) _
              refine st428.trans ?_
              show Steps p.tables e below (T428.setTop (mkF m 144 #[.val (.int p0), .val (.int p1), .val (.int p2), .val (.int vo62), .val (.int vc67), .val (.int r70), .val (.int (1 : Int32)), .val (.ref b223), .val (.int r272)] [(.int (own_cm vo62 vo62 vc67))])) _
              exact kt
            obtain ⟨r430, hr430⟩ : ∃ z : Int32, z = (own_cm vo62 vo62 vc67) := ⟨_, rfl⟩
            rw [← hr430] at k429
            have hc144_493 : ¬ (r430 = (0 : Int32)) := (by
                have ar431 := rng32 p2
                have ar432 := rng32 (p2 >>> ((2 : Int32) &&& 31))
                first | have ar433 : (p2 >>> ((2 : Int32) &&& 31)).toInt = p2.toInt / 4 := (by have qw := c_ishr p2 (2 : Int32) 2 (by decide); simp only [show (2 ^ 2 : Nat) = 4 from by decide, Int.cast_ofNat_Int] at qw; omega) | (have ar433 := c_ishr p2 (2 : Int32) 2 (by decide); simp only [show (2 ^ 2 : Nat) = 4 from by decide, Int.cast_ofNat_Int] at ar433)
                have ar434 : (1 : Int32).toInt = 1 := by decide
                have ar435 := c_mask (p2 >>> ((2 : Int32) &&& 31)) (1 : Int32) 1 (by decide) (by decide)
                simp only [show (2 ^ 1 : Nat) = 2 from by decide, Int.cast_ofNat_Int] at ar435
                have ar436 := rng32 ((p2 >>> ((2 : Int32) &&& 31)) &&& (1 : Int32))
                have ar437 : (0 : Int32).toInt = 0 := by decide
                have ar438 : ((p2 >>> ((2 : Int32) &&& 31)) &&& (1 : Int32)).toInt = (0 : Int32).toInt := congrArg Int32.toInt hc13_64
                have ar439 := rng32 r73
                have ar440 := rng32 vo62
                have ar441 : (1439 : Int32).toInt = 1439 := by decide
                have ar442 : ((1439 : Int32).toInt < vo62.toInt ∧ (if (1439 : Int32) < vo62 then (0 : Int32) else (1 : Int32)).toInt = (0 : Int32).toInt) ∨ (¬ ((1439 : Int32).toInt < vo62.toInt) ∧ (if (1439 : Int32) < vo62 then (0 : Int32) else (1 : Int32)).toInt = (1 : Int32).toInt) := by
                      by_cases q : (1439 : Int32) < vo62
                      · exact Or.inl ⟨Int32.lt_iff_toInt_lt.mp q, by rw [if_pos q]⟩
                      · exact Or.inr ⟨fun q' => q (Int32.lt_iff_toInt_lt.mpr q'), by rw [if_neg q]⟩
                have ar443 : (vo62.toInt < (0 : Int32).toInt ∧ (if vo62 < (0 : Int32) then (0 : Int32) else (if (1439 : Int32) < vo62 then (0 : Int32) else (1 : Int32))).toInt = (0 : Int32).toInt) ∨ (¬ (vo62.toInt < (0 : Int32).toInt) ∧ (if vo62 < (0 : Int32) then (0 : Int32) else (if (1439 : Int32) < vo62 then (0 : Int32) else (1 : Int32))).toInt = (if (1439 : Int32) < vo62 then (0 : Int32) else (1 : Int32)).toInt) := by
                      by_cases q : vo62 < (0 : Int32)
                      · exact Or.inl ⟨Int32.lt_iff_toInt_lt.mp q, by rw [if_pos q]⟩
                      · exact Or.inr ⟨fun q' => q (Int32.lt_iff_toInt_lt.mpr q'), by rw [if_neg q]⟩
                have ar444 : (own_inday vo62).toInt = (if vo62 < (0 : Int32) then (0 : Int32) else (if (1439 : Int32) < vo62 then (0 : Int32) else (1 : Int32))).toInt := congrArg _ (own_eq_own_inday vo62)
                have ar445 := congrArg Int32.toInt hr73
                have ar446 : ¬ (r73.toInt = (0 : Int32).toInt) := fun qq_ => hc50_75 (Int32.toInt_inj.mp qq_)
                have ar447 := rng32 r104
                have ar448 := rng32 vc67
                have ar449 : ((1439 : Int32).toInt < vc67.toInt ∧ (if (1439 : Int32) < vc67 then (0 : Int32) else (1 : Int32)).toInt = (0 : Int32).toInt) ∨ (¬ ((1439 : Int32).toInt < vc67.toInt) ∧ (if (1439 : Int32) < vc67 then (0 : Int32) else (1 : Int32)).toInt = (1 : Int32).toInt) := by
                      by_cases q : (1439 : Int32) < vc67
                      · exact Or.inl ⟨Int32.lt_iff_toInt_lt.mp q, by rw [if_pos q]⟩
                      · exact Or.inr ⟨fun q' => q (Int32.lt_iff_toInt_lt.mpr q'), by rw [if_neg q]⟩
                have ar450 : (vc67.toInt < (0 : Int32).toInt ∧ (if vc67 < (0 : Int32) then (0 : Int32) else (if (1439 : Int32) < vc67 then (0 : Int32) else (1 : Int32))).toInt = (0 : Int32).toInt) ∨ (¬ (vc67.toInt < (0 : Int32).toInt) ∧ (if vc67 < (0 : Int32) then (0 : Int32) else (if (1439 : Int32) < vc67 then (0 : Int32) else (1 : Int32))).toInt = (if (1439 : Int32) < vc67 then (0 : Int32) else (1 : Int32)).toInt) := by
                      by_cases q : vc67 < (0 : Int32)
                      · exact Or.inl ⟨Int32.lt_iff_toInt_lt.mp q, by rw [if_pos q]⟩
                      · exact Or.inr ⟨fun q' => q (Int32.lt_iff_toInt_lt.mpr q'), by rw [if_neg q]⟩
                have ar451 : (own_inday vc67).toInt = (if vc67 < (0 : Int32) then (0 : Int32) else (if (1439 : Int32) < vc67 then (0 : Int32) else (1 : Int32))).toInt := congrArg _ (own_eq_own_inday vc67)
                have ar452 := congrArg Int32.toInt hr104
                have ar453 : ¬ (r104.toInt = (0 : Int32).toInt) := fun qq_ => hc58_106 (Int32.toInt_inj.mp qq_)
                have ar454 := c_i2l vc67
                have ar455 := rng64 (vc67.toInt64)
                have ar456 := c_i2l vo62
                have ar457 := rng64 (vo62.toInt64)
                have ar458 := rng64 ((vc67.toInt64) - (vo62.toInt64))
                first | have ar459 : ((vc67.toInt64) - (vo62.toInt64)).toInt = (vc67.toInt64).toInt - (vo62.toInt64).toInt := (by have qw := c_lsub (vc67.toInt64) (vo62.toInt64); omega) | (have ar459 := c_lsub (vc67.toInt64) (vo62.toInt64); skip)
                have ar460 : (0 : Int64).toInt = 0 := by decide
                have ar461 : ¬ (((vc67.toInt64) - (vo62.toInt64)).toInt < (0 : Int64).toInt) := fun qq_ => hc69_140 (Int64.lt_iff_toInt_lt.mpr qq_)
                have ar462 := rng32 r70
                have ar463 : (1440 : Int32).toInt = 1440 := by decide
                have ar464 : (vc67.toInt < (1440 : Int32).toInt ∧ (if vc67 < (1440 : Int32) then (1 : Int32) else (0 : Int32)).toInt = (1 : Int32).toInt) ∨ (¬ (vc67.toInt < (1440 : Int32).toInt) ∧ (if vc67 < (1440 : Int32) then (1 : Int32) else (0 : Int32)).toInt = (0 : Int32).toInt) := by
                      by_cases q : vc67 < (1440 : Int32)
                      · exact Or.inl ⟨Int32.lt_iff_toInt_lt.mp q, by rw [if_pos q]⟩
                      · exact Or.inr ⟨fun q' => q (Int32.lt_iff_toInt_lt.mpr q'), by rw [if_neg q]⟩
                have ar465 : (vc67.toInt < vo62.toInt ∧ (if vc67 < vo62 then (0 : Int32) else (if vc67 < (1440 : Int32) then (1 : Int32) else (0 : Int32))).toInt = (0 : Int32).toInt) ∨ (¬ (vc67.toInt < vo62.toInt) ∧ (if vc67 < vo62 then (0 : Int32) else (if vc67 < (1440 : Int32) then (1 : Int32) else (0 : Int32))).toInt = (if vc67 < (1440 : Int32) then (1 : Int32) else (0 : Int32)).toInt) := by
                      by_cases q : vc67 < vo62
                      · exact Or.inl ⟨Int32.lt_iff_toInt_lt.mp q, by rw [if_pos q]⟩
                      · exact Or.inr ⟨fun q' => q (Int32.lt_iff_toInt_lt.mpr q'), by rw [if_neg q]⟩
                have ar466 : (vo62.toInt < (0 : Int32).toInt ∧ (if vo62 < (0 : Int32) then (0 : Int32) else (if vc67 < vo62 then (0 : Int32) else (if vc67 < (1440 : Int32) then (1 : Int32) else (0 : Int32)))).toInt = (0 : Int32).toInt) ∨ (¬ (vo62.toInt < (0 : Int32).toInt) ∧ (if vo62 < (0 : Int32) then (0 : Int32) else (if vc67 < vo62 then (0 : Int32) else (if vc67 < (1440 : Int32) then (1 : Int32) else (0 : Int32)))).toInt = (if vc67 < vo62 then (0 : Int32) else (if vc67 < (1440 : Int32) then (1 : Int32) else (0 : Int32))).toInt) := by
                      by_cases q : vo62 < (0 : Int32)
                      · exact Or.inl ⟨Int32.lt_iff_toInt_lt.mp q, by rw [if_pos q]⟩
                      · exact Or.inr ⟨fun q' => q (Int32.lt_iff_toInt_lt.mpr q'), by rw [if_neg q]⟩
                have ar467 : (own_isday vo62 vc67).toInt = (if vo62 < (0 : Int32) then (0 : Int32) else (if vc67 < vo62 then (0 : Int32) else (if vc67 < (1440 : Int32) then (1 : Int32) else (0 : Int32)))).toInt := congrArg _ (own_eq_own_isday vo62 vc67)
                have ar468 := congrArg Int32.toInt hr70
                have ar469 : r70.toInt = (1 : Int32).toInt := congrArg Int32.toInt hc83_219
                have ar470 : ¬ (r70.toInt = (0 : Int32).toInt) := fun qq_ => hc90_221 (Int32.toInt_inj.mp qq_)
                have ar471 := rng32 r272
                have ar472 := rng32 (vc67 - vo62)
                first | have ar473 : (vc67 - vo62).toInt = vc67.toInt - vo62.toInt := (by have qw := c_isub vc67 vo62; omega) | (have ar473 := c_isub vc67 vo62; skip)
                have ar474 := rng32 ((vc67 - vo62) + (1 : Int32))
                first | have ar475 : ((vc67 - vo62) + (1 : Int32)).toInt = (vc67 - vo62).toInt + 1 := (by have qw := c_iadd (vc67 - vo62) (1 : Int32); omega) | (have ar475 := c_iadd (vc67 - vo62) (1 : Int32); skip)
                have ar476 := congrArg Int32.toInt hr272
                have ar477 : ¬ (r272.toInt < (1 : Int32).toInt) := fun qq_ => hc117_319 (Int32.lt_iff_toInt_lt.mpr qq_)
                have ar478 : ¬ ((1440 : Int32).toInt < r272.toInt) := fun qq_ => hc125_367 (Int32.lt_iff_toInt_lt.mpr qq_)
                have ar479 : (86400 : Int32).toInt = 86400 := by decide
                have ar480 := rng32 r370
                have ar481 := rng32 (vc67 + (1 : Int32))
                first | have ar482 : (vc67 + (1 : Int32)).toInt = vc67.toInt + 1 := (by have qw := c_iadd vc67 (1 : Int32); omega) | (have ar482 := c_iadd vc67 (1 : Int32); skip)
                have ar483 : (60 : Int32).toInt = 60 := by decide
                have ar484 := rng32 ((vc67 + (1 : Int32)) * (60 : Int32))
                first | have ar485 : ((vc67 + (1 : Int32)) * (60 : Int32)).toInt = (vc67 + (1 : Int32)).toInt * 60 := (by have qw := c_imul (vc67 + (1 : Int32)) (60 : Int32); rw [show (60 : Int32).toInt = 60 from by decide] at qw; omega) | (have ar485 := c_imul (vc67 + (1 : Int32)) (60 : Int32); rw [show (60 : Int32).toInt = 60 from by decide] at ar485)
                have ar486 := congrArg Int32.toInt hr370
                have ar487 : ¬ ((86400 : Int32).toInt < r370.toInt) := fun qq_ => hc135_427 (Int32.lt_iff_toInt_lt.mpr qq_)
                have ar488 := rng32 r430
                have ar489 : (vc67.toInt < vo62.toInt ∧ (if vc67 < vo62 then (0 : Int32) else (1 : Int32)).toInt = (0 : Int32).toInt) ∨ (¬ (vc67.toInt < vo62.toInt) ∧ (if vc67 < vo62 then (0 : Int32) else (1 : Int32)).toInt = (1 : Int32).toInt) := by
                      by_cases q : vc67 < vo62
                      · exact Or.inl ⟨Int32.lt_iff_toInt_lt.mp q, by rw [if_pos q]⟩
                      · exact Or.inr ⟨fun q' => q (Int32.lt_iff_toInt_lt.mpr q'), by rw [if_neg q]⟩
                have ar490 : (vo62.toInt < vo62.toInt ∧ (if vo62 < vo62 then (0 : Int32) else (if vc67 < vo62 then (0 : Int32) else (1 : Int32))).toInt = (0 : Int32).toInt) ∨ (¬ (vo62.toInt < vo62.toInt) ∧ (if vo62 < vo62 then (0 : Int32) else (if vc67 < vo62 then (0 : Int32) else (1 : Int32))).toInt = (if vc67 < vo62 then (0 : Int32) else (1 : Int32)).toInt) := by
                      by_cases q : vo62 < vo62
                      · exact Or.inl ⟨Int32.lt_iff_toInt_lt.mp q, by rw [if_pos q]⟩
                      · exact Or.inr ⟨fun q' => q (Int32.lt_iff_toInt_lt.mpr q'), by rw [if_neg q]⟩
                have ar491 : (own_cm vo62 vo62 vc67).toInt = (if vo62 < vo62 then (0 : Int32) else (if vc67 < vo62 then (0 : Int32) else (1 : Int32))).toInt := congrArg _ (own_eq_own_cm vo62 vo62 vc67)
                have ar492 := congrArg Int32.toInt hr430
                exact fun qq_ => absurd (congrArg Int32.toInt qq_) (by omega))
            obtain ⟨cq494, kq494, q494a, q494b, q494c⟩ := isOf hZ eq428 f270
            obtain ⟨_, _, ⟨T494, L494, kc494, nc494⟩, -, X494, ⟨Lc494, hQ494, l494, y494, z494⟩, st494⟩ := X428.virtualBack hx (y := (⟨"com/example/tidegate/tidegate/model/OperatingDay", "containsMinute", "(I)Z"⟩ : MethodName)) (z := (⟨"com/example/tidegate/tidegate/model/OperatingDay", "containsMinute", "(I)Z"⟩ : MethodName)) hown (mvT hZ (hw _ (List.mem_of_getElem? (i := 41) rfl))) (mvT hZ (hw _ (List.mem_of_getElem? (i := 42) rfl))) (notFace_of_selects (args := #[]) (mvT hZ (hw _ (List.mem_of_getElem? (i := 44) rfl)))) (mvT hZ (hw _ (List.mem_of_getElem? (i := 44) rfl))) (mvT hZ (hw _ (List.mem_of_getElem? (i := 43) rfl))) (by decide) (backOf (W := 0) (rm9 l Z a0 hw [] b223 vc67 vo62 vc67 T268.heap n0 oFaopen268 oFaclose268) hZ (hw _ (List.mem_of_getElem? (i := 45) rfl)) (hw _ (List.mem_of_getElem? (i := 6) rfl)) (by decide) (by decide)) q494a q494c (g := (mkF m 151 #[.val (.int p0), .val (.int p1), .val (.int p2), .val (.int vo62), .val (.int vc67), .val (.int r70), .val (.int (1 : Int32)), .val (.ref b223), .val (.int r272)] [(.int vc67), (.ref b223)])) rfl (by rw [hml]; rfl) (Steps.refl _) (argsL := [(.int vc67)]) (rest := []) (lenOf pd_2 rfl) rfl (by show 2 * 0 + _ ≤ _; exact Nat.le_of_eq rfl) (hb hby at_151) (fun _ _ => ⟨rfl, eq428, (by decide : 1 + 0 ≤ _), (by decide : 2 + 0 ≤ _)⟩)
            dsimp only [Pt.U, Pt.locs, Pt.cells, Pt.slots] at X494 l494 y494 z494 st494 hQ494
            subst l494 y494 z494
            obtain ⟨rfl, Nq494, eq494⟩ := hQ494
            have N494 := Fr.app N428 Nq494
            have k495 : ∀ t, Steps p.tables e below (T494.setTop (mkF m 154 #[.val (.int p0), .val (.int p1), .val (.int p2), .val (.int vo62), .val (.int vc67), .val (.int r70), .val (.int (1 : Int32)), .val (.ref b223), .val (.int r272)] [(.int (own_cm vc67 vo62 vc67))])) t → Steps p.tables e below (s₁.setTop (entryFrame m #[(.int p0), (.int p1), (.int p2)] maxLocals)) t := by
              intro t kt
              refine k429 t ?_
              show Steps p.tables e below (T428.setTop (mkF m 144 #[.val (.int p0), .val (.int p1), .val (.int p2), .val (.int vo62), .val (.int vc67), .val (.int r70), .val (.int (1 : Int32)), .val (.ref b223), .val (.int r272)] [(.int r430)])) _
              refine XS.ifNo X428.here hx rfl (hb hby at_144) rfl ((if0 _ _).trans (feq hc144_493).1) ?_
              show Steps p.tables e below (T428.setTop (mkF m 147 #[.val (.int p0), .val (.int p1), .val (.int p2), .val (.int vo62), .val (.int vc67), .val (.int r70), .val (.int (1 : Int32)), .val (.ref b223), .val (.int r272)] [])) _
              refine XS.aload X428.here hx rfl (hb hby at_147) rfl rfl ?_
              show Steps p.tables e below (T428.setTop (mkF m 149 #[.val (.int p0), .val (.int p1), .val (.int p2), .val (.int vo62), .val (.int vc67), .val (.int r70), .val (.int (1 : Int32)), .val (.ref b223), .val (.int r272)] [(.ref b223)])) _
              refine XS.iload X428.here hx rfl (hb hby at_149) rfl ?_
              show Steps p.tables e below (T428.setTop (mkF m 151 #[.val (.int p0), .val (.int p1), .val (.int p2), .val (.int vo62), .val (.int vc67), .val (.int r70), .val (.int (1 : Int32)), .val (.ref b223), .val (.int r272)] [(.int vc67), (.ref b223)])) _
              refine st494.trans ?_
              show Steps p.tables e below (T494.setTop (mkF m 154 #[.val (.int p0), .val (.int p1), .val (.int p2), .val (.int vo62), .val (.int vc67), .val (.int r70), .val (.int (1 : Int32)), .val (.ref b223), .val (.int r272)] [(.int (own_cm vc67 vo62 vc67))])) _
              exact kt
            obtain ⟨r496, hr496⟩ : ∃ z : Int32, z = (own_cm vc67 vo62 vc67) := ⟨_, rfl⟩
            rw [← hr496] at k495
            have hc154_565 : ¬ (r496 = (0 : Int32)) := (by
                have ar497 := rng32 p2
                have ar498 := rng32 (p2 >>> ((2 : Int32) &&& 31))
                first | have ar499 : (p2 >>> ((2 : Int32) &&& 31)).toInt = p2.toInt / 4 := (by have qw := c_ishr p2 (2 : Int32) 2 (by decide); simp only [show (2 ^ 2 : Nat) = 4 from by decide, Int.cast_ofNat_Int] at qw; omega) | (have ar499 := c_ishr p2 (2 : Int32) 2 (by decide); simp only [show (2 ^ 2 : Nat) = 4 from by decide, Int.cast_ofNat_Int] at ar499)
                have ar500 : (1 : Int32).toInt = 1 := by decide
                have ar501 := c_mask (p2 >>> ((2 : Int32) &&& 31)) (1 : Int32) 1 (by decide) (by decide)
                simp only [show (2 ^ 1 : Nat) = 2 from by decide, Int.cast_ofNat_Int] at ar501
                have ar502 := rng32 ((p2 >>> ((2 : Int32) &&& 31)) &&& (1 : Int32))
                have ar503 : (0 : Int32).toInt = 0 := by decide
                have ar504 : ((p2 >>> ((2 : Int32) &&& 31)) &&& (1 : Int32)).toInt = (0 : Int32).toInt := congrArg Int32.toInt hc13_64
                have ar505 := rng32 r73
                have ar506 := rng32 vo62
                have ar507 : (1439 : Int32).toInt = 1439 := by decide
                have ar508 : ((1439 : Int32).toInt < vo62.toInt ∧ (if (1439 : Int32) < vo62 then (0 : Int32) else (1 : Int32)).toInt = (0 : Int32).toInt) ∨ (¬ ((1439 : Int32).toInt < vo62.toInt) ∧ (if (1439 : Int32) < vo62 then (0 : Int32) else (1 : Int32)).toInt = (1 : Int32).toInt) := by
                      by_cases q : (1439 : Int32) < vo62
                      · exact Or.inl ⟨Int32.lt_iff_toInt_lt.mp q, by rw [if_pos q]⟩
                      · exact Or.inr ⟨fun q' => q (Int32.lt_iff_toInt_lt.mpr q'), by rw [if_neg q]⟩
                have ar509 : (vo62.toInt < (0 : Int32).toInt ∧ (if vo62 < (0 : Int32) then (0 : Int32) else (if (1439 : Int32) < vo62 then (0 : Int32) else (1 : Int32))).toInt = (0 : Int32).toInt) ∨ (¬ (vo62.toInt < (0 : Int32).toInt) ∧ (if vo62 < (0 : Int32) then (0 : Int32) else (if (1439 : Int32) < vo62 then (0 : Int32) else (1 : Int32))).toInt = (if (1439 : Int32) < vo62 then (0 : Int32) else (1 : Int32)).toInt) := by
                      by_cases q : vo62 < (0 : Int32)
                      · exact Or.inl ⟨Int32.lt_iff_toInt_lt.mp q, by rw [if_pos q]⟩
                      · exact Or.inr ⟨fun q' => q (Int32.lt_iff_toInt_lt.mpr q'), by rw [if_neg q]⟩
                have ar510 : (own_inday vo62).toInt = (if vo62 < (0 : Int32) then (0 : Int32) else (if (1439 : Int32) < vo62 then (0 : Int32) else (1 : Int32))).toInt := congrArg _ (own_eq_own_inday vo62)
                have ar511 := congrArg Int32.toInt hr73
                have ar512 : ¬ (r73.toInt = (0 : Int32).toInt) := fun qq_ => hc50_75 (Int32.toInt_inj.mp qq_)
                have ar513 := rng32 r104
                have ar514 := rng32 vc67
                have ar515 : ((1439 : Int32).toInt < vc67.toInt ∧ (if (1439 : Int32) < vc67 then (0 : Int32) else (1 : Int32)).toInt = (0 : Int32).toInt) ∨ (¬ ((1439 : Int32).toInt < vc67.toInt) ∧ (if (1439 : Int32) < vc67 then (0 : Int32) else (1 : Int32)).toInt = (1 : Int32).toInt) := by
                      by_cases q : (1439 : Int32) < vc67
                      · exact Or.inl ⟨Int32.lt_iff_toInt_lt.mp q, by rw [if_pos q]⟩
                      · exact Or.inr ⟨fun q' => q (Int32.lt_iff_toInt_lt.mpr q'), by rw [if_neg q]⟩
                have ar516 : (vc67.toInt < (0 : Int32).toInt ∧ (if vc67 < (0 : Int32) then (0 : Int32) else (if (1439 : Int32) < vc67 then (0 : Int32) else (1 : Int32))).toInt = (0 : Int32).toInt) ∨ (¬ (vc67.toInt < (0 : Int32).toInt) ∧ (if vc67 < (0 : Int32) then (0 : Int32) else (if (1439 : Int32) < vc67 then (0 : Int32) else (1 : Int32))).toInt = (if (1439 : Int32) < vc67 then (0 : Int32) else (1 : Int32)).toInt) := by
                      by_cases q : vc67 < (0 : Int32)
                      · exact Or.inl ⟨Int32.lt_iff_toInt_lt.mp q, by rw [if_pos q]⟩
                      · exact Or.inr ⟨fun q' => q (Int32.lt_iff_toInt_lt.mpr q'), by rw [if_neg q]⟩
                have ar517 : (own_inday vc67).toInt = (if vc67 < (0 : Int32) then (0 : Int32) else (if (1439 : Int32) < vc67 then (0 : Int32) else (1 : Int32))).toInt := congrArg _ (own_eq_own_inday vc67)
                have ar518 := congrArg Int32.toInt hr104
                have ar519 : ¬ (r104.toInt = (0 : Int32).toInt) := fun qq_ => hc58_106 (Int32.toInt_inj.mp qq_)
                have ar520 := c_i2l vc67
                have ar521 := rng64 (vc67.toInt64)
                have ar522 := c_i2l vo62
                have ar523 := rng64 (vo62.toInt64)
                have ar524 := rng64 ((vc67.toInt64) - (vo62.toInt64))
                first | have ar525 : ((vc67.toInt64) - (vo62.toInt64)).toInt = (vc67.toInt64).toInt - (vo62.toInt64).toInt := (by have qw := c_lsub (vc67.toInt64) (vo62.toInt64); omega) | (have ar525 := c_lsub (vc67.toInt64) (vo62.toInt64); skip)
                have ar526 : (0 : Int64).toInt = 0 := by decide
                have ar527 : ¬ (((vc67.toInt64) - (vo62.toInt64)).toInt < (0 : Int64).toInt) := fun qq_ => hc69_140 (Int64.lt_iff_toInt_lt.mpr qq_)
                have ar528 := rng32 r70
                have ar529 : (1440 : Int32).toInt = 1440 := by decide
                have ar530 : (vc67.toInt < (1440 : Int32).toInt ∧ (if vc67 < (1440 : Int32) then (1 : Int32) else (0 : Int32)).toInt = (1 : Int32).toInt) ∨ (¬ (vc67.toInt < (1440 : Int32).toInt) ∧ (if vc67 < (1440 : Int32) then (1 : Int32) else (0 : Int32)).toInt = (0 : Int32).toInt) := by
                      by_cases q : vc67 < (1440 : Int32)
                      · exact Or.inl ⟨Int32.lt_iff_toInt_lt.mp q, by rw [if_pos q]⟩
                      · exact Or.inr ⟨fun q' => q (Int32.lt_iff_toInt_lt.mpr q'), by rw [if_neg q]⟩
                have ar531 : (vc67.toInt < vo62.toInt ∧ (if vc67 < vo62 then (0 : Int32) else (if vc67 < (1440 : Int32) then (1 : Int32) else (0 : Int32))).toInt = (0 : Int32).toInt) ∨ (¬ (vc67.toInt < vo62.toInt) ∧ (if vc67 < vo62 then (0 : Int32) else (if vc67 < (1440 : Int32) then (1 : Int32) else (0 : Int32))).toInt = (if vc67 < (1440 : Int32) then (1 : Int32) else (0 : Int32)).toInt) := by
                      by_cases q : vc67 < vo62
                      · exact Or.inl ⟨Int32.lt_iff_toInt_lt.mp q, by rw [if_pos q]⟩
                      · exact Or.inr ⟨fun q' => q (Int32.lt_iff_toInt_lt.mpr q'), by rw [if_neg q]⟩
                have ar532 : (vo62.toInt < (0 : Int32).toInt ∧ (if vo62 < (0 : Int32) then (0 : Int32) else (if vc67 < vo62 then (0 : Int32) else (if vc67 < (1440 : Int32) then (1 : Int32) else (0 : Int32)))).toInt = (0 : Int32).toInt) ∨ (¬ (vo62.toInt < (0 : Int32).toInt) ∧ (if vo62 < (0 : Int32) then (0 : Int32) else (if vc67 < vo62 then (0 : Int32) else (if vc67 < (1440 : Int32) then (1 : Int32) else (0 : Int32)))).toInt = (if vc67 < vo62 then (0 : Int32) else (if vc67 < (1440 : Int32) then (1 : Int32) else (0 : Int32))).toInt) := by
                      by_cases q : vo62 < (0 : Int32)
                      · exact Or.inl ⟨Int32.lt_iff_toInt_lt.mp q, by rw [if_pos q]⟩
                      · exact Or.inr ⟨fun q' => q (Int32.lt_iff_toInt_lt.mpr q'), by rw [if_neg q]⟩
                have ar533 : (own_isday vo62 vc67).toInt = (if vo62 < (0 : Int32) then (0 : Int32) else (if vc67 < vo62 then (0 : Int32) else (if vc67 < (1440 : Int32) then (1 : Int32) else (0 : Int32)))).toInt := congrArg _ (own_eq_own_isday vo62 vc67)
                have ar534 := congrArg Int32.toInt hr70
                have ar535 : r70.toInt = (1 : Int32).toInt := congrArg Int32.toInt hc83_219
                have ar536 : ¬ (r70.toInt = (0 : Int32).toInt) := fun qq_ => hc90_221 (Int32.toInt_inj.mp qq_)
                have ar537 := rng32 r272
                have ar538 := rng32 (vc67 - vo62)
                first | have ar539 : (vc67 - vo62).toInt = vc67.toInt - vo62.toInt := (by have qw := c_isub vc67 vo62; omega) | (have ar539 := c_isub vc67 vo62; skip)
                have ar540 := rng32 ((vc67 - vo62) + (1 : Int32))
                first | have ar541 : ((vc67 - vo62) + (1 : Int32)).toInt = (vc67 - vo62).toInt + 1 := (by have qw := c_iadd (vc67 - vo62) (1 : Int32); omega) | (have ar541 := c_iadd (vc67 - vo62) (1 : Int32); skip)
                have ar542 := congrArg Int32.toInt hr272
                have ar543 : ¬ (r272.toInt < (1 : Int32).toInt) := fun qq_ => hc117_319 (Int32.lt_iff_toInt_lt.mpr qq_)
                have ar544 : ¬ ((1440 : Int32).toInt < r272.toInt) := fun qq_ => hc125_367 (Int32.lt_iff_toInt_lt.mpr qq_)
                have ar545 : (86400 : Int32).toInt = 86400 := by decide
                have ar546 := rng32 r370
                have ar547 := rng32 (vc67 + (1 : Int32))
                first | have ar548 : (vc67 + (1 : Int32)).toInt = vc67.toInt + 1 := (by have qw := c_iadd vc67 (1 : Int32); omega) | (have ar548 := c_iadd vc67 (1 : Int32); skip)
                have ar549 : (60 : Int32).toInt = 60 := by decide
                have ar550 := rng32 ((vc67 + (1 : Int32)) * (60 : Int32))
                first | have ar551 : ((vc67 + (1 : Int32)) * (60 : Int32)).toInt = (vc67 + (1 : Int32)).toInt * 60 := (by have qw := c_imul (vc67 + (1 : Int32)) (60 : Int32); rw [show (60 : Int32).toInt = 60 from by decide] at qw; omega) | (have ar551 := c_imul (vc67 + (1 : Int32)) (60 : Int32); rw [show (60 : Int32).toInt = 60 from by decide] at ar551)
                have ar552 := congrArg Int32.toInt hr370
                have ar553 : ¬ ((86400 : Int32).toInt < r370.toInt) := fun qq_ => hc135_427 (Int32.lt_iff_toInt_lt.mpr qq_)
                have ar554 := rng32 r430
                have ar555 : (vc67.toInt < vo62.toInt ∧ (if vc67 < vo62 then (0 : Int32) else (1 : Int32)).toInt = (0 : Int32).toInt) ∨ (¬ (vc67.toInt < vo62.toInt) ∧ (if vc67 < vo62 then (0 : Int32) else (1 : Int32)).toInt = (1 : Int32).toInt) := by
                      by_cases q : vc67 < vo62
                      · exact Or.inl ⟨Int32.lt_iff_toInt_lt.mp q, by rw [if_pos q]⟩
                      · exact Or.inr ⟨fun q' => q (Int32.lt_iff_toInt_lt.mpr q'), by rw [if_neg q]⟩
                have ar556 : (vo62.toInt < vo62.toInt ∧ (if vo62 < vo62 then (0 : Int32) else (if vc67 < vo62 then (0 : Int32) else (1 : Int32))).toInt = (0 : Int32).toInt) ∨ (¬ (vo62.toInt < vo62.toInt) ∧ (if vo62 < vo62 then (0 : Int32) else (if vc67 < vo62 then (0 : Int32) else (1 : Int32))).toInt = (if vc67 < vo62 then (0 : Int32) else (1 : Int32)).toInt) := by
                      by_cases q : vo62 < vo62
                      · exact Or.inl ⟨Int32.lt_iff_toInt_lt.mp q, by rw [if_pos q]⟩
                      · exact Or.inr ⟨fun q' => q (Int32.lt_iff_toInt_lt.mpr q'), by rw [if_neg q]⟩
                have ar557 : (own_cm vo62 vo62 vc67).toInt = (if vo62 < vo62 then (0 : Int32) else (if vc67 < vo62 then (0 : Int32) else (1 : Int32))).toInt := congrArg _ (own_eq_own_cm vo62 vo62 vc67)
                have ar558 := congrArg Int32.toInt hr430
                have ar559 : ¬ (r430.toInt = (0 : Int32).toInt) := fun qq_ => hc144_493 (Int32.toInt_inj.mp qq_)
                have ar560 := rng32 r496
                have ar561 : (vc67.toInt < vc67.toInt ∧ (if vc67 < vc67 then (0 : Int32) else (1 : Int32)).toInt = (0 : Int32).toInt) ∨ (¬ (vc67.toInt < vc67.toInt) ∧ (if vc67 < vc67 then (0 : Int32) else (1 : Int32)).toInt = (1 : Int32).toInt) := by
                      by_cases q : vc67 < vc67
                      · exact Or.inl ⟨Int32.lt_iff_toInt_lt.mp q, by rw [if_pos q]⟩
                      · exact Or.inr ⟨fun q' => q (Int32.lt_iff_toInt_lt.mpr q'), by rw [if_neg q]⟩
                have ar562 : (vc67.toInt < vo62.toInt ∧ (if vc67 < vo62 then (0 : Int32) else (if vc67 < vc67 then (0 : Int32) else (1 : Int32))).toInt = (0 : Int32).toInt) ∨ (¬ (vc67.toInt < vo62.toInt) ∧ (if vc67 < vo62 then (0 : Int32) else (if vc67 < vc67 then (0 : Int32) else (1 : Int32))).toInt = (if vc67 < vc67 then (0 : Int32) else (1 : Int32)).toInt) := by
                      by_cases q : vc67 < vo62
                      · exact Or.inl ⟨Int32.lt_iff_toInt_lt.mp q, by rw [if_pos q]⟩
                      · exact Or.inr ⟨fun q' => q (Int32.lt_iff_toInt_lt.mpr q'), by rw [if_neg q]⟩
                have ar563 : (own_cm vc67 vo62 vc67).toInt = (if vc67 < vo62 then (0 : Int32) else (if vc67 < vc67 then (0 : Int32) else (1 : Int32))).toInt := congrArg _ (own_eq_own_cm vc67 vo62 vc67)
                have ar564 := congrArg Int32.toInt hr496
                exact fun qq_ => absurd (congrArg Int32.toInt qq_) (by omega))
            have k566 : ∀ t, Steps p.tables e below (T494.setTop (mkF m 162 #[.val (.int p0), .val (.int p1), .val (.int p2), .val (.int vo62), .val (.int vc67), .val (.int r70), .val (.int (1 : Int32)), .val (.ref b223), .val (.int r272)] [(.int (1 : Int32))])) t → Steps p.tables e below (s₁.setTop (entryFrame m #[(.int p0), (.int p1), (.int p2)] maxLocals)) t := by
              intro t kt
              refine k495 t ?_
              show Steps p.tables e below (T494.setTop (mkF m 154 #[.val (.int p0), .val (.int p1), .val (.int p2), .val (.int vo62), .val (.int vc67), .val (.int r70), .val (.int (1 : Int32)), .val (.ref b223), .val (.int r272)] [(.int r496)])) _
              refine XS.ifNo X494.here hx rfl (hb hby at_154) rfl ((if0 _ _).trans (feq hc154_565).1) ?_
              show Steps p.tables e below (T494.setTop (mkF m 157 #[.val (.int p0), .val (.int p1), .val (.int p2), .val (.int vo62), .val (.int vc67), .val (.int r70), .val (.int (1 : Int32)), .val (.ref b223), .val (.int r272)] [])) _
              refine XS.iconst X494.here hx rfl (hb hby at_157) ?_
              show Steps p.tables e below (T494.setTop (mkF m 158 #[.val (.int p0), .val (.int p1), .val (.int p2), .val (.int vo62), .val (.int vc67), .val (.int r70), .val (.int (1 : Int32)), .val (.ref b223), .val (.int r272)] [(.int (1 : Int32))])) _
              refine XS.goto X494.here hx rfl (pc0 := 158) (pc' := 162) rfl (hb hby at_158) (by decide) (by decide) ?_
              show Steps p.tables e below (T494.setTop (mkF m 162 #[.val (.int p0), .val (.int p1), .val (.int p2), .val (.int vo62), .val (.int vc67), .val (.int r70), .val (.int (1 : Int32)), .val (.ref b223), .val (.int r272)] [(.int (1 : Int32))])) _
              exact kt
            obtain ⟨fs, hr, hrun, hended, hW, hsame⟩ := X494.leave (v := some (.int (1 : Int32))) (fun h => by rw [Bd.returns] at h; cases h)
            refine ⟨_, _, k566 _ (retN X494 hx (t := .boolean) Bd.returns (by simp) (hb hby at_162) hr), hrun, hended, _, _, rfl, ?_, ⟨_, rfl⟩, hW, hsame.mono (by decide) (by decide)⟩
            show Q0 Z p0 p1 p2 h0 n0 _ T494.heap _
            rw [eq494]
            exact ⟨rfl, N494⟩
  · have k567 : ∀ t, Steps p.tables e below (T60.setTop (mkF m 36 #[.val (.int p0), .val (.int p1), .val (.int p2), .val (.int vo62), .unset, .unset, .unset, .unset, .unset] [(.int (vo62 + ((p1 &&& (7 : Int32)) - (4 : Int32))))])) t → Steps p.tables e below (s₁.setTop (entryFrame m #[(.int p0), (.int p1), (.int p2)] maxLocals)) t := by
      intro t kt
      refine k63 t ?_
      refine XS.ifNo X60.here hx rfl (hb hby at_13) rfl ((if0 _ _).trans (feq hc13_64).1) ?_
      show Steps p.tables e below (T60.setTop (mkF m 16 #[.val (.int p0), .val (.int p1), .val (.int p2), .val (.int vo62), .unset, .unset, .unset, .unset, .unset] [])) _
      refine XS.iloadN X60.here hx rfl (hb hby at_16) rfl ?_
      show Steps p.tables e below (T60.setTop (mkF m 17 #[.val (.int p0), .val (.int p1), .val (.int p2), .val (.int vo62), .unset, .unset, .unset, .unset, .unset] [(.int vo62)])) _
      refine XS.iloadN X60.here hx rfl (hb hby at_17) rfl ?_
      show Steps p.tables e below (T60.setTop (mkF m 18 #[.val (.int p0), .val (.int p1), .val (.int p2), .val (.int vo62), .unset, .unset, .unset, .unset, .unset] [(.int p1), (.int vo62)])) _
      refine XS.bipush X60.here hx rfl (hb hby at_18) ?_
      show Steps p.tables e below (T60.setTop (mkF m 20 #[.val (.int p0), .val (.int p1), .val (.int p2), .val (.int vo62), .unset, .unset, .unset, .unset, .unset] [(.int (7 : Int32)), (.int p1), (.int vo62)])) _
      refine XS.iand X60.here hx rfl (hb hby at_20) rfl ?_
      show Steps p.tables e below (T60.setTop (mkF m 21 #[.val (.int p0), .val (.int p1), .val (.int p2), .val (.int vo62), .unset, .unset, .unset, .unset, .unset] [(.int (p1 &&& (7 : Int32))), (.int vo62)])) _
      refine XS.iconst X60.here hx rfl (hb hby at_21) ?_
      show Steps p.tables e below (T60.setTop (mkF m 22 #[.val (.int p0), .val (.int p1), .val (.int p2), .val (.int vo62), .unset, .unset, .unset, .unset, .unset] [(.int (4 : Int32)), (.int (p1 &&& (7 : Int32))), (.int vo62)])) _
      refine XS.isub X60.here hx rfl (hb hby at_22) rfl ?_
      show Steps p.tables e below (T60.setTop (mkF m 23 #[.val (.int p0), .val (.int p1), .val (.int p2), .val (.int vo62), .unset, .unset, .unset, .unset, .unset] [(.int ((p1 &&& (7 : Int32)) - (4 : Int32))), (.int vo62)])) _
      refine XS.iadd X60.here hx rfl (hb hby at_23) rfl ?_
      show Steps p.tables e below (T60.setTop (mkF m 24 #[.val (.int p0), .val (.int p1), .val (.int p2), .val (.int vo62), .unset, .unset, .unset, .unset, .unset] [(.int (vo62 + ((p1 &&& (7 : Int32)) - (4 : Int32))))])) _
      refine XS.goto X60.here hx rfl (pc0 := 24) (pc' := 36) rfl (hb hby at_24) (by decide) (by decide) ?_
      show Steps p.tables e below (T60.setTop (mkF m 36 #[.val (.int p0), .val (.int p1), .val (.int p2), .val (.int vo62), .unset, .unset, .unset, .unset, .unset] [(.int (vo62 + ((p1 &&& (7 : Int32)) - (4 : Int32))))])) _
      exact kt
    obtain ⟨vc568, hvc568⟩ : ∃ z : Int32, z = (vo62 + ((p1 &&& (7 : Int32)) - (4 : Int32))) := ⟨_, rfl⟩
    rw [← hvc568] at k567
    obtain ⟨_, _, ⟨T569, L569, kc569, nc569⟩, -, X569, ⟨Lc569, hQ569, l569, y569, z569⟩, st569⟩ := Jvm.LawKit.callS X60 hx (y := (⟨"com/example/tidegate/tidegate/model/OperatingDay", "isDay", "(II)Z"⟩ : MethodName)) hown (mvT hZ (hw _ (List.mem_of_getElem? (i := 4) rfl))) (mvT hZ (hw _ (List.mem_of_getElem? (i := 5) rfl))) (mvT hZ (hw _ (List.mem_of_getElem? (i := 6) rfl))) (mvT hZ (hw _ (List.mem_of_getElem? (i := 7) rfl))) (by decide) (backOf (W := 0) (rm2 l Z a0 hw [] vo62 vc568 h0 n0 ) hZ (hw _ (List.mem_of_getElem? (i := 7) rfl)) (hw _ (List.mem_of_getElem? (i := 6) rfl)) (by decide) (by decide)) (g := (mkF m 41 #[.val (.int p0), .val (.int p1), .val (.int p2), .val (.int vo62), .val (.int vc568), .unset, .unset, .unset, .unset] [(.int vc568), (.int vo62)])) rfl (by rw [hml]; rfl) (argsL := [(.int vo62), (.int vc568)]) (rest := []) (lenOf pd_1 rfl) rfl (by show 2 * 0 + _ ≤ _; exact Nat.le_of_eq rfl) (hb hby at_41) (fun _ _ => ⟨rfl, eq60, (by decide : 0 + 0 ≤ _), (by decide : 0 + 0 ≤ _)⟩)
    dsimp only [Pt.U, Pt.locs, Pt.cells, Pt.slots] at X569 l569 y569 z569 st569 hQ569
    subst l569 y569 z569
    obtain ⟨rfl, Nq569, eq569⟩ := hQ569
    have N569 := Fr.app N60 Nq569
    have k570 : ∀ t, Steps p.tables e below (T569.setTop (mkF m 44 #[.val (.int p0), .val (.int p1), .val (.int p2), .val (.int vo62), .val (.int vc568), .unset, .unset, .unset, .unset] [(.int (own_isday vo62 vc568))])) t → Steps p.tables e below (s₁.setTop (entryFrame m #[(.int p0), (.int p1), (.int p2)] maxLocals)) t := by
      intro t kt
      refine k567 t ?_
      refine XS.istore X60.here hx rfl (hb hby at_36) rfl (l' := #[.val (.int p0), .val (.int p1), .val (.int p2), .val (.int vo62), .val (.int vc568), .unset, .unset, .unset, .unset]) rfl ?_
      show Steps p.tables e below (T60.setTop (mkF m 38 #[.val (.int p0), .val (.int p1), .val (.int p2), .val (.int vo62), .val (.int vc568), .unset, .unset, .unset, .unset] [])) _
      refine XS.iloadN X60.here hx rfl (hb hby at_38) rfl ?_
      show Steps p.tables e below (T60.setTop (mkF m 39 #[.val (.int p0), .val (.int p1), .val (.int p2), .val (.int vo62), .val (.int vc568), .unset, .unset, .unset, .unset] [(.int vo62)])) _
      refine XS.iload X60.here hx rfl (hb hby at_39) rfl ?_
      show Steps p.tables e below (T60.setTop (mkF m 41 #[.val (.int p0), .val (.int p1), .val (.int p2), .val (.int vo62), .val (.int vc568), .unset, .unset, .unset, .unset] [(.int vc568), (.int vo62)])) _
      refine st569 _ ?_
      show Steps p.tables e below (T569.setTop (mkF m 44 #[.val (.int p0), .val (.int p1), .val (.int p2), .val (.int vo62), .val (.int vc568), .unset, .unset, .unset, .unset] [(.int (own_isday vo62 vc568))])) _
      exact kt
    obtain ⟨r571, hr571⟩ : ∃ z : Int32, z = (own_isday vo62 vc568) := ⟨_, rfl⟩
    rw [← hr571] at k570
    obtain ⟨_, _, ⟨T572, L572, kc572, nc572⟩, -, X572, ⟨Lc572, hQ572, l572, y572, z572⟩, st572⟩ := Jvm.LawKit.callS X569 hx (y := (⟨"com/example/tidegate/tidegate/model/OperatingDayIsDayPinLaw", "inDay", "(I)Z"⟩ : MethodName)) hown (mvT hZ (hw _ (List.mem_of_getElem? (i := 8) rfl))) (mvT hZ (hw _ (List.mem_of_getElem? (i := 9) rfl))) (mvT hZ (hw _ (List.mem_of_getElem? (i := 2) rfl))) (mvT hZ (hw _ (List.mem_of_getElem? (i := 10) rfl))) (by decide) (backOf (W := 0) (rm3 l Z a0 hw [] vo62 h0 n0 ) hZ (hw _ (List.mem_of_getElem? (i := 10) rfl)) (hw _ (List.mem_of_getElem? (i := 2) rfl)) (by decide) (by decide)) (g := (mkF m 47 #[.val (.int p0), .val (.int p1), .val (.int p2), .val (.int vo62), .val (.int vc568), .val (.int r571), .unset, .unset, .unset] [(.int vo62)])) rfl (by rw [hml]; rfl) (argsL := [(.int vo62)]) (rest := []) (lenOf pd_2 rfl) rfl (by show 2 * 0 + _ ≤ _; exact Nat.le_of_eq rfl) (hb hby at_47) (fun _ _ => ⟨rfl, eq569, (by decide : 0 + 0 ≤ _), (by decide : 0 + 0 ≤ _)⟩)
    dsimp only [Pt.U, Pt.locs, Pt.cells, Pt.slots] at X572 l572 y572 z572 st572 hQ572
    subst l572 y572 z572
    obtain ⟨rfl, Nq572, eq572⟩ := hQ572
    have N572 := Fr.app N569 Nq572
    have k573 : ∀ t, Steps p.tables e below (T572.setTop (mkF m 50 #[.val (.int p0), .val (.int p1), .val (.int p2), .val (.int vo62), .val (.int vc568), .val (.int r571), .unset, .unset, .unset] [(.int (own_inday vo62))])) t → Steps p.tables e below (s₁.setTop (entryFrame m #[(.int p0), (.int p1), (.int p2)] maxLocals)) t := by
      intro t kt
      refine k570 t ?_
      show Steps p.tables e below (T569.setTop (mkF m 44 #[.val (.int p0), .val (.int p1), .val (.int p2), .val (.int vo62), .val (.int vc568), .unset, .unset, .unset, .unset] [(.int r571)])) _
      refine XS.istore X569.here hx rfl (hb hby at_44) rfl (l' := #[.val (.int p0), .val (.int p1), .val (.int p2), .val (.int vo62), .val (.int vc568), .val (.int r571), .unset, .unset, .unset]) rfl ?_
      show Steps p.tables e below (T569.setTop (mkF m 46 #[.val (.int p0), .val (.int p1), .val (.int p2), .val (.int vo62), .val (.int vc568), .val (.int r571), .unset, .unset, .unset] [])) _
      refine XS.iloadN X569.here hx rfl (hb hby at_46) rfl ?_
      show Steps p.tables e below (T569.setTop (mkF m 47 #[.val (.int p0), .val (.int p1), .val (.int p2), .val (.int vo62), .val (.int vc568), .val (.int r571), .unset, .unset, .unset] [(.int vo62)])) _
      refine st572 _ ?_
      show Steps p.tables e below (T572.setTop (mkF m 50 #[.val (.int p0), .val (.int p1), .val (.int p2), .val (.int vo62), .val (.int vc568), .val (.int r571), .unset, .unset, .unset] [(.int (own_inday vo62))])) _
      exact kt
    obtain ⟨r574, hr574⟩ : ∃ z : Int32, z = (own_inday vo62) := ⟨_, rfl⟩
    rw [← hr574] at k573
    have k575 : ∀ t, Steps p.tables e below (T572.setTop (mkF m 50 #[.val (.int p0), .val (.int p1), .val (.int p2), .val (.int vo62), .val (.int vc568), .val (.int r571), .unset, .unset, .unset] [(.int r574)])) t → Steps p.tables e below (s₁.setTop (entryFrame m #[(.int p0), (.int p1), (.int p2)] maxLocals)) t := by
      intro t kt
      refine k573 t ?_
      show Steps p.tables e below (T572.setTop (mkF m 50 #[.val (.int p0), .val (.int p1), .val (.int p2), .val (.int vo62), .val (.int vc568), .val (.int r571), .unset, .unset, .unset] [(.int r574)])) _
      exact kt
    by_cases hc50_576 : r574 = (0 : Int32)
    · have hc83_601 : r571 = (0 : Int32) := (by
          have ar577 := rng32 p2
          have ar578 := rng32 (p2 >>> ((2 : Int32) &&& 31))
          first | have ar579 : (p2 >>> ((2 : Int32) &&& 31)).toInt = p2.toInt / 4 := (by have qw := c_ishr p2 (2 : Int32) 2 (by decide); simp only [show (2 ^ 2 : Nat) = 4 from by decide, Int.cast_ofNat_Int] at qw; omega) | (have ar579 := c_ishr p2 (2 : Int32) 2 (by decide); simp only [show (2 ^ 2 : Nat) = 4 from by decide, Int.cast_ofNat_Int] at ar579)
          have ar580 : (1 : Int32).toInt = 1 := by decide
          have ar581 := c_mask (p2 >>> ((2 : Int32) &&& 31)) (1 : Int32) 1 (by decide) (by decide)
          simp only [show (2 ^ 1 : Nat) = 2 from by decide, Int.cast_ofNat_Int] at ar581
          have ar582 := rng32 ((p2 >>> ((2 : Int32) &&& 31)) &&& (1 : Int32))
          have ar583 : (0 : Int32).toInt = 0 := by decide
          have ar584 : ¬ (((p2 >>> ((2 : Int32) &&& 31)) &&& (1 : Int32)).toInt = (0 : Int32).toInt) := fun qq_ => hc13_64 (Int32.toInt_inj.mp qq_)
          have ar585 := rng32 r574
          have ar586 := rng32 vo62
          have ar587 : (1439 : Int32).toInt = 1439 := by decide
          have ar588 : ((1439 : Int32).toInt < vo62.toInt ∧ (if (1439 : Int32) < vo62 then (0 : Int32) else (1 : Int32)).toInt = (0 : Int32).toInt) ∨ (¬ ((1439 : Int32).toInt < vo62.toInt) ∧ (if (1439 : Int32) < vo62 then (0 : Int32) else (1 : Int32)).toInt = (1 : Int32).toInt) := by
                by_cases q : (1439 : Int32) < vo62
                · exact Or.inl ⟨Int32.lt_iff_toInt_lt.mp q, by rw [if_pos q]⟩
                · exact Or.inr ⟨fun q' => q (Int32.lt_iff_toInt_lt.mpr q'), by rw [if_neg q]⟩
          have ar589 : (vo62.toInt < (0 : Int32).toInt ∧ (if vo62 < (0 : Int32) then (0 : Int32) else (if (1439 : Int32) < vo62 then (0 : Int32) else (1 : Int32))).toInt = (0 : Int32).toInt) ∨ (¬ (vo62.toInt < (0 : Int32).toInt) ∧ (if vo62 < (0 : Int32) then (0 : Int32) else (if (1439 : Int32) < vo62 then (0 : Int32) else (1 : Int32))).toInt = (if (1439 : Int32) < vo62 then (0 : Int32) else (1 : Int32)).toInt) := by
                by_cases q : vo62 < (0 : Int32)
                · exact Or.inl ⟨Int32.lt_iff_toInt_lt.mp q, by rw [if_pos q]⟩
                · exact Or.inr ⟨fun q' => q (Int32.lt_iff_toInt_lt.mpr q'), by rw [if_neg q]⟩
          have ar590 : (own_inday vo62).toInt = (if vo62 < (0 : Int32) then (0 : Int32) else (if (1439 : Int32) < vo62 then (0 : Int32) else (1 : Int32))).toInt := congrArg _ (own_eq_own_inday vo62)
          have ar591 := congrArg Int32.toInt hr574
          have ar592 : r574.toInt = (0 : Int32).toInt := congrArg Int32.toInt hc50_576
          have ar593 := rng32 r571
          have ar594 := rng32 vc568
          have ar595 : (1440 : Int32).toInt = 1440 := by decide
          have ar596 : (vc568.toInt < (1440 : Int32).toInt ∧ (if vc568 < (1440 : Int32) then (1 : Int32) else (0 : Int32)).toInt = (1 : Int32).toInt) ∨ (¬ (vc568.toInt < (1440 : Int32).toInt) ∧ (if vc568 < (1440 : Int32) then (1 : Int32) else (0 : Int32)).toInt = (0 : Int32).toInt) := by
                by_cases q : vc568 < (1440 : Int32)
                · exact Or.inl ⟨Int32.lt_iff_toInt_lt.mp q, by rw [if_pos q]⟩
                · exact Or.inr ⟨fun q' => q (Int32.lt_iff_toInt_lt.mpr q'), by rw [if_neg q]⟩
          have ar597 : (vc568.toInt < vo62.toInt ∧ (if vc568 < vo62 then (0 : Int32) else (if vc568 < (1440 : Int32) then (1 : Int32) else (0 : Int32))).toInt = (0 : Int32).toInt) ∨ (¬ (vc568.toInt < vo62.toInt) ∧ (if vc568 < vo62 then (0 : Int32) else (if vc568 < (1440 : Int32) then (1 : Int32) else (0 : Int32))).toInt = (if vc568 < (1440 : Int32) then (1 : Int32) else (0 : Int32)).toInt) := by
                by_cases q : vc568 < vo62
                · exact Or.inl ⟨Int32.lt_iff_toInt_lt.mp q, by rw [if_pos q]⟩
                · exact Or.inr ⟨fun q' => q (Int32.lt_iff_toInt_lt.mpr q'), by rw [if_neg q]⟩
          have ar598 : (vo62.toInt < (0 : Int32).toInt ∧ (if vo62 < (0 : Int32) then (0 : Int32) else (if vc568 < vo62 then (0 : Int32) else (if vc568 < (1440 : Int32) then (1 : Int32) else (0 : Int32)))).toInt = (0 : Int32).toInt) ∨ (¬ (vo62.toInt < (0 : Int32).toInt) ∧ (if vo62 < (0 : Int32) then (0 : Int32) else (if vc568 < vo62 then (0 : Int32) else (if vc568 < (1440 : Int32) then (1 : Int32) else (0 : Int32)))).toInt = (if vc568 < vo62 then (0 : Int32) else (if vc568 < (1440 : Int32) then (1 : Int32) else (0 : Int32))).toInt) := by
                by_cases q : vo62 < (0 : Int32)
                · exact Or.inl ⟨Int32.lt_iff_toInt_lt.mp q, by rw [if_pos q]⟩
                · exact Or.inr ⟨fun q' => q (Int32.lt_iff_toInt_lt.mpr q'), by rw [if_neg q]⟩
          have ar599 : (own_isday vo62 vc568).toInt = (if vo62 < (0 : Int32) then (0 : Int32) else (if vc568 < vo62 then (0 : Int32) else (if vc568 < (1440 : Int32) then (1 : Int32) else (0 : Int32)))).toInt := congrArg _ (own_eq_own_isday vo62 vc568)
          have ar600 := congrArg Int32.toInt hr571
          exact Int32.toInt_inj.mp (by omega))
      have k602 : ∀ t, Steps p.tables e below (T572.setTop (mkF m 94 #[.val (.int p0), .val (.int p1), .val (.int p2), .val (.int vo62), .val (.int vc568), .val (.int r571), .val (.int (0 : Int32)), .unset, .unset] [(.int (1 : Int32))])) t → Steps p.tables e below (s₁.setTop (entryFrame m #[(.int p0), (.int p1), (.int p2)] maxLocals)) t := by
        intro t kt
        refine k575 t ?_
        refine XS.ifYes X572.here hx rfl (pc0 := 50) (pc' := 76) rfl (hb hby at_50) rfl ((if0 _ _).trans (teq hc50_576).1) (by decide) (by decide) ?_
        show Steps p.tables e below (T572.setTop (mkF m 76 #[.val (.int p0), .val (.int p1), .val (.int p2), .val (.int vo62), .val (.int vc568), .val (.int r571), .unset, .unset, .unset] [])) _
        refine XS.iconst X572.here hx rfl (hb hby at_76) ?_
        show Steps p.tables e below (T572.setTop (mkF m 77 #[.val (.int p0), .val (.int p1), .val (.int p2), .val (.int vo62), .val (.int vc568), .val (.int r571), .unset, .unset, .unset] [(.int (0 : Int32))])) _
        refine XS.istore X572.here hx rfl (hb hby at_77) rfl (l' := #[.val (.int p0), .val (.int p1), .val (.int p2), .val (.int vo62), .val (.int vc568), .val (.int r571), .val (.int (0 : Int32)), .unset, .unset]) rfl ?_
        show Steps p.tables e below (T572.setTop (mkF m 79 #[.val (.int p0), .val (.int p1), .val (.int p2), .val (.int vo62), .val (.int vc568), .val (.int r571), .val (.int (0 : Int32)), .unset, .unset] [])) _
        refine XS.iload X572.here hx rfl (hb hby at_79) rfl ?_
        show Steps p.tables e below (T572.setTop (mkF m 81 #[.val (.int p0), .val (.int p1), .val (.int p2), .val (.int vo62), .val (.int vc568), .val (.int r571), .val (.int (0 : Int32)), .unset, .unset] [(.int r571)])) _
        refine XS.iload X572.here hx rfl (hb hby at_81) rfl ?_
        show Steps p.tables e below (T572.setTop (mkF m 83 #[.val (.int p0), .val (.int p1), .val (.int p2), .val (.int vo62), .val (.int vc568), .val (.int r571), .val (.int (0 : Int32)), .unset, .unset] [(.int (0 : Int32)), (.int r571)])) _
        refine XS.icmpYes X572.here hx rfl (pc0 := 83) (pc' := 88) rfl (hb hby at_83) rfl (teq hc83_601).1 (by decide) (by decide) ?_
        show Steps p.tables e below (T572.setTop (mkF m 88 #[.val (.int p0), .val (.int p1), .val (.int p2), .val (.int vo62), .val (.int vc568), .val (.int r571), .val (.int (0 : Int32)), .unset, .unset] [])) _
        refine XS.iload X572.here hx rfl (hb hby at_88) rfl ?_
        show Steps p.tables e below (T572.setTop (mkF m 90 #[.val (.int p0), .val (.int p1), .val (.int p2), .val (.int vo62), .val (.int vc568), .val (.int r571), .val (.int (0 : Int32)), .unset, .unset] [(.int r571)])) _
        refine XS.ifNo X572.here hx rfl (hb hby at_90) rfl ((if0 _ _).trans (teq hc83_601).2) ?_
        show Steps p.tables e below (T572.setTop (mkF m 93 #[.val (.int p0), .val (.int p1), .val (.int p2), .val (.int vo62), .val (.int vc568), .val (.int r571), .val (.int (0 : Int32)), .unset, .unset] [])) _
        refine XS.iconst X572.here hx rfl (hb hby at_93) ?_
        show Steps p.tables e below (T572.setTop (mkF m 94 #[.val (.int p0), .val (.int p1), .val (.int p2), .val (.int vo62), .val (.int vc568), .val (.int r571), .val (.int (0 : Int32)), .unset, .unset] [(.int (1 : Int32))])) _
        exact kt
      obtain ⟨fs, hr, hrun, hended, hW, hsame⟩ := X572.leave (v := some (.int (1 : Int32))) (fun h => by rw [Bd.returns] at h; cases h)
      refine ⟨_, _, k602 _ (retN X572 hx (t := .boolean) Bd.returns (by simp) (hb hby at_94) hr), hrun, hended, _, _, rfl, ?_, ⟨_, rfl⟩, hW, hsame.mono (by decide) (by decide)⟩
      show Q0 Z p0 p1 p2 h0 n0 _ T572.heap _
      rw [eq572]
      exact ⟨rfl, N572⟩
    · obtain ⟨_, _, ⟨T603, L603, kc603, nc603⟩, -, X603, ⟨Lc603, hQ603, l603, y603, z603⟩, st603⟩ := Jvm.LawKit.callS X572 hx (y := (⟨"com/example/tidegate/tidegate/model/OperatingDayIsDayPinLaw", "inDay", "(I)Z"⟩ : MethodName)) hown (mvT hZ (hw _ (List.mem_of_getElem? (i := 8) rfl))) (mvT hZ (hw _ (List.mem_of_getElem? (i := 9) rfl))) (mvT hZ (hw _ (List.mem_of_getElem? (i := 2) rfl))) (mvT hZ (hw _ (List.mem_of_getElem? (i := 10) rfl))) (by decide) (backOf (W := 0) (rm3 l Z a0 hw [] vc568 h0 n0 ) hZ (hw _ (List.mem_of_getElem? (i := 10) rfl)) (hw _ (List.mem_of_getElem? (i := 2) rfl)) (by decide) (by decide)) (g := (mkF m 55 #[.val (.int p0), .val (.int p1), .val (.int p2), .val (.int vo62), .val (.int vc568), .val (.int r571), .unset, .unset, .unset] [(.int vc568)])) rfl (by rw [hml]; rfl) (argsL := [(.int vc568)]) (rest := []) (lenOf pd_2 rfl) rfl (by show 2 * 0 + _ ≤ _; exact Nat.le_of_eq rfl) (hb hby at_55) (fun _ _ => ⟨rfl, eq572, (by decide : 0 + 0 ≤ _), (by decide : 0 + 0 ≤ _)⟩)
      dsimp only [Pt.U, Pt.locs, Pt.cells, Pt.slots] at X603 l603 y603 z603 st603 hQ603
      subst l603 y603 z603
      obtain ⟨rfl, Nq603, eq603⟩ := hQ603
      have N603 := Fr.app N572 Nq603
      have k604 : ∀ t, Steps p.tables e below (T603.setTop (mkF m 58 #[.val (.int p0), .val (.int p1), .val (.int p2), .val (.int vo62), .val (.int vc568), .val (.int r571), .unset, .unset, .unset] [(.int (own_inday vc568))])) t → Steps p.tables e below (s₁.setTop (entryFrame m #[(.int p0), (.int p1), (.int p2)] maxLocals)) t := by
        intro t kt
        refine k575 t ?_
        refine XS.ifNo X572.here hx rfl (hb hby at_50) rfl ((if0 _ _).trans (feq hc50_576).1) ?_
        show Steps p.tables e below (T572.setTop (mkF m 53 #[.val (.int p0), .val (.int p1), .val (.int p2), .val (.int vo62), .val (.int vc568), .val (.int r571), .unset, .unset, .unset] [])) _
        refine XS.iload X572.here hx rfl (hb hby at_53) rfl ?_
        show Steps p.tables e below (T572.setTop (mkF m 55 #[.val (.int p0), .val (.int p1), .val (.int p2), .val (.int vo62), .val (.int vc568), .val (.int r571), .unset, .unset, .unset] [(.int vc568)])) _
        refine st603 _ ?_
        show Steps p.tables e below (T603.setTop (mkF m 58 #[.val (.int p0), .val (.int p1), .val (.int p2), .val (.int vo62), .val (.int vc568), .val (.int r571), .unset, .unset, .unset] [(.int (own_inday vc568))])) _
        exact kt
      obtain ⟨r605, hr605⟩ : ∃ z : Int32, z = (own_inday vc568) := ⟨_, rfl⟩
      rw [← hr605] at k604
      have k606 : ∀ t, Steps p.tables e below (T603.setTop (mkF m 58 #[.val (.int p0), .val (.int p1), .val (.int p2), .val (.int vo62), .val (.int vc568), .val (.int r571), .unset, .unset, .unset] [(.int r605)])) t → Steps p.tables e below (s₁.setTop (entryFrame m #[(.int p0), (.int p1), (.int p2)] maxLocals)) t := by
        intro t kt
        refine k604 t ?_
        show Steps p.tables e below (T603.setTop (mkF m 58 #[.val (.int p0), .val (.int p1), .val (.int p2), .val (.int vo62), .val (.int vc568), .val (.int r571), .unset, .unset, .unset] [(.int r605)])) _
        exact kt
      by_cases hc58_607 : r605 = (0 : Int32)
      · have hc83_638 : r571 = (0 : Int32) := (by
            have ar608 := rng32 p2
            have ar609 := rng32 (p2 >>> ((2 : Int32) &&& 31))
            first | have ar610 : (p2 >>> ((2 : Int32) &&& 31)).toInt = p2.toInt / 4 := (by have qw := c_ishr p2 (2 : Int32) 2 (by decide); simp only [show (2 ^ 2 : Nat) = 4 from by decide, Int.cast_ofNat_Int] at qw; omega) | (have ar610 := c_ishr p2 (2 : Int32) 2 (by decide); simp only [show (2 ^ 2 : Nat) = 4 from by decide, Int.cast_ofNat_Int] at ar610)
            have ar611 : (1 : Int32).toInt = 1 := by decide
            have ar612 := c_mask (p2 >>> ((2 : Int32) &&& 31)) (1 : Int32) 1 (by decide) (by decide)
            simp only [show (2 ^ 1 : Nat) = 2 from by decide, Int.cast_ofNat_Int] at ar612
            have ar613 := rng32 ((p2 >>> ((2 : Int32) &&& 31)) &&& (1 : Int32))
            have ar614 : (0 : Int32).toInt = 0 := by decide
            have ar615 : ¬ (((p2 >>> ((2 : Int32) &&& 31)) &&& (1 : Int32)).toInt = (0 : Int32).toInt) := fun qq_ => hc13_64 (Int32.toInt_inj.mp qq_)
            have ar616 := rng32 r574
            have ar617 := rng32 vo62
            have ar618 : (1439 : Int32).toInt = 1439 := by decide
            have ar619 : ((1439 : Int32).toInt < vo62.toInt ∧ (if (1439 : Int32) < vo62 then (0 : Int32) else (1 : Int32)).toInt = (0 : Int32).toInt) ∨ (¬ ((1439 : Int32).toInt < vo62.toInt) ∧ (if (1439 : Int32) < vo62 then (0 : Int32) else (1 : Int32)).toInt = (1 : Int32).toInt) := by
                  by_cases q : (1439 : Int32) < vo62
                  · exact Or.inl ⟨Int32.lt_iff_toInt_lt.mp q, by rw [if_pos q]⟩
                  · exact Or.inr ⟨fun q' => q (Int32.lt_iff_toInt_lt.mpr q'), by rw [if_neg q]⟩
            have ar620 : (vo62.toInt < (0 : Int32).toInt ∧ (if vo62 < (0 : Int32) then (0 : Int32) else (if (1439 : Int32) < vo62 then (0 : Int32) else (1 : Int32))).toInt = (0 : Int32).toInt) ∨ (¬ (vo62.toInt < (0 : Int32).toInt) ∧ (if vo62 < (0 : Int32) then (0 : Int32) else (if (1439 : Int32) < vo62 then (0 : Int32) else (1 : Int32))).toInt = (if (1439 : Int32) < vo62 then (0 : Int32) else (1 : Int32)).toInt) := by
                  by_cases q : vo62 < (0 : Int32)
                  · exact Or.inl ⟨Int32.lt_iff_toInt_lt.mp q, by rw [if_pos q]⟩
                  · exact Or.inr ⟨fun q' => q (Int32.lt_iff_toInt_lt.mpr q'), by rw [if_neg q]⟩
            have ar621 : (own_inday vo62).toInt = (if vo62 < (0 : Int32) then (0 : Int32) else (if (1439 : Int32) < vo62 then (0 : Int32) else (1 : Int32))).toInt := congrArg _ (own_eq_own_inday vo62)
            have ar622 := congrArg Int32.toInt hr574
            have ar623 : ¬ (r574.toInt = (0 : Int32).toInt) := fun qq_ => hc50_576 (Int32.toInt_inj.mp qq_)
            have ar624 := rng32 r605
            have ar625 := rng32 vc568
            have ar626 : ((1439 : Int32).toInt < vc568.toInt ∧ (if (1439 : Int32) < vc568 then (0 : Int32) else (1 : Int32)).toInt = (0 : Int32).toInt) ∨ (¬ ((1439 : Int32).toInt < vc568.toInt) ∧ (if (1439 : Int32) < vc568 then (0 : Int32) else (1 : Int32)).toInt = (1 : Int32).toInt) := by
                  by_cases q : (1439 : Int32) < vc568
                  · exact Or.inl ⟨Int32.lt_iff_toInt_lt.mp q, by rw [if_pos q]⟩
                  · exact Or.inr ⟨fun q' => q (Int32.lt_iff_toInt_lt.mpr q'), by rw [if_neg q]⟩
            have ar627 : (vc568.toInt < (0 : Int32).toInt ∧ (if vc568 < (0 : Int32) then (0 : Int32) else (if (1439 : Int32) < vc568 then (0 : Int32) else (1 : Int32))).toInt = (0 : Int32).toInt) ∨ (¬ (vc568.toInt < (0 : Int32).toInt) ∧ (if vc568 < (0 : Int32) then (0 : Int32) else (if (1439 : Int32) < vc568 then (0 : Int32) else (1 : Int32))).toInt = (if (1439 : Int32) < vc568 then (0 : Int32) else (1 : Int32)).toInt) := by
                  by_cases q : vc568 < (0 : Int32)
                  · exact Or.inl ⟨Int32.lt_iff_toInt_lt.mp q, by rw [if_pos q]⟩
                  · exact Or.inr ⟨fun q' => q (Int32.lt_iff_toInt_lt.mpr q'), by rw [if_neg q]⟩
            have ar628 : (own_inday vc568).toInt = (if vc568 < (0 : Int32) then (0 : Int32) else (if (1439 : Int32) < vc568 then (0 : Int32) else (1 : Int32))).toInt := congrArg _ (own_eq_own_inday vc568)
            have ar629 := congrArg Int32.toInt hr605
            have ar630 : r605.toInt = (0 : Int32).toInt := congrArg Int32.toInt hc58_607
            have ar631 := rng32 r571
            have ar632 : (1440 : Int32).toInt = 1440 := by decide
            have ar633 : (vc568.toInt < (1440 : Int32).toInt ∧ (if vc568 < (1440 : Int32) then (1 : Int32) else (0 : Int32)).toInt = (1 : Int32).toInt) ∨ (¬ (vc568.toInt < (1440 : Int32).toInt) ∧ (if vc568 < (1440 : Int32) then (1 : Int32) else (0 : Int32)).toInt = (0 : Int32).toInt) := by
                  by_cases q : vc568 < (1440 : Int32)
                  · exact Or.inl ⟨Int32.lt_iff_toInt_lt.mp q, by rw [if_pos q]⟩
                  · exact Or.inr ⟨fun q' => q (Int32.lt_iff_toInt_lt.mpr q'), by rw [if_neg q]⟩
            have ar634 : (vc568.toInt < vo62.toInt ∧ (if vc568 < vo62 then (0 : Int32) else (if vc568 < (1440 : Int32) then (1 : Int32) else (0 : Int32))).toInt = (0 : Int32).toInt) ∨ (¬ (vc568.toInt < vo62.toInt) ∧ (if vc568 < vo62 then (0 : Int32) else (if vc568 < (1440 : Int32) then (1 : Int32) else (0 : Int32))).toInt = (if vc568 < (1440 : Int32) then (1 : Int32) else (0 : Int32)).toInt) := by
                  by_cases q : vc568 < vo62
                  · exact Or.inl ⟨Int32.lt_iff_toInt_lt.mp q, by rw [if_pos q]⟩
                  · exact Or.inr ⟨fun q' => q (Int32.lt_iff_toInt_lt.mpr q'), by rw [if_neg q]⟩
            have ar635 : (vo62.toInt < (0 : Int32).toInt ∧ (if vo62 < (0 : Int32) then (0 : Int32) else (if vc568 < vo62 then (0 : Int32) else (if vc568 < (1440 : Int32) then (1 : Int32) else (0 : Int32)))).toInt = (0 : Int32).toInt) ∨ (¬ (vo62.toInt < (0 : Int32).toInt) ∧ (if vo62 < (0 : Int32) then (0 : Int32) else (if vc568 < vo62 then (0 : Int32) else (if vc568 < (1440 : Int32) then (1 : Int32) else (0 : Int32)))).toInt = (if vc568 < vo62 then (0 : Int32) else (if vc568 < (1440 : Int32) then (1 : Int32) else (0 : Int32))).toInt) := by
                  by_cases q : vo62 < (0 : Int32)
                  · exact Or.inl ⟨Int32.lt_iff_toInt_lt.mp q, by rw [if_pos q]⟩
                  · exact Or.inr ⟨fun q' => q (Int32.lt_iff_toInt_lt.mpr q'), by rw [if_neg q]⟩
            have ar636 : (own_isday vo62 vc568).toInt = (if vo62 < (0 : Int32) then (0 : Int32) else (if vc568 < vo62 then (0 : Int32) else (if vc568 < (1440 : Int32) then (1 : Int32) else (0 : Int32)))).toInt := congrArg _ (own_eq_own_isday vo62 vc568)
            have ar637 := congrArg Int32.toInt hr571
            exact Int32.toInt_inj.mp (by omega))
        have k639 : ∀ t, Steps p.tables e below (T603.setTop (mkF m 94 #[.val (.int p0), .val (.int p1), .val (.int p2), .val (.int vo62), .val (.int vc568), .val (.int r571), .val (.int (0 : Int32)), .unset, .unset] [(.int (1 : Int32))])) t → Steps p.tables e below (s₁.setTop (entryFrame m #[(.int p0), (.int p1), (.int p2)] maxLocals)) t := by
          intro t kt
          refine k606 t ?_
          refine XS.ifYes X603.here hx rfl (pc0 := 58) (pc' := 76) rfl (hb hby at_58) rfl ((if0 _ _).trans (teq hc58_607).1) (by decide) (by decide) ?_
          show Steps p.tables e below (T603.setTop (mkF m 76 #[.val (.int p0), .val (.int p1), .val (.int p2), .val (.int vo62), .val (.int vc568), .val (.int r571), .unset, .unset, .unset] [])) _
          refine XS.iconst X603.here hx rfl (hb hby at_76) ?_
          show Steps p.tables e below (T603.setTop (mkF m 77 #[.val (.int p0), .val (.int p1), .val (.int p2), .val (.int vo62), .val (.int vc568), .val (.int r571), .unset, .unset, .unset] [(.int (0 : Int32))])) _
          refine XS.istore X603.here hx rfl (hb hby at_77) rfl (l' := #[.val (.int p0), .val (.int p1), .val (.int p2), .val (.int vo62), .val (.int vc568), .val (.int r571), .val (.int (0 : Int32)), .unset, .unset]) rfl ?_
          show Steps p.tables e below (T603.setTop (mkF m 79 #[.val (.int p0), .val (.int p1), .val (.int p2), .val (.int vo62), .val (.int vc568), .val (.int r571), .val (.int (0 : Int32)), .unset, .unset] [])) _
          refine XS.iload X603.here hx rfl (hb hby at_79) rfl ?_
          show Steps p.tables e below (T603.setTop (mkF m 81 #[.val (.int p0), .val (.int p1), .val (.int p2), .val (.int vo62), .val (.int vc568), .val (.int r571), .val (.int (0 : Int32)), .unset, .unset] [(.int r571)])) _
          refine XS.iload X603.here hx rfl (hb hby at_81) rfl ?_
          show Steps p.tables e below (T603.setTop (mkF m 83 #[.val (.int p0), .val (.int p1), .val (.int p2), .val (.int vo62), .val (.int vc568), .val (.int r571), .val (.int (0 : Int32)), .unset, .unset] [(.int (0 : Int32)), (.int r571)])) _
          refine XS.icmpYes X603.here hx rfl (pc0 := 83) (pc' := 88) rfl (hb hby at_83) rfl (teq hc83_638).1 (by decide) (by decide) ?_
          show Steps p.tables e below (T603.setTop (mkF m 88 #[.val (.int p0), .val (.int p1), .val (.int p2), .val (.int vo62), .val (.int vc568), .val (.int r571), .val (.int (0 : Int32)), .unset, .unset] [])) _
          refine XS.iload X603.here hx rfl (hb hby at_88) rfl ?_
          show Steps p.tables e below (T603.setTop (mkF m 90 #[.val (.int p0), .val (.int p1), .val (.int p2), .val (.int vo62), .val (.int vc568), .val (.int r571), .val (.int (0 : Int32)), .unset, .unset] [(.int r571)])) _
          refine XS.ifNo X603.here hx rfl (hb hby at_90) rfl ((if0 _ _).trans (teq hc83_638).2) ?_
          show Steps p.tables e below (T603.setTop (mkF m 93 #[.val (.int p0), .val (.int p1), .val (.int p2), .val (.int vo62), .val (.int vc568), .val (.int r571), .val (.int (0 : Int32)), .unset, .unset] [])) _
          refine XS.iconst X603.here hx rfl (hb hby at_93) ?_
          show Steps p.tables e below (T603.setTop (mkF m 94 #[.val (.int p0), .val (.int p1), .val (.int p2), .val (.int vo62), .val (.int vc568), .val (.int r571), .val (.int (0 : Int32)), .unset, .unset] [(.int (1 : Int32))])) _
          exact kt
        obtain ⟨fs, hr, hrun, hended, hW, hsame⟩ := X603.leave (v := some (.int (1 : Int32))) (fun h => by rw [Bd.returns] at h; cases h)
        refine ⟨_, _, k639 _ (retN X603 hx (t := .boolean) Bd.returns (by simp) (hb hby at_94) hr), hrun, hended, _, _, rfl, ?_, ⟨_, rfl⟩, hW, hsame.mono (by decide) (by decide)⟩
        show Q0 Z p0 p1 p2 h0 n0 _ T603.heap _
        rw [eq603]
        exact ⟨rfl, N603⟩
      · have k640 : ∀ t, Steps p.tables e below (T603.setTop (mkF m 69 #[.val (.int p0), .val (.int p1), .val (.int p2), .val (.int vo62), .val (.int vc568), .val (.int r571), .unset, .unset, .unset] [(.int (lcmpW ((vc568.toInt64) - (vo62.toInt64)) (0 : Int64)))])) t → Steps p.tables e below (s₁.setTop (entryFrame m #[(.int p0), (.int p1), (.int p2)] maxLocals)) t := by
          intro t kt
          refine k606 t ?_
          refine XS.ifNo X603.here hx rfl (hb hby at_58) rfl ((if0 _ _).trans (feq hc58_607).1) ?_
          show Steps p.tables e below (T603.setTop (mkF m 61 #[.val (.int p0), .val (.int p1), .val (.int p2), .val (.int vo62), .val (.int vc568), .val (.int r571), .unset, .unset, .unset] [])) _
          refine XS.iload X603.here hx rfl (hb hby at_61) rfl ?_
          show Steps p.tables e below (T603.setTop (mkF m 63 #[.val (.int p0), .val (.int p1), .val (.int p2), .val (.int vo62), .val (.int vc568), .val (.int r571), .unset, .unset, .unset] [(.int vc568)])) _
          refine XS.i2l X603.here hx rfl (hb hby at_63) rfl ?_
          show Steps p.tables e below (T603.setTop (mkF m 64 #[.val (.int p0), .val (.int p1), .val (.int p2), .val (.int vo62), .val (.int vc568), .val (.int r571), .unset, .unset, .unset] [(.long (vc568.toInt64))])) _
          refine XS.iloadN X603.here hx rfl (hb hby at_64) rfl ?_
          show Steps p.tables e below (T603.setTop (mkF m 65 #[.val (.int p0), .val (.int p1), .val (.int p2), .val (.int vo62), .val (.int vc568), .val (.int r571), .unset, .unset, .unset] [(.int vo62), (.long (vc568.toInt64))])) _
          refine XS.i2l X603.here hx rfl (hb hby at_65) rfl ?_
          show Steps p.tables e below (T603.setTop (mkF m 66 #[.val (.int p0), .val (.int p1), .val (.int p2), .val (.int vo62), .val (.int vc568), .val (.int r571), .unset, .unset, .unset] [(.long (vo62.toInt64)), (.long (vc568.toInt64))])) _
          refine XS.lsub X603.here hx rfl (hb hby at_66) rfl ?_
          show Steps p.tables e below (T603.setTop (mkF m 67 #[.val (.int p0), .val (.int p1), .val (.int p2), .val (.int vo62), .val (.int vc568), .val (.int r571), .unset, .unset, .unset] [(.long ((vc568.toInt64) - (vo62.toInt64)))])) _
          refine XS.lconst X603.here hx rfl (hb hby at_67) ?_
          show Steps p.tables e below (T603.setTop (mkF m 68 #[.val (.int p0), .val (.int p1), .val (.int p2), .val (.int vo62), .val (.int vc568), .val (.int r571), .unset, .unset, .unset] [(.long (0 : Int64)), (.long ((vc568.toInt64) - (vo62.toInt64)))])) _
          refine XS.lcmp X603.here hx rfl (hb hby at_68) rfl ?_
          show Steps p.tables e below (T603.setTop (mkF m 69 #[.val (.int p0), .val (.int p1), .val (.int p2), .val (.int vo62), .val (.int vc568), .val (.int r571), .unset, .unset, .unset] [(.int (lcmpW ((vc568.toInt64) - (vo62.toInt64)) (0 : Int64)))])) _
          exact kt
        by_cases hc69_641 : ((vc568.toInt64) - (vo62.toInt64)) < (0 : Int64)
        · have hc83_680 : r571 = (0 : Int32) := (by
              have ar642 := rng32 p2
              have ar643 := rng32 (p2 >>> ((2 : Int32) &&& 31))
              first | have ar644 : (p2 >>> ((2 : Int32) &&& 31)).toInt = p2.toInt / 4 := (by have qw := c_ishr p2 (2 : Int32) 2 (by decide); simp only [show (2 ^ 2 : Nat) = 4 from by decide, Int.cast_ofNat_Int] at qw; omega) | (have ar644 := c_ishr p2 (2 : Int32) 2 (by decide); simp only [show (2 ^ 2 : Nat) = 4 from by decide, Int.cast_ofNat_Int] at ar644)
              have ar645 : (1 : Int32).toInt = 1 := by decide
              have ar646 := c_mask (p2 >>> ((2 : Int32) &&& 31)) (1 : Int32) 1 (by decide) (by decide)
              simp only [show (2 ^ 1 : Nat) = 2 from by decide, Int.cast_ofNat_Int] at ar646
              have ar647 := rng32 ((p2 >>> ((2 : Int32) &&& 31)) &&& (1 : Int32))
              have ar648 : (0 : Int32).toInt = 0 := by decide
              have ar649 : ¬ (((p2 >>> ((2 : Int32) &&& 31)) &&& (1 : Int32)).toInt = (0 : Int32).toInt) := fun qq_ => hc13_64 (Int32.toInt_inj.mp qq_)
              have ar650 := rng32 r574
              have ar651 := rng32 vo62
              have ar652 : (1439 : Int32).toInt = 1439 := by decide
              have ar653 : ((1439 : Int32).toInt < vo62.toInt ∧ (if (1439 : Int32) < vo62 then (0 : Int32) else (1 : Int32)).toInt = (0 : Int32).toInt) ∨ (¬ ((1439 : Int32).toInt < vo62.toInt) ∧ (if (1439 : Int32) < vo62 then (0 : Int32) else (1 : Int32)).toInt = (1 : Int32).toInt) := by
                    by_cases q : (1439 : Int32) < vo62
                    · exact Or.inl ⟨Int32.lt_iff_toInt_lt.mp q, by rw [if_pos q]⟩
                    · exact Or.inr ⟨fun q' => q (Int32.lt_iff_toInt_lt.mpr q'), by rw [if_neg q]⟩
              have ar654 : (vo62.toInt < (0 : Int32).toInt ∧ (if vo62 < (0 : Int32) then (0 : Int32) else (if (1439 : Int32) < vo62 then (0 : Int32) else (1 : Int32))).toInt = (0 : Int32).toInt) ∨ (¬ (vo62.toInt < (0 : Int32).toInt) ∧ (if vo62 < (0 : Int32) then (0 : Int32) else (if (1439 : Int32) < vo62 then (0 : Int32) else (1 : Int32))).toInt = (if (1439 : Int32) < vo62 then (0 : Int32) else (1 : Int32)).toInt) := by
                    by_cases q : vo62 < (0 : Int32)
                    · exact Or.inl ⟨Int32.lt_iff_toInt_lt.mp q, by rw [if_pos q]⟩
                    · exact Or.inr ⟨fun q' => q (Int32.lt_iff_toInt_lt.mpr q'), by rw [if_neg q]⟩
              have ar655 : (own_inday vo62).toInt = (if vo62 < (0 : Int32) then (0 : Int32) else (if (1439 : Int32) < vo62 then (0 : Int32) else (1 : Int32))).toInt := congrArg _ (own_eq_own_inday vo62)
              have ar656 := congrArg Int32.toInt hr574
              have ar657 : ¬ (r574.toInt = (0 : Int32).toInt) := fun qq_ => hc50_576 (Int32.toInt_inj.mp qq_)
              have ar658 := rng32 r605
              have ar659 := rng32 vc568
              have ar660 : ((1439 : Int32).toInt < vc568.toInt ∧ (if (1439 : Int32) < vc568 then (0 : Int32) else (1 : Int32)).toInt = (0 : Int32).toInt) ∨ (¬ ((1439 : Int32).toInt < vc568.toInt) ∧ (if (1439 : Int32) < vc568 then (0 : Int32) else (1 : Int32)).toInt = (1 : Int32).toInt) := by
                    by_cases q : (1439 : Int32) < vc568
                    · exact Or.inl ⟨Int32.lt_iff_toInt_lt.mp q, by rw [if_pos q]⟩
                    · exact Or.inr ⟨fun q' => q (Int32.lt_iff_toInt_lt.mpr q'), by rw [if_neg q]⟩
              have ar661 : (vc568.toInt < (0 : Int32).toInt ∧ (if vc568 < (0 : Int32) then (0 : Int32) else (if (1439 : Int32) < vc568 then (0 : Int32) else (1 : Int32))).toInt = (0 : Int32).toInt) ∨ (¬ (vc568.toInt < (0 : Int32).toInt) ∧ (if vc568 < (0 : Int32) then (0 : Int32) else (if (1439 : Int32) < vc568 then (0 : Int32) else (1 : Int32))).toInt = (if (1439 : Int32) < vc568 then (0 : Int32) else (1 : Int32)).toInt) := by
                    by_cases q : vc568 < (0 : Int32)
                    · exact Or.inl ⟨Int32.lt_iff_toInt_lt.mp q, by rw [if_pos q]⟩
                    · exact Or.inr ⟨fun q' => q (Int32.lt_iff_toInt_lt.mpr q'), by rw [if_neg q]⟩
              have ar662 : (own_inday vc568).toInt = (if vc568 < (0 : Int32) then (0 : Int32) else (if (1439 : Int32) < vc568 then (0 : Int32) else (1 : Int32))).toInt := congrArg _ (own_eq_own_inday vc568)
              have ar663 := congrArg Int32.toInt hr605
              have ar664 : ¬ (r605.toInt = (0 : Int32).toInt) := fun qq_ => hc58_607 (Int32.toInt_inj.mp qq_)
              have ar665 := c_i2l vc568
              have ar666 := rng64 (vc568.toInt64)
              have ar667 := c_i2l vo62
              have ar668 := rng64 (vo62.toInt64)
              have ar669 := rng64 ((vc568.toInt64) - (vo62.toInt64))
              first | have ar670 : ((vc568.toInt64) - (vo62.toInt64)).toInt = (vc568.toInt64).toInt - (vo62.toInt64).toInt := (by have qw := c_lsub (vc568.toInt64) (vo62.toInt64); omega) | (have ar670 := c_lsub (vc568.toInt64) (vo62.toInt64); skip)
              have ar671 : (0 : Int64).toInt = 0 := by decide
              have ar672 : ((vc568.toInt64) - (vo62.toInt64)).toInt < (0 : Int64).toInt := Int64.lt_iff_toInt_lt.mp hc69_641
              have ar673 := rng32 r571
              have ar674 : (1440 : Int32).toInt = 1440 := by decide
              have ar675 : (vc568.toInt < (1440 : Int32).toInt ∧ (if vc568 < (1440 : Int32) then (1 : Int32) else (0 : Int32)).toInt = (1 : Int32).toInt) ∨ (¬ (vc568.toInt < (1440 : Int32).toInt) ∧ (if vc568 < (1440 : Int32) then (1 : Int32) else (0 : Int32)).toInt = (0 : Int32).toInt) := by
                    by_cases q : vc568 < (1440 : Int32)
                    · exact Or.inl ⟨Int32.lt_iff_toInt_lt.mp q, by rw [if_pos q]⟩
                    · exact Or.inr ⟨fun q' => q (Int32.lt_iff_toInt_lt.mpr q'), by rw [if_neg q]⟩
              have ar676 : (vc568.toInt < vo62.toInt ∧ (if vc568 < vo62 then (0 : Int32) else (if vc568 < (1440 : Int32) then (1 : Int32) else (0 : Int32))).toInt = (0 : Int32).toInt) ∨ (¬ (vc568.toInt < vo62.toInt) ∧ (if vc568 < vo62 then (0 : Int32) else (if vc568 < (1440 : Int32) then (1 : Int32) else (0 : Int32))).toInt = (if vc568 < (1440 : Int32) then (1 : Int32) else (0 : Int32)).toInt) := by
                    by_cases q : vc568 < vo62
                    · exact Or.inl ⟨Int32.lt_iff_toInt_lt.mp q, by rw [if_pos q]⟩
                    · exact Or.inr ⟨fun q' => q (Int32.lt_iff_toInt_lt.mpr q'), by rw [if_neg q]⟩
              have ar677 : (vo62.toInt < (0 : Int32).toInt ∧ (if vo62 < (0 : Int32) then (0 : Int32) else (if vc568 < vo62 then (0 : Int32) else (if vc568 < (1440 : Int32) then (1 : Int32) else (0 : Int32)))).toInt = (0 : Int32).toInt) ∨ (¬ (vo62.toInt < (0 : Int32).toInt) ∧ (if vo62 < (0 : Int32) then (0 : Int32) else (if vc568 < vo62 then (0 : Int32) else (if vc568 < (1440 : Int32) then (1 : Int32) else (0 : Int32)))).toInt = (if vc568 < vo62 then (0 : Int32) else (if vc568 < (1440 : Int32) then (1 : Int32) else (0 : Int32))).toInt) := by
                    by_cases q : vo62 < (0 : Int32)
                    · exact Or.inl ⟨Int32.lt_iff_toInt_lt.mp q, by rw [if_pos q]⟩
                    · exact Or.inr ⟨fun q' => q (Int32.lt_iff_toInt_lt.mpr q'), by rw [if_neg q]⟩
              have ar678 : (own_isday vo62 vc568).toInt = (if vo62 < (0 : Int32) then (0 : Int32) else (if vc568 < vo62 then (0 : Int32) else (if vc568 < (1440 : Int32) then (1 : Int32) else (0 : Int32)))).toInt := congrArg _ (own_eq_own_isday vo62 vc568)
              have ar679 := congrArg Int32.toInt hr571
              exact Int32.toInt_inj.mp (by omega))
          have k681 : ∀ t, Steps p.tables e below (T603.setTop (mkF m 94 #[.val (.int p0), .val (.int p1), .val (.int p2), .val (.int vo62), .val (.int vc568), .val (.int r571), .val (.int (0 : Int32)), .unset, .unset] [(.int (1 : Int32))])) t → Steps p.tables e below (s₁.setTop (entryFrame m #[(.int p0), (.int p1), (.int p2)] maxLocals)) t := by
            intro t kt
            refine k640 t ?_
            refine XS.ifYes X603.here hx rfl (pc0 := 69) (pc' := 76) rfl (hb hby at_69) rfl ((if0 _ _).trans (tlt ((show ((lcmpW ((vc568.toInt64) - (vo62.toInt64)) (0 : Int64)) < 0) ↔ (((vc568.toInt64) - (vo62.toInt64)) < (0 : Int64)) from lw_lt ((vc568.toInt64) - (vo62.toInt64)) (0 : Int64)).mpr hc69_641)).1) (by decide) (by decide) ?_
            show Steps p.tables e below (T603.setTop (mkF m 76 #[.val (.int p0), .val (.int p1), .val (.int p2), .val (.int vo62), .val (.int vc568), .val (.int r571), .unset, .unset, .unset] [])) _
            refine XS.iconst X603.here hx rfl (hb hby at_76) ?_
            show Steps p.tables e below (T603.setTop (mkF m 77 #[.val (.int p0), .val (.int p1), .val (.int p2), .val (.int vo62), .val (.int vc568), .val (.int r571), .unset, .unset, .unset] [(.int (0 : Int32))])) _
            refine XS.istore X603.here hx rfl (hb hby at_77) rfl (l' := #[.val (.int p0), .val (.int p1), .val (.int p2), .val (.int vo62), .val (.int vc568), .val (.int r571), .val (.int (0 : Int32)), .unset, .unset]) rfl ?_
            show Steps p.tables e below (T603.setTop (mkF m 79 #[.val (.int p0), .val (.int p1), .val (.int p2), .val (.int vo62), .val (.int vc568), .val (.int r571), .val (.int (0 : Int32)), .unset, .unset] [])) _
            refine XS.iload X603.here hx rfl (hb hby at_79) rfl ?_
            show Steps p.tables e below (T603.setTop (mkF m 81 #[.val (.int p0), .val (.int p1), .val (.int p2), .val (.int vo62), .val (.int vc568), .val (.int r571), .val (.int (0 : Int32)), .unset, .unset] [(.int r571)])) _
            refine XS.iload X603.here hx rfl (hb hby at_81) rfl ?_
            show Steps p.tables e below (T603.setTop (mkF m 83 #[.val (.int p0), .val (.int p1), .val (.int p2), .val (.int vo62), .val (.int vc568), .val (.int r571), .val (.int (0 : Int32)), .unset, .unset] [(.int (0 : Int32)), (.int r571)])) _
            refine XS.icmpYes X603.here hx rfl (pc0 := 83) (pc' := 88) rfl (hb hby at_83) rfl (teq hc83_680).1 (by decide) (by decide) ?_
            show Steps p.tables e below (T603.setTop (mkF m 88 #[.val (.int p0), .val (.int p1), .val (.int p2), .val (.int vo62), .val (.int vc568), .val (.int r571), .val (.int (0 : Int32)), .unset, .unset] [])) _
            refine XS.iload X603.here hx rfl (hb hby at_88) rfl ?_
            show Steps p.tables e below (T603.setTop (mkF m 90 #[.val (.int p0), .val (.int p1), .val (.int p2), .val (.int vo62), .val (.int vc568), .val (.int r571), .val (.int (0 : Int32)), .unset, .unset] [(.int r571)])) _
            refine XS.ifNo X603.here hx rfl (hb hby at_90) rfl ((if0 _ _).trans (teq hc83_680).2) ?_
            show Steps p.tables e below (T603.setTop (mkF m 93 #[.val (.int p0), .val (.int p1), .val (.int p2), .val (.int vo62), .val (.int vc568), .val (.int r571), .val (.int (0 : Int32)), .unset, .unset] [])) _
            refine XS.iconst X603.here hx rfl (hb hby at_93) ?_
            show Steps p.tables e below (T603.setTop (mkF m 94 #[.val (.int p0), .val (.int p1), .val (.int p2), .val (.int vo62), .val (.int vc568), .val (.int r571), .val (.int (0 : Int32)), .unset, .unset] [(.int (1 : Int32))])) _
            exact kt
          obtain ⟨fs, hr, hrun, hended, hW, hsame⟩ := X603.leave (v := some (.int (1 : Int32))) (fun h => by rw [Bd.returns] at h; cases h)
          refine ⟨_, _, k681 _ (retN X603 hx (t := .boolean) Bd.returns (by simp) (hb hby at_94) hr), hrun, hended, _, _, rfl, ?_, ⟨_, rfl⟩, hW, hsame.mono (by decide) (by decide)⟩
          show Q0 Z p0 p1 p2 h0 n0 _ T603.heap _
          rw [eq603]
          exact ⟨rfl, N603⟩
        · have hc83_720 : r571 = (1 : Int32) := (by
              have ar682 := rng32 p2
              have ar683 := rng32 (p2 >>> ((2 : Int32) &&& 31))
              first | have ar684 : (p2 >>> ((2 : Int32) &&& 31)).toInt = p2.toInt / 4 := (by have qw := c_ishr p2 (2 : Int32) 2 (by decide); simp only [show (2 ^ 2 : Nat) = 4 from by decide, Int.cast_ofNat_Int] at qw; omega) | (have ar684 := c_ishr p2 (2 : Int32) 2 (by decide); simp only [show (2 ^ 2 : Nat) = 4 from by decide, Int.cast_ofNat_Int] at ar684)
              have ar685 : (1 : Int32).toInt = 1 := by decide
              have ar686 := c_mask (p2 >>> ((2 : Int32) &&& 31)) (1 : Int32) 1 (by decide) (by decide)
              simp only [show (2 ^ 1 : Nat) = 2 from by decide, Int.cast_ofNat_Int] at ar686
              have ar687 := rng32 ((p2 >>> ((2 : Int32) &&& 31)) &&& (1 : Int32))
              have ar688 : (0 : Int32).toInt = 0 := by decide
              have ar689 : ¬ (((p2 >>> ((2 : Int32) &&& 31)) &&& (1 : Int32)).toInt = (0 : Int32).toInt) := fun qq_ => hc13_64 (Int32.toInt_inj.mp qq_)
              have ar690 := rng32 r574
              have ar691 := rng32 vo62
              have ar692 : (1439 : Int32).toInt = 1439 := by decide
              have ar693 : ((1439 : Int32).toInt < vo62.toInt ∧ (if (1439 : Int32) < vo62 then (0 : Int32) else (1 : Int32)).toInt = (0 : Int32).toInt) ∨ (¬ ((1439 : Int32).toInt < vo62.toInt) ∧ (if (1439 : Int32) < vo62 then (0 : Int32) else (1 : Int32)).toInt = (1 : Int32).toInt) := by
                    by_cases q : (1439 : Int32) < vo62
                    · exact Or.inl ⟨Int32.lt_iff_toInt_lt.mp q, by rw [if_pos q]⟩
                    · exact Or.inr ⟨fun q' => q (Int32.lt_iff_toInt_lt.mpr q'), by rw [if_neg q]⟩
              have ar694 : (vo62.toInt < (0 : Int32).toInt ∧ (if vo62 < (0 : Int32) then (0 : Int32) else (if (1439 : Int32) < vo62 then (0 : Int32) else (1 : Int32))).toInt = (0 : Int32).toInt) ∨ (¬ (vo62.toInt < (0 : Int32).toInt) ∧ (if vo62 < (0 : Int32) then (0 : Int32) else (if (1439 : Int32) < vo62 then (0 : Int32) else (1 : Int32))).toInt = (if (1439 : Int32) < vo62 then (0 : Int32) else (1 : Int32)).toInt) := by
                    by_cases q : vo62 < (0 : Int32)
                    · exact Or.inl ⟨Int32.lt_iff_toInt_lt.mp q, by rw [if_pos q]⟩
                    · exact Or.inr ⟨fun q' => q (Int32.lt_iff_toInt_lt.mpr q'), by rw [if_neg q]⟩
              have ar695 : (own_inday vo62).toInt = (if vo62 < (0 : Int32) then (0 : Int32) else (if (1439 : Int32) < vo62 then (0 : Int32) else (1 : Int32))).toInt := congrArg _ (own_eq_own_inday vo62)
              have ar696 := congrArg Int32.toInt hr574
              have ar697 : ¬ (r574.toInt = (0 : Int32).toInt) := fun qq_ => hc50_576 (Int32.toInt_inj.mp qq_)
              have ar698 := rng32 r605
              have ar699 := rng32 vc568
              have ar700 : ((1439 : Int32).toInt < vc568.toInt ∧ (if (1439 : Int32) < vc568 then (0 : Int32) else (1 : Int32)).toInt = (0 : Int32).toInt) ∨ (¬ ((1439 : Int32).toInt < vc568.toInt) ∧ (if (1439 : Int32) < vc568 then (0 : Int32) else (1 : Int32)).toInt = (1 : Int32).toInt) := by
                    by_cases q : (1439 : Int32) < vc568
                    · exact Or.inl ⟨Int32.lt_iff_toInt_lt.mp q, by rw [if_pos q]⟩
                    · exact Or.inr ⟨fun q' => q (Int32.lt_iff_toInt_lt.mpr q'), by rw [if_neg q]⟩
              have ar701 : (vc568.toInt < (0 : Int32).toInt ∧ (if vc568 < (0 : Int32) then (0 : Int32) else (if (1439 : Int32) < vc568 then (0 : Int32) else (1 : Int32))).toInt = (0 : Int32).toInt) ∨ (¬ (vc568.toInt < (0 : Int32).toInt) ∧ (if vc568 < (0 : Int32) then (0 : Int32) else (if (1439 : Int32) < vc568 then (0 : Int32) else (1 : Int32))).toInt = (if (1439 : Int32) < vc568 then (0 : Int32) else (1 : Int32)).toInt) := by
                    by_cases q : vc568 < (0 : Int32)
                    · exact Or.inl ⟨Int32.lt_iff_toInt_lt.mp q, by rw [if_pos q]⟩
                    · exact Or.inr ⟨fun q' => q (Int32.lt_iff_toInt_lt.mpr q'), by rw [if_neg q]⟩
              have ar702 : (own_inday vc568).toInt = (if vc568 < (0 : Int32) then (0 : Int32) else (if (1439 : Int32) < vc568 then (0 : Int32) else (1 : Int32))).toInt := congrArg _ (own_eq_own_inday vc568)
              have ar703 := congrArg Int32.toInt hr605
              have ar704 : ¬ (r605.toInt = (0 : Int32).toInt) := fun qq_ => hc58_607 (Int32.toInt_inj.mp qq_)
              have ar705 := c_i2l vc568
              have ar706 := rng64 (vc568.toInt64)
              have ar707 := c_i2l vo62
              have ar708 := rng64 (vo62.toInt64)
              have ar709 := rng64 ((vc568.toInt64) - (vo62.toInt64))
              first | have ar710 : ((vc568.toInt64) - (vo62.toInt64)).toInt = (vc568.toInt64).toInt - (vo62.toInt64).toInt := (by have qw := c_lsub (vc568.toInt64) (vo62.toInt64); omega) | (have ar710 := c_lsub (vc568.toInt64) (vo62.toInt64); skip)
              have ar711 : (0 : Int64).toInt = 0 := by decide
              have ar712 : ¬ (((vc568.toInt64) - (vo62.toInt64)).toInt < (0 : Int64).toInt) := fun qq_ => hc69_641 (Int64.lt_iff_toInt_lt.mpr qq_)
              have ar713 := rng32 r571
              have ar714 : (1440 : Int32).toInt = 1440 := by decide
              have ar715 : (vc568.toInt < (1440 : Int32).toInt ∧ (if vc568 < (1440 : Int32) then (1 : Int32) else (0 : Int32)).toInt = (1 : Int32).toInt) ∨ (¬ (vc568.toInt < (1440 : Int32).toInt) ∧ (if vc568 < (1440 : Int32) then (1 : Int32) else (0 : Int32)).toInt = (0 : Int32).toInt) := by
                    by_cases q : vc568 < (1440 : Int32)
                    · exact Or.inl ⟨Int32.lt_iff_toInt_lt.mp q, by rw [if_pos q]⟩
                    · exact Or.inr ⟨fun q' => q (Int32.lt_iff_toInt_lt.mpr q'), by rw [if_neg q]⟩
              have ar716 : (vc568.toInt < vo62.toInt ∧ (if vc568 < vo62 then (0 : Int32) else (if vc568 < (1440 : Int32) then (1 : Int32) else (0 : Int32))).toInt = (0 : Int32).toInt) ∨ (¬ (vc568.toInt < vo62.toInt) ∧ (if vc568 < vo62 then (0 : Int32) else (if vc568 < (1440 : Int32) then (1 : Int32) else (0 : Int32))).toInt = (if vc568 < (1440 : Int32) then (1 : Int32) else (0 : Int32)).toInt) := by
                    by_cases q : vc568 < vo62
                    · exact Or.inl ⟨Int32.lt_iff_toInt_lt.mp q, by rw [if_pos q]⟩
                    · exact Or.inr ⟨fun q' => q (Int32.lt_iff_toInt_lt.mpr q'), by rw [if_neg q]⟩
              have ar717 : (vo62.toInt < (0 : Int32).toInt ∧ (if vo62 < (0 : Int32) then (0 : Int32) else (if vc568 < vo62 then (0 : Int32) else (if vc568 < (1440 : Int32) then (1 : Int32) else (0 : Int32)))).toInt = (0 : Int32).toInt) ∨ (¬ (vo62.toInt < (0 : Int32).toInt) ∧ (if vo62 < (0 : Int32) then (0 : Int32) else (if vc568 < vo62 then (0 : Int32) else (if vc568 < (1440 : Int32) then (1 : Int32) else (0 : Int32)))).toInt = (if vc568 < vo62 then (0 : Int32) else (if vc568 < (1440 : Int32) then (1 : Int32) else (0 : Int32))).toInt) := by
                    by_cases q : vo62 < (0 : Int32)
                    · exact Or.inl ⟨Int32.lt_iff_toInt_lt.mp q, by rw [if_pos q]⟩
                    · exact Or.inr ⟨fun q' => q (Int32.lt_iff_toInt_lt.mpr q'), by rw [if_neg q]⟩
              have ar718 : (own_isday vo62 vc568).toInt = (if vo62 < (0 : Int32) then (0 : Int32) else (if vc568 < vo62 then (0 : Int32) else (if vc568 < (1440 : Int32) then (1 : Int32) else (0 : Int32)))).toInt := congrArg _ (own_eq_own_isday vo62 vc568)
              have ar719 := congrArg Int32.toInt hr571
              exact Int32.toInt_inj.mp (by omega))
          have k721 : ∀ t, Steps p.tables e below (T603.setTop (mkF m 90 #[.val (.int p0), .val (.int p1), .val (.int p2), .val (.int vo62), .val (.int vc568), .val (.int r571), .val (.int (1 : Int32)), .unset, .unset] [(.int r571)])) t → Steps p.tables e below (s₁.setTop (entryFrame m #[(.int p0), (.int p1), (.int p2)] maxLocals)) t := by
            intro t kt
            refine k640 t ?_
            refine XS.ifNo X603.here hx rfl (hb hby at_69) rfl ((if0 _ _).trans (flt (fun qq_ => hc69_641 ((show ((lcmpW ((vc568.toInt64) - (vo62.toInt64)) (0 : Int64)) < 0) ↔ (((vc568.toInt64) - (vo62.toInt64)) < (0 : Int64)) from lw_lt ((vc568.toInt64) - (vo62.toInt64)) (0 : Int64)).mp qq_))).1) ?_
            show Steps p.tables e below (T603.setTop (mkF m 72 #[.val (.int p0), .val (.int p1), .val (.int p2), .val (.int vo62), .val (.int vc568), .val (.int r571), .unset, .unset, .unset] [])) _
            refine XS.iconst X603.here hx rfl (hb hby at_72) ?_
            show Steps p.tables e below (T603.setTop (mkF m 73 #[.val (.int p0), .val (.int p1), .val (.int p2), .val (.int vo62), .val (.int vc568), .val (.int r571), .unset, .unset, .unset] [(.int (1 : Int32))])) _
            refine XS.goto X603.here hx rfl (pc0 := 73) (pc' := 77) rfl (hb hby at_73) (by decide) (by decide) ?_
            show Steps p.tables e below (T603.setTop (mkF m 77 #[.val (.int p0), .val (.int p1), .val (.int p2), .val (.int vo62), .val (.int vc568), .val (.int r571), .unset, .unset, .unset] [(.int (1 : Int32))])) _
            refine XS.istore X603.here hx rfl (hb hby at_77) rfl (l' := #[.val (.int p0), .val (.int p1), .val (.int p2), .val (.int vo62), .val (.int vc568), .val (.int r571), .val (.int (1 : Int32)), .unset, .unset]) rfl ?_
            show Steps p.tables e below (T603.setTop (mkF m 79 #[.val (.int p0), .val (.int p1), .val (.int p2), .val (.int vo62), .val (.int vc568), .val (.int r571), .val (.int (1 : Int32)), .unset, .unset] [])) _
            refine XS.iload X603.here hx rfl (hb hby at_79) rfl ?_
            show Steps p.tables e below (T603.setTop (mkF m 81 #[.val (.int p0), .val (.int p1), .val (.int p2), .val (.int vo62), .val (.int vc568), .val (.int r571), .val (.int (1 : Int32)), .unset, .unset] [(.int r571)])) _
            refine XS.iload X603.here hx rfl (hb hby at_81) rfl ?_
            show Steps p.tables e below (T603.setTop (mkF m 83 #[.val (.int p0), .val (.int p1), .val (.int p2), .val (.int vo62), .val (.int vc568), .val (.int r571), .val (.int (1 : Int32)), .unset, .unset] [(.int (1 : Int32)), (.int r571)])) _
            refine XS.icmpYes X603.here hx rfl (pc0 := 83) (pc' := 88) rfl (hb hby at_83) rfl (teq hc83_720).1 (by decide) (by decide) ?_
            show Steps p.tables e below (T603.setTop (mkF m 88 #[.val (.int p0), .val (.int p1), .val (.int p2), .val (.int vo62), .val (.int vc568), .val (.int r571), .val (.int (1 : Int32)), .unset, .unset] [])) _
            refine XS.iload X603.here hx rfl (hb hby at_88) rfl ?_
            show Steps p.tables e below (T603.setTop (mkF m 90 #[.val (.int p0), .val (.int p1), .val (.int p2), .val (.int vo62), .val (.int vc568), .val (.int r571), .val (.int (1 : Int32)), .unset, .unset] [(.int r571)])) _
            exact kt
          by_cases hc90_722 : r571 = (0 : Int32)
          · have k723 : ∀ t, Steps p.tables e below (T603.setTop (mkF m 94 #[.val (.int p0), .val (.int p1), .val (.int p2), .val (.int vo62), .val (.int vc568), .val (.int r571), .val (.int (1 : Int32)), .unset, .unset] [(.int (1 : Int32))])) t → Steps p.tables e below (s₁.setTop (entryFrame m #[(.int p0), (.int p1), (.int p2)] maxLocals)) t := by
              intro t kt
              refine k721 t ?_
              refine XS.ifNo X603.here hx rfl (hb hby at_90) rfl ((if0 _ _).trans (teq hc90_722).2) ?_
              show Steps p.tables e below (T603.setTop (mkF m 93 #[.val (.int p0), .val (.int p1), .val (.int p2), .val (.int vo62), .val (.int vc568), .val (.int r571), .val (.int (1 : Int32)), .unset, .unset] [])) _
              refine XS.iconst X603.here hx rfl (hb hby at_93) ?_
              show Steps p.tables e below (T603.setTop (mkF m 94 #[.val (.int p0), .val (.int p1), .val (.int p2), .val (.int vo62), .val (.int vc568), .val (.int r571), .val (.int (1 : Int32)), .unset, .unset] [(.int (1 : Int32))])) _
              exact kt
            obtain ⟨fs, hr, hrun, hended, hW, hsame⟩ := X603.leave (v := some (.int (1 : Int32))) (fun h => by rw [Bd.returns] at h; cases h)
            refine ⟨_, _, k723 _ (retN X603 hx (t := .boolean) Bd.returns (by simp) (hb hby at_94) hr), hrun, hended, _, _, rfl, ?_, ⟨_, rfl⟩, hW, hsame.mono (by decide) (by decide)⟩
            show Q0 Z p0 p1 p2 h0 n0 _ T603.heap _
            rw [eq603]
            exact ⟨rfl, N603⟩
          · obtain ⟨T724, h724, X724, e724, E724, A724, D724, -, st724⟩ := newO X603 hx hZ hown (hw _ (List.mem_of_getElem? (i := 12) rfl)) (hw _ (List.mem_of_getElem? (i := 13) rfl)) (hw _ (List.mem_of_getElem? (i := 6) rfl)) eq603 (g := (mkF m 95 #[.val (.int p0), .val (.int p1), .val (.int p2), .val (.int vo62), .val (.int vc568), .val (.int r571), .val (.int (1 : Int32)), .unset, .unset] [])) rfl (hb hby at_95) (by decide) (by decide)
            obtain ⟨b724, g724⟩ : ∃ z, z = h0.size := ⟨_, rfl⟩
            rw [← g724] at A724 D724 st724
            have ge_b724 : n0 ≤ b724 := Nat.le_trans Z0 (Nat.le_of_eq g724.symm)
            have F725 : Fld Z h724 b724 "com/example/tidegate/tidegate/model/OperatingDay" "open" "I" (.int (0 : Int32)) := D724 (Or.inr (hw _ (List.mem_of_getElem? (i := 27) rfl))) (ty := .int) (by decide)
            have F726 : Fld Z h724 b724 "com/example/tidegate/tidegate/model/OperatingDay" "close" "I" (.int (0 : Int32)) := D724 (Or.inr (hw _ (List.mem_of_getElem? (i := 29) rfl))) (ty := .int) (by decide)
            have f727 := (Nat.le_trans Z0 ((Keep.refl _ []).ext E724).1)
            have ha728 : ¬ ((own_isday vo62 vc568) = (0 : Int32)) := (by
                have ar729 := rng32 p2
                have ar730 := rng32 (p2 >>> ((2 : Int32) &&& 31))
                first | have ar731 : (p2 >>> ((2 : Int32) &&& 31)).toInt = p2.toInt / 4 := (by have qw := c_ishr p2 (2 : Int32) 2 (by decide); simp only [show (2 ^ 2 : Nat) = 4 from by decide, Int.cast_ofNat_Int] at qw; omega) | (have ar731 := c_ishr p2 (2 : Int32) 2 (by decide); simp only [show (2 ^ 2 : Nat) = 4 from by decide, Int.cast_ofNat_Int] at ar731)
                have ar732 : (1 : Int32).toInt = 1 := by decide
                have ar733 := c_mask (p2 >>> ((2 : Int32) &&& 31)) (1 : Int32) 1 (by decide) (by decide)
                simp only [show (2 ^ 1 : Nat) = 2 from by decide, Int.cast_ofNat_Int] at ar733
                have ar734 := rng32 ((p2 >>> ((2 : Int32) &&& 31)) &&& (1 : Int32))
                have ar735 : (0 : Int32).toInt = 0 := by decide
                have ar736 : ¬ (((p2 >>> ((2 : Int32) &&& 31)) &&& (1 : Int32)).toInt = (0 : Int32).toInt) := fun qq_ => hc13_64 (Int32.toInt_inj.mp qq_)
                have ar737 := rng32 r574
                have ar738 := rng32 vo62
                have ar739 : (1439 : Int32).toInt = 1439 := by decide
                have ar740 : ((1439 : Int32).toInt < vo62.toInt ∧ (if (1439 : Int32) < vo62 then (0 : Int32) else (1 : Int32)).toInt = (0 : Int32).toInt) ∨ (¬ ((1439 : Int32).toInt < vo62.toInt) ∧ (if (1439 : Int32) < vo62 then (0 : Int32) else (1 : Int32)).toInt = (1 : Int32).toInt) := by
                      by_cases q : (1439 : Int32) < vo62
                      · exact Or.inl ⟨Int32.lt_iff_toInt_lt.mp q, by rw [if_pos q]⟩
                      · exact Or.inr ⟨fun q' => q (Int32.lt_iff_toInt_lt.mpr q'), by rw [if_neg q]⟩
                have ar741 : (vo62.toInt < (0 : Int32).toInt ∧ (if vo62 < (0 : Int32) then (0 : Int32) else (if (1439 : Int32) < vo62 then (0 : Int32) else (1 : Int32))).toInt = (0 : Int32).toInt) ∨ (¬ (vo62.toInt < (0 : Int32).toInt) ∧ (if vo62 < (0 : Int32) then (0 : Int32) else (if (1439 : Int32) < vo62 then (0 : Int32) else (1 : Int32))).toInt = (if (1439 : Int32) < vo62 then (0 : Int32) else (1 : Int32)).toInt) := by
                      by_cases q : vo62 < (0 : Int32)
                      · exact Or.inl ⟨Int32.lt_iff_toInt_lt.mp q, by rw [if_pos q]⟩
                      · exact Or.inr ⟨fun q' => q (Int32.lt_iff_toInt_lt.mpr q'), by rw [if_neg q]⟩
                have ar742 : (own_inday vo62).toInt = (if vo62 < (0 : Int32) then (0 : Int32) else (if (1439 : Int32) < vo62 then (0 : Int32) else (1 : Int32))).toInt := congrArg _ (own_eq_own_inday vo62)
                have ar743 := congrArg Int32.toInt hr574
                have ar744 : ¬ (r574.toInt = (0 : Int32).toInt) := fun qq_ => hc50_576 (Int32.toInt_inj.mp qq_)
                have ar745 := rng32 r605
                have ar746 := rng32 vc568
                have ar747 : ((1439 : Int32).toInt < vc568.toInt ∧ (if (1439 : Int32) < vc568 then (0 : Int32) else (1 : Int32)).toInt = (0 : Int32).toInt) ∨ (¬ ((1439 : Int32).toInt < vc568.toInt) ∧ (if (1439 : Int32) < vc568 then (0 : Int32) else (1 : Int32)).toInt = (1 : Int32).toInt) := by
                      by_cases q : (1439 : Int32) < vc568
                      · exact Or.inl ⟨Int32.lt_iff_toInt_lt.mp q, by rw [if_pos q]⟩
                      · exact Or.inr ⟨fun q' => q (Int32.lt_iff_toInt_lt.mpr q'), by rw [if_neg q]⟩
                have ar748 : (vc568.toInt < (0 : Int32).toInt ∧ (if vc568 < (0 : Int32) then (0 : Int32) else (if (1439 : Int32) < vc568 then (0 : Int32) else (1 : Int32))).toInt = (0 : Int32).toInt) ∨ (¬ (vc568.toInt < (0 : Int32).toInt) ∧ (if vc568 < (0 : Int32) then (0 : Int32) else (if (1439 : Int32) < vc568 then (0 : Int32) else (1 : Int32))).toInt = (if (1439 : Int32) < vc568 then (0 : Int32) else (1 : Int32)).toInt) := by
                      by_cases q : vc568 < (0 : Int32)
                      · exact Or.inl ⟨Int32.lt_iff_toInt_lt.mp q, by rw [if_pos q]⟩
                      · exact Or.inr ⟨fun q' => q (Int32.lt_iff_toInt_lt.mpr q'), by rw [if_neg q]⟩
                have ar749 : (own_inday vc568).toInt = (if vc568 < (0 : Int32) then (0 : Int32) else (if (1439 : Int32) < vc568 then (0 : Int32) else (1 : Int32))).toInt := congrArg _ (own_eq_own_inday vc568)
                have ar750 := congrArg Int32.toInt hr605
                have ar751 : ¬ (r605.toInt = (0 : Int32).toInt) := fun qq_ => hc58_607 (Int32.toInt_inj.mp qq_)
                have ar752 := c_i2l vc568
                have ar753 := rng64 (vc568.toInt64)
                have ar754 := c_i2l vo62
                have ar755 := rng64 (vo62.toInt64)
                have ar756 := rng64 ((vc568.toInt64) - (vo62.toInt64))
                first | have ar757 : ((vc568.toInt64) - (vo62.toInt64)).toInt = (vc568.toInt64).toInt - (vo62.toInt64).toInt := (by have qw := c_lsub (vc568.toInt64) (vo62.toInt64); omega) | (have ar757 := c_lsub (vc568.toInt64) (vo62.toInt64); skip)
                have ar758 : (0 : Int64).toInt = 0 := by decide
                have ar759 : ¬ (((vc568.toInt64) - (vo62.toInt64)).toInt < (0 : Int64).toInt) := fun qq_ => hc69_641 (Int64.lt_iff_toInt_lt.mpr qq_)
                have ar760 := rng32 r571
                have ar761 : (1440 : Int32).toInt = 1440 := by decide
                have ar762 : (vc568.toInt < (1440 : Int32).toInt ∧ (if vc568 < (1440 : Int32) then (1 : Int32) else (0 : Int32)).toInt = (1 : Int32).toInt) ∨ (¬ (vc568.toInt < (1440 : Int32).toInt) ∧ (if vc568 < (1440 : Int32) then (1 : Int32) else (0 : Int32)).toInt = (0 : Int32).toInt) := by
                      by_cases q : vc568 < (1440 : Int32)
                      · exact Or.inl ⟨Int32.lt_iff_toInt_lt.mp q, by rw [if_pos q]⟩
                      · exact Or.inr ⟨fun q' => q (Int32.lt_iff_toInt_lt.mpr q'), by rw [if_neg q]⟩
                have ar763 : (vc568.toInt < vo62.toInt ∧ (if vc568 < vo62 then (0 : Int32) else (if vc568 < (1440 : Int32) then (1 : Int32) else (0 : Int32))).toInt = (0 : Int32).toInt) ∨ (¬ (vc568.toInt < vo62.toInt) ∧ (if vc568 < vo62 then (0 : Int32) else (if vc568 < (1440 : Int32) then (1 : Int32) else (0 : Int32))).toInt = (if vc568 < (1440 : Int32) then (1 : Int32) else (0 : Int32)).toInt) := by
                      by_cases q : vc568 < vo62
                      · exact Or.inl ⟨Int32.lt_iff_toInt_lt.mp q, by rw [if_pos q]⟩
                      · exact Or.inr ⟨fun q' => q (Int32.lt_iff_toInt_lt.mpr q'), by rw [if_neg q]⟩
                have ar764 : (vo62.toInt < (0 : Int32).toInt ∧ (if vo62 < (0 : Int32) then (0 : Int32) else (if vc568 < vo62 then (0 : Int32) else (if vc568 < (1440 : Int32) then (1 : Int32) else (0 : Int32)))).toInt = (0 : Int32).toInt) ∨ (¬ (vo62.toInt < (0 : Int32).toInt) ∧ (if vo62 < (0 : Int32) then (0 : Int32) else (if vc568 < vo62 then (0 : Int32) else (if vc568 < (1440 : Int32) then (1 : Int32) else (0 : Int32)))).toInt = (if vc568 < vo62 then (0 : Int32) else (if vc568 < (1440 : Int32) then (1 : Int32) else (0 : Int32))).toInt) := by
                      by_cases q : vo62 < (0 : Int32)
                      · exact Or.inl ⟨Int32.lt_iff_toInt_lt.mp q, by rw [if_pos q]⟩
                      · exact Or.inr ⟨fun q' => q (Int32.lt_iff_toInt_lt.mpr q'), by rw [if_neg q]⟩
                have ar765 : (own_isday vo62 vc568).toInt = (if vo62 < (0 : Int32) then (0 : Int32) else (if vc568 < vo62 then (0 : Int32) else (if vc568 < (1440 : Int32) then (1 : Int32) else (0 : Int32)))).toInt := congrArg _ (own_eq_own_isday vo62 vc568)
                have ar766 := congrArg Int32.toInt hr571
                have ar767 : r571.toInt = (1 : Int32).toInt := congrArg Int32.toInt hc83_720
                have ar768 : ¬ (r571.toInt = (0 : Int32).toInt) := fun qq_ => hc90_722 (Int32.toInt_inj.mp qq_)
                exact fun qq_ => absurd (congrArg Int32.toInt qq_) (by omega))
            obtain ⟨_, _, ⟨T769, L769, kc769, nc769⟩, -, X769, ⟨Lc769, hQ769, l769, y769, z769⟩, st769⟩ := X724.specialBack hx (y := (⟨"com/example/tidegate/tidegate/model/OperatingDay", "<init>", "(II)V"⟩ : MethodName)) rfl hown (mvT hZ (hw _ (List.mem_of_getElem? (i := 14) rfl))) (mvT hZ (hw _ (List.mem_of_getElem? (i := 15) rfl))) (mvT hZ (hw _ (List.mem_of_getElem? (i := 16) rfl))) (by decide) (backOf (W := 1) (rm4 l Z a0 hw [] b724 vo62 vc568 h724 n0 f727 A724 F725 F726 ge_b724 ha728) hZ (hw _ (List.mem_of_getElem? (i := 16) rfl)) (hw _ (List.mem_of_getElem? (i := 6) rfl)) (by decide) (by decide)) (g := (mkF m 102 #[.val (.int p0), .val (.int p1), .val (.int p2), .val (.int vo62), .val (.int vc568), .val (.int r571), .val (.int (1 : Int32)), .unset, .unset] [(.int vc568), (.int vo62), (.ref b724), (.ref b724)])) rfl (by rw [hml]; rfl) (Steps.refl _) (a := b724) (argsL := [(.int vo62), (.int vc568)]) (rest := [(.ref b724)]) (lenOf pd_3 rfl) rfl (by show 2 * 0 + _ ≤ _; exact Nat.le_of_eq rfl) (hb hby at_102) (fun _ _ => ⟨rfl, e724, (by decide : 1 + 0 ≤ _), (by decide : 2 + 0 ≤ _)⟩)
            dsimp only [Pt.U, Pt.locs, Pt.cells, Pt.slots] at X769 l769 y769 z769 st769 hQ769
            subst l769 y769 z769
            obtain ⟨rfl, Nq769, oK769, oFaopen769, oFaclose769⟩ := hQ769
            have N769 := Fr.app N603 Nq769
            have f771 := (A724.keep oK769)
            obtain ⟨cq770, kq770, q770a, q770b, q770c⟩ := isOf hZ rfl f771
            obtain ⟨_, _, ⟨T770, L770, kc770, nc770⟩, -, X770, ⟨Lc770, hQ770, l770, y770, z770⟩, st770⟩ := X769.virtualBack hx (y := (⟨"com/example/tidegate/tidegate/model/OperatingDay", "minutes", "()I"⟩ : MethodName)) (z := (⟨"com/example/tidegate/tidegate/model/OperatingDay", "minutes", "()I"⟩ : MethodName)) hown (mvT hZ (hw _ (List.mem_of_getElem? (i := 30) rfl))) (mvT hZ (hw _ (List.mem_of_getElem? (i := 31) rfl))) (notFace_of_selects (args := #[]) (mvT hZ (hw _ (List.mem_of_getElem? (i := 33) rfl)))) (mvT hZ (hw _ (List.mem_of_getElem? (i := 33) rfl))) (mvT hZ (hw _ (List.mem_of_getElem? (i := 32) rfl))) (by decide) (backOf (W := 0) (rm7 l Z a0 hw [] b724 vo62 vc568 T769.heap n0 oFaopen769 oFaclose769) hZ (hw _ (List.mem_of_getElem? (i := 34) rfl)) (hw _ (List.mem_of_getElem? (i := 6) rfl)) (by decide) (by decide)) q770a q770c (g := (mkF m 109 #[.val (.int p0), .val (.int p1), .val (.int p2), .val (.int vo62), .val (.int vc568), .val (.int r571), .val (.int (1 : Int32)), .val (.ref b724), .unset] [(.ref b724)])) rfl (by rw [hml]; rfl) (Steps.refl _) (argsL := []) (rest := []) (lenOf pd_5 rfl) rfl (by show 2 * 0 + _ ≤ _; exact Nat.le_of_eq rfl) (hb hby at_109) (fun _ _ => ⟨rfl, rfl, (by decide : 1 + 0 ≤ _), (by decide : 2 + 0 ≤ _)⟩)
            dsimp only [Pt.U, Pt.locs, Pt.cells, Pt.slots] at X770 l770 y770 z770 st770 hQ770
            subst l770 y770 z770
            obtain ⟨rfl, Nq770, eq770⟩ := hQ770
            have N770 := Fr.app N769 Nq770
            have k772 : ∀ t, Steps p.tables e below (T770.setTop (mkF m 112 #[.val (.int p0), .val (.int p1), .val (.int p2), .val (.int vo62), .val (.int vc568), .val (.int r571), .val (.int (1 : Int32)), .val (.ref b724), .unset] [(.int ((vc568 - vo62) + (1 : Int32)))])) t → Steps p.tables e below (s₁.setTop (entryFrame m #[(.int p0), (.int p1), (.int p2)] maxLocals)) t := by
              intro t kt
              refine k721 t ?_
              refine XS.ifYes X603.here hx rfl (pc0 := 90) (pc' := 95) rfl (hb hby at_90) rfl ((if0 _ _).trans (feq hc90_722).2) (by decide) (by decide) ?_
              show Steps p.tables e below (T603.setTop (mkF m 95 #[.val (.int p0), .val (.int p1), .val (.int p2), .val (.int vo62), .val (.int vc568), .val (.int r571), .val (.int (1 : Int32)), .unset, .unset] [])) _
              refine st724 _ ?_
              show Steps p.tables e below (T724.setTop (mkF m 98 #[.val (.int p0), .val (.int p1), .val (.int p2), .val (.int vo62), .val (.int vc568), .val (.int r571), .val (.int (1 : Int32)), .unset, .unset] [(.ref b724)])) _
              refine XS.dup X724.here hx rfl (hb hby at_98) rfl rfl ?_
              show Steps p.tables e below (T724.setTop (mkF m 99 #[.val (.int p0), .val (.int p1), .val (.int p2), .val (.int vo62), .val (.int vc568), .val (.int r571), .val (.int (1 : Int32)), .unset, .unset] [(.ref b724), (.ref b724)])) _
              refine XS.iloadN X724.here hx rfl (hb hby at_99) rfl ?_
              show Steps p.tables e below (T724.setTop (mkF m 100 #[.val (.int p0), .val (.int p1), .val (.int p2), .val (.int vo62), .val (.int vc568), .val (.int r571), .val (.int (1 : Int32)), .unset, .unset] [(.int vo62), (.ref b724), (.ref b724)])) _
              refine XS.iload X724.here hx rfl (hb hby at_100) rfl ?_
              show Steps p.tables e below (T724.setTop (mkF m 102 #[.val (.int p0), .val (.int p1), .val (.int p2), .val (.int vo62), .val (.int vc568), .val (.int r571), .val (.int (1 : Int32)), .unset, .unset] [(.int vc568), (.int vo62), (.ref b724), (.ref b724)])) _
              refine st769.trans ?_
              show Steps p.tables e below (T769.setTop (mkF m 105 #[.val (.int p0), .val (.int p1), .val (.int p2), .val (.int vo62), .val (.int vc568), .val (.int r571), .val (.int (1 : Int32)), .unset, .unset] [(.ref b724)])) _
              refine XS.astore X769.here hx rfl (hb hby at_105) rfl rfl (l' := #[.val (.int p0), .val (.int p1), .val (.int p2), .val (.int vo62), .val (.int vc568), .val (.int r571), .val (.int (1 : Int32)), .val (.ref b724), .unset]) rfl ?_
              show Steps p.tables e below (T769.setTop (mkF m 107 #[.val (.int p0), .val (.int p1), .val (.int p2), .val (.int vo62), .val (.int vc568), .val (.int r571), .val (.int (1 : Int32)), .val (.ref b724), .unset] [])) _
              refine XS.aload X769.here hx rfl (hb hby at_107) rfl rfl ?_
              show Steps p.tables e below (T769.setTop (mkF m 109 #[.val (.int p0), .val (.int p1), .val (.int p2), .val (.int vo62), .val (.int vc568), .val (.int r571), .val (.int (1 : Int32)), .val (.ref b724), .unset] [(.ref b724)])) _
              refine st770.trans ?_
              show Steps p.tables e below (T770.setTop (mkF m 112 #[.val (.int p0), .val (.int p1), .val (.int p2), .val (.int vo62), .val (.int vc568), .val (.int r571), .val (.int (1 : Int32)), .val (.ref b724), .unset] [(.int ((vc568 - vo62) + (1 : Int32)))])) _
              exact kt
            obtain ⟨r773, hr773⟩ : ∃ z : Int32, z = ((vc568 - vo62) + (1 : Int32)) := ⟨_, rfl⟩
            rw [← hr773] at k772
            have hc117_820 : ¬ (r773 < (1 : Int32)) := (by
                have ar774 := rng32 p2
                have ar775 := rng32 (p2 >>> ((2 : Int32) &&& 31))
                first | have ar776 : (p2 >>> ((2 : Int32) &&& 31)).toInt = p2.toInt / 4 := (by have qw := c_ishr p2 (2 : Int32) 2 (by decide); simp only [show (2 ^ 2 : Nat) = 4 from by decide, Int.cast_ofNat_Int] at qw; omega) | (have ar776 := c_ishr p2 (2 : Int32) 2 (by decide); simp only [show (2 ^ 2 : Nat) = 4 from by decide, Int.cast_ofNat_Int] at ar776)
                have ar777 : (1 : Int32).toInt = 1 := by decide
                have ar778 := c_mask (p2 >>> ((2 : Int32) &&& 31)) (1 : Int32) 1 (by decide) (by decide)
                simp only [show (2 ^ 1 : Nat) = 2 from by decide, Int.cast_ofNat_Int] at ar778
                have ar779 := rng32 ((p2 >>> ((2 : Int32) &&& 31)) &&& (1 : Int32))
                have ar780 : (0 : Int32).toInt = 0 := by decide
                have ar781 : ¬ (((p2 >>> ((2 : Int32) &&& 31)) &&& (1 : Int32)).toInt = (0 : Int32).toInt) := fun qq_ => hc13_64 (Int32.toInt_inj.mp qq_)
                have ar782 := rng32 r574
                have ar783 := rng32 vo62
                have ar784 : (1439 : Int32).toInt = 1439 := by decide
                have ar785 : ((1439 : Int32).toInt < vo62.toInt ∧ (if (1439 : Int32) < vo62 then (0 : Int32) else (1 : Int32)).toInt = (0 : Int32).toInt) ∨ (¬ ((1439 : Int32).toInt < vo62.toInt) ∧ (if (1439 : Int32) < vo62 then (0 : Int32) else (1 : Int32)).toInt = (1 : Int32).toInt) := by
                      by_cases q : (1439 : Int32) < vo62
                      · exact Or.inl ⟨Int32.lt_iff_toInt_lt.mp q, by rw [if_pos q]⟩
                      · exact Or.inr ⟨fun q' => q (Int32.lt_iff_toInt_lt.mpr q'), by rw [if_neg q]⟩
                have ar786 : (vo62.toInt < (0 : Int32).toInt ∧ (if vo62 < (0 : Int32) then (0 : Int32) else (if (1439 : Int32) < vo62 then (0 : Int32) else (1 : Int32))).toInt = (0 : Int32).toInt) ∨ (¬ (vo62.toInt < (0 : Int32).toInt) ∧ (if vo62 < (0 : Int32) then (0 : Int32) else (if (1439 : Int32) < vo62 then (0 : Int32) else (1 : Int32))).toInt = (if (1439 : Int32) < vo62 then (0 : Int32) else (1 : Int32)).toInt) := by
                      by_cases q : vo62 < (0 : Int32)
                      · exact Or.inl ⟨Int32.lt_iff_toInt_lt.mp q, by rw [if_pos q]⟩
                      · exact Or.inr ⟨fun q' => q (Int32.lt_iff_toInt_lt.mpr q'), by rw [if_neg q]⟩
                have ar787 : (own_inday vo62).toInt = (if vo62 < (0 : Int32) then (0 : Int32) else (if (1439 : Int32) < vo62 then (0 : Int32) else (1 : Int32))).toInt := congrArg _ (own_eq_own_inday vo62)
                have ar788 := congrArg Int32.toInt hr574
                have ar789 : ¬ (r574.toInt = (0 : Int32).toInt) := fun qq_ => hc50_576 (Int32.toInt_inj.mp qq_)
                have ar790 := rng32 r605
                have ar791 := rng32 vc568
                have ar792 : ((1439 : Int32).toInt < vc568.toInt ∧ (if (1439 : Int32) < vc568 then (0 : Int32) else (1 : Int32)).toInt = (0 : Int32).toInt) ∨ (¬ ((1439 : Int32).toInt < vc568.toInt) ∧ (if (1439 : Int32) < vc568 then (0 : Int32) else (1 : Int32)).toInt = (1 : Int32).toInt) := by
                      by_cases q : (1439 : Int32) < vc568
                      · exact Or.inl ⟨Int32.lt_iff_toInt_lt.mp q, by rw [if_pos q]⟩
                      · exact Or.inr ⟨fun q' => q (Int32.lt_iff_toInt_lt.mpr q'), by rw [if_neg q]⟩
                have ar793 : (vc568.toInt < (0 : Int32).toInt ∧ (if vc568 < (0 : Int32) then (0 : Int32) else (if (1439 : Int32) < vc568 then (0 : Int32) else (1 : Int32))).toInt = (0 : Int32).toInt) ∨ (¬ (vc568.toInt < (0 : Int32).toInt) ∧ (if vc568 < (0 : Int32) then (0 : Int32) else (if (1439 : Int32) < vc568 then (0 : Int32) else (1 : Int32))).toInt = (if (1439 : Int32) < vc568 then (0 : Int32) else (1 : Int32)).toInt) := by
                      by_cases q : vc568 < (0 : Int32)
                      · exact Or.inl ⟨Int32.lt_iff_toInt_lt.mp q, by rw [if_pos q]⟩
                      · exact Or.inr ⟨fun q' => q (Int32.lt_iff_toInt_lt.mpr q'), by rw [if_neg q]⟩
                have ar794 : (own_inday vc568).toInt = (if vc568 < (0 : Int32) then (0 : Int32) else (if (1439 : Int32) < vc568 then (0 : Int32) else (1 : Int32))).toInt := congrArg _ (own_eq_own_inday vc568)
                have ar795 := congrArg Int32.toInt hr605
                have ar796 : ¬ (r605.toInt = (0 : Int32).toInt) := fun qq_ => hc58_607 (Int32.toInt_inj.mp qq_)
                have ar797 := c_i2l vc568
                have ar798 := rng64 (vc568.toInt64)
                have ar799 := c_i2l vo62
                have ar800 := rng64 (vo62.toInt64)
                have ar801 := rng64 ((vc568.toInt64) - (vo62.toInt64))
                first | have ar802 : ((vc568.toInt64) - (vo62.toInt64)).toInt = (vc568.toInt64).toInt - (vo62.toInt64).toInt := (by have qw := c_lsub (vc568.toInt64) (vo62.toInt64); omega) | (have ar802 := c_lsub (vc568.toInt64) (vo62.toInt64); skip)
                have ar803 : (0 : Int64).toInt = 0 := by decide
                have ar804 : ¬ (((vc568.toInt64) - (vo62.toInt64)).toInt < (0 : Int64).toInt) := fun qq_ => hc69_641 (Int64.lt_iff_toInt_lt.mpr qq_)
                have ar805 := rng32 r571
                have ar806 : (1440 : Int32).toInt = 1440 := by decide
                have ar807 : (vc568.toInt < (1440 : Int32).toInt ∧ (if vc568 < (1440 : Int32) then (1 : Int32) else (0 : Int32)).toInt = (1 : Int32).toInt) ∨ (¬ (vc568.toInt < (1440 : Int32).toInt) ∧ (if vc568 < (1440 : Int32) then (1 : Int32) else (0 : Int32)).toInt = (0 : Int32).toInt) := by
                      by_cases q : vc568 < (1440 : Int32)
                      · exact Or.inl ⟨Int32.lt_iff_toInt_lt.mp q, by rw [if_pos q]⟩
                      · exact Or.inr ⟨fun q' => q (Int32.lt_iff_toInt_lt.mpr q'), by rw [if_neg q]⟩
                have ar808 : (vc568.toInt < vo62.toInt ∧ (if vc568 < vo62 then (0 : Int32) else (if vc568 < (1440 : Int32) then (1 : Int32) else (0 : Int32))).toInt = (0 : Int32).toInt) ∨ (¬ (vc568.toInt < vo62.toInt) ∧ (if vc568 < vo62 then (0 : Int32) else (if vc568 < (1440 : Int32) then (1 : Int32) else (0 : Int32))).toInt = (if vc568 < (1440 : Int32) then (1 : Int32) else (0 : Int32)).toInt) := by
                      by_cases q : vc568 < vo62
                      · exact Or.inl ⟨Int32.lt_iff_toInt_lt.mp q, by rw [if_pos q]⟩
                      · exact Or.inr ⟨fun q' => q (Int32.lt_iff_toInt_lt.mpr q'), by rw [if_neg q]⟩
                have ar809 : (vo62.toInt < (0 : Int32).toInt ∧ (if vo62 < (0 : Int32) then (0 : Int32) else (if vc568 < vo62 then (0 : Int32) else (if vc568 < (1440 : Int32) then (1 : Int32) else (0 : Int32)))).toInt = (0 : Int32).toInt) ∨ (¬ (vo62.toInt < (0 : Int32).toInt) ∧ (if vo62 < (0 : Int32) then (0 : Int32) else (if vc568 < vo62 then (0 : Int32) else (if vc568 < (1440 : Int32) then (1 : Int32) else (0 : Int32)))).toInt = (if vc568 < vo62 then (0 : Int32) else (if vc568 < (1440 : Int32) then (1 : Int32) else (0 : Int32))).toInt) := by
                      by_cases q : vo62 < (0 : Int32)
                      · exact Or.inl ⟨Int32.lt_iff_toInt_lt.mp q, by rw [if_pos q]⟩
                      · exact Or.inr ⟨fun q' => q (Int32.lt_iff_toInt_lt.mpr q'), by rw [if_neg q]⟩
                have ar810 : (own_isday vo62 vc568).toInt = (if vo62 < (0 : Int32) then (0 : Int32) else (if vc568 < vo62 then (0 : Int32) else (if vc568 < (1440 : Int32) then (1 : Int32) else (0 : Int32)))).toInt := congrArg _ (own_eq_own_isday vo62 vc568)
                have ar811 := congrArg Int32.toInt hr571
                have ar812 : r571.toInt = (1 : Int32).toInt := congrArg Int32.toInt hc83_720
                have ar813 : ¬ (r571.toInt = (0 : Int32).toInt) := fun qq_ => hc90_722 (Int32.toInt_inj.mp qq_)
                have ar814 := rng32 r773
                have ar815 := rng32 (vc568 - vo62)
                first | have ar816 : (vc568 - vo62).toInt = vc568.toInt - vo62.toInt := (by have qw := c_isub vc568 vo62; omega) | (have ar816 := c_isub vc568 vo62; skip)
                have ar817 := rng32 ((vc568 - vo62) + (1 : Int32))
                first | have ar818 : ((vc568 - vo62) + (1 : Int32)).toInt = (vc568 - vo62).toInt + 1 := (by have qw := c_iadd (vc568 - vo62) (1 : Int32); omega) | (have ar818 := c_iadd (vc568 - vo62) (1 : Int32); skip)
                have ar819 := congrArg Int32.toInt hr773
                exact fun qq_ => absurd (Int32.lt_iff_toInt_lt.mp qq_) (by omega))
            have hc125_868 : ¬ ((1440 : Int32) < r773) := (by
                have ar821 := rng32 p2
                have ar822 := rng32 (p2 >>> ((2 : Int32) &&& 31))
                first | have ar823 : (p2 >>> ((2 : Int32) &&& 31)).toInt = p2.toInt / 4 := (by have qw := c_ishr p2 (2 : Int32) 2 (by decide); simp only [show (2 ^ 2 : Nat) = 4 from by decide, Int.cast_ofNat_Int] at qw; omega) | (have ar823 := c_ishr p2 (2 : Int32) 2 (by decide); simp only [show (2 ^ 2 : Nat) = 4 from by decide, Int.cast_ofNat_Int] at ar823)
                have ar824 : (1 : Int32).toInt = 1 := by decide
                have ar825 := c_mask (p2 >>> ((2 : Int32) &&& 31)) (1 : Int32) 1 (by decide) (by decide)
                simp only [show (2 ^ 1 : Nat) = 2 from by decide, Int.cast_ofNat_Int] at ar825
                have ar826 := rng32 ((p2 >>> ((2 : Int32) &&& 31)) &&& (1 : Int32))
                have ar827 : (0 : Int32).toInt = 0 := by decide
                have ar828 : ¬ (((p2 >>> ((2 : Int32) &&& 31)) &&& (1 : Int32)).toInt = (0 : Int32).toInt) := fun qq_ => hc13_64 (Int32.toInt_inj.mp qq_)
                have ar829 := rng32 r574
                have ar830 := rng32 vo62
                have ar831 : (1439 : Int32).toInt = 1439 := by decide
                have ar832 : ((1439 : Int32).toInt < vo62.toInt ∧ (if (1439 : Int32) < vo62 then (0 : Int32) else (1 : Int32)).toInt = (0 : Int32).toInt) ∨ (¬ ((1439 : Int32).toInt < vo62.toInt) ∧ (if (1439 : Int32) < vo62 then (0 : Int32) else (1 : Int32)).toInt = (1 : Int32).toInt) := by
                      by_cases q : (1439 : Int32) < vo62
                      · exact Or.inl ⟨Int32.lt_iff_toInt_lt.mp q, by rw [if_pos q]⟩
                      · exact Or.inr ⟨fun q' => q (Int32.lt_iff_toInt_lt.mpr q'), by rw [if_neg q]⟩
                have ar833 : (vo62.toInt < (0 : Int32).toInt ∧ (if vo62 < (0 : Int32) then (0 : Int32) else (if (1439 : Int32) < vo62 then (0 : Int32) else (1 : Int32))).toInt = (0 : Int32).toInt) ∨ (¬ (vo62.toInt < (0 : Int32).toInt) ∧ (if vo62 < (0 : Int32) then (0 : Int32) else (if (1439 : Int32) < vo62 then (0 : Int32) else (1 : Int32))).toInt = (if (1439 : Int32) < vo62 then (0 : Int32) else (1 : Int32)).toInt) := by
                      by_cases q : vo62 < (0 : Int32)
                      · exact Or.inl ⟨Int32.lt_iff_toInt_lt.mp q, by rw [if_pos q]⟩
                      · exact Or.inr ⟨fun q' => q (Int32.lt_iff_toInt_lt.mpr q'), by rw [if_neg q]⟩
                have ar834 : (own_inday vo62).toInt = (if vo62 < (0 : Int32) then (0 : Int32) else (if (1439 : Int32) < vo62 then (0 : Int32) else (1 : Int32))).toInt := congrArg _ (own_eq_own_inday vo62)
                have ar835 := congrArg Int32.toInt hr574
                have ar836 : ¬ (r574.toInt = (0 : Int32).toInt) := fun qq_ => hc50_576 (Int32.toInt_inj.mp qq_)
                have ar837 := rng32 r605
                have ar838 := rng32 vc568
                have ar839 : ((1439 : Int32).toInt < vc568.toInt ∧ (if (1439 : Int32) < vc568 then (0 : Int32) else (1 : Int32)).toInt = (0 : Int32).toInt) ∨ (¬ ((1439 : Int32).toInt < vc568.toInt) ∧ (if (1439 : Int32) < vc568 then (0 : Int32) else (1 : Int32)).toInt = (1 : Int32).toInt) := by
                      by_cases q : (1439 : Int32) < vc568
                      · exact Or.inl ⟨Int32.lt_iff_toInt_lt.mp q, by rw [if_pos q]⟩
                      · exact Or.inr ⟨fun q' => q (Int32.lt_iff_toInt_lt.mpr q'), by rw [if_neg q]⟩
                have ar840 : (vc568.toInt < (0 : Int32).toInt ∧ (if vc568 < (0 : Int32) then (0 : Int32) else (if (1439 : Int32) < vc568 then (0 : Int32) else (1 : Int32))).toInt = (0 : Int32).toInt) ∨ (¬ (vc568.toInt < (0 : Int32).toInt) ∧ (if vc568 < (0 : Int32) then (0 : Int32) else (if (1439 : Int32) < vc568 then (0 : Int32) else (1 : Int32))).toInt = (if (1439 : Int32) < vc568 then (0 : Int32) else (1 : Int32)).toInt) := by
                      by_cases q : vc568 < (0 : Int32)
                      · exact Or.inl ⟨Int32.lt_iff_toInt_lt.mp q, by rw [if_pos q]⟩
                      · exact Or.inr ⟨fun q' => q (Int32.lt_iff_toInt_lt.mpr q'), by rw [if_neg q]⟩
                have ar841 : (own_inday vc568).toInt = (if vc568 < (0 : Int32) then (0 : Int32) else (if (1439 : Int32) < vc568 then (0 : Int32) else (1 : Int32))).toInt := congrArg _ (own_eq_own_inday vc568)
                have ar842 := congrArg Int32.toInt hr605
                have ar843 : ¬ (r605.toInt = (0 : Int32).toInt) := fun qq_ => hc58_607 (Int32.toInt_inj.mp qq_)
                have ar844 := c_i2l vc568
                have ar845 := rng64 (vc568.toInt64)
                have ar846 := c_i2l vo62
                have ar847 := rng64 (vo62.toInt64)
                have ar848 := rng64 ((vc568.toInt64) - (vo62.toInt64))
                first | have ar849 : ((vc568.toInt64) - (vo62.toInt64)).toInt = (vc568.toInt64).toInt - (vo62.toInt64).toInt := (by have qw := c_lsub (vc568.toInt64) (vo62.toInt64); omega) | (have ar849 := c_lsub (vc568.toInt64) (vo62.toInt64); skip)
                have ar850 : (0 : Int64).toInt = 0 := by decide
                have ar851 : ¬ (((vc568.toInt64) - (vo62.toInt64)).toInt < (0 : Int64).toInt) := fun qq_ => hc69_641 (Int64.lt_iff_toInt_lt.mpr qq_)
                have ar852 := rng32 r571
                have ar853 : (1440 : Int32).toInt = 1440 := by decide
                have ar854 : (vc568.toInt < (1440 : Int32).toInt ∧ (if vc568 < (1440 : Int32) then (1 : Int32) else (0 : Int32)).toInt = (1 : Int32).toInt) ∨ (¬ (vc568.toInt < (1440 : Int32).toInt) ∧ (if vc568 < (1440 : Int32) then (1 : Int32) else (0 : Int32)).toInt = (0 : Int32).toInt) := by
                      by_cases q : vc568 < (1440 : Int32)
                      · exact Or.inl ⟨Int32.lt_iff_toInt_lt.mp q, by rw [if_pos q]⟩
                      · exact Or.inr ⟨fun q' => q (Int32.lt_iff_toInt_lt.mpr q'), by rw [if_neg q]⟩
                have ar855 : (vc568.toInt < vo62.toInt ∧ (if vc568 < vo62 then (0 : Int32) else (if vc568 < (1440 : Int32) then (1 : Int32) else (0 : Int32))).toInt = (0 : Int32).toInt) ∨ (¬ (vc568.toInt < vo62.toInt) ∧ (if vc568 < vo62 then (0 : Int32) else (if vc568 < (1440 : Int32) then (1 : Int32) else (0 : Int32))).toInt = (if vc568 < (1440 : Int32) then (1 : Int32) else (0 : Int32)).toInt) := by
                      by_cases q : vc568 < vo62
                      · exact Or.inl ⟨Int32.lt_iff_toInt_lt.mp q, by rw [if_pos q]⟩
                      · exact Or.inr ⟨fun q' => q (Int32.lt_iff_toInt_lt.mpr q'), by rw [if_neg q]⟩
                have ar856 : (vo62.toInt < (0 : Int32).toInt ∧ (if vo62 < (0 : Int32) then (0 : Int32) else (if vc568 < vo62 then (0 : Int32) else (if vc568 < (1440 : Int32) then (1 : Int32) else (0 : Int32)))).toInt = (0 : Int32).toInt) ∨ (¬ (vo62.toInt < (0 : Int32).toInt) ∧ (if vo62 < (0 : Int32) then (0 : Int32) else (if vc568 < vo62 then (0 : Int32) else (if vc568 < (1440 : Int32) then (1 : Int32) else (0 : Int32)))).toInt = (if vc568 < vo62 then (0 : Int32) else (if vc568 < (1440 : Int32) then (1 : Int32) else (0 : Int32))).toInt) := by
                      by_cases q : vo62 < (0 : Int32)
                      · exact Or.inl ⟨Int32.lt_iff_toInt_lt.mp q, by rw [if_pos q]⟩
                      · exact Or.inr ⟨fun q' => q (Int32.lt_iff_toInt_lt.mpr q'), by rw [if_neg q]⟩
                have ar857 : (own_isday vo62 vc568).toInt = (if vo62 < (0 : Int32) then (0 : Int32) else (if vc568 < vo62 then (0 : Int32) else (if vc568 < (1440 : Int32) then (1 : Int32) else (0 : Int32)))).toInt := congrArg _ (own_eq_own_isday vo62 vc568)
                have ar858 := congrArg Int32.toInt hr571
                have ar859 : r571.toInt = (1 : Int32).toInt := congrArg Int32.toInt hc83_720
                have ar860 : ¬ (r571.toInt = (0 : Int32).toInt) := fun qq_ => hc90_722 (Int32.toInt_inj.mp qq_)
                have ar861 := rng32 r773
                have ar862 := rng32 (vc568 - vo62)
                first | have ar863 : (vc568 - vo62).toInt = vc568.toInt - vo62.toInt := (by have qw := c_isub vc568 vo62; omega) | (have ar863 := c_isub vc568 vo62; skip)
                have ar864 := rng32 ((vc568 - vo62) + (1 : Int32))
                first | have ar865 : ((vc568 - vo62) + (1 : Int32)).toInt = (vc568 - vo62).toInt + 1 := (by have qw := c_iadd (vc568 - vo62) (1 : Int32); omega) | (have ar865 := c_iadd (vc568 - vo62) (1 : Int32); skip)
                have ar866 := congrArg Int32.toInt hr773
                have ar867 : ¬ (r773.toInt < (1 : Int32).toInt) := fun qq_ => hc117_820 (Int32.lt_iff_toInt_lt.mpr qq_)
                exact fun qq_ => absurd (Int32.lt_iff_toInt_lt.mp qq_) (by omega))
            obtain ⟨cq869, kq869, q869a, q869b, q869c⟩ := isOf hZ eq770 f771
            obtain ⟨_, _, ⟨T869, L869, kc869, nc869⟩, -, X869, ⟨Lc869, hQ869, l869, y869, z869⟩, st869⟩ := X770.virtualBack hx (y := (⟨"com/example/tidegate/tidegate/model/OperatingDay", "end", "()I"⟩ : MethodName)) (z := (⟨"com/example/tidegate/tidegate/model/OperatingDay", "end", "()I"⟩ : MethodName)) hown (mvT hZ (hw _ (List.mem_of_getElem? (i := 35) rfl))) (mvT hZ (hw _ (List.mem_of_getElem? (i := 36) rfl))) (notFace_of_selects (args := #[]) (mvT hZ (hw _ (List.mem_of_getElem? (i := 38) rfl)))) (mvT hZ (hw _ (List.mem_of_getElem? (i := 38) rfl))) (mvT hZ (hw _ (List.mem_of_getElem? (i := 37) rfl))) (by decide) (backOf (W := 0) (rm8 l Z a0 hw [] b724 vc568 T769.heap n0 oFaclose769) hZ (hw _ (List.mem_of_getElem? (i := 39) rfl)) (hw _ (List.mem_of_getElem? (i := 6) rfl)) (by decide) (by decide)) q869a q869c (g := (mkF m 130 #[.val (.int p0), .val (.int p1), .val (.int p2), .val (.int vo62), .val (.int vc568), .val (.int r571), .val (.int (1 : Int32)), .val (.ref b724), .val (.int r773)] [(.ref b724)])) rfl (by rw [hml]; rfl) (Steps.refl _) (argsL := []) (rest := []) (lenOf pd_5 rfl) rfl (by show 2 * 0 + _ ≤ _; exact Nat.le_of_eq rfl) (hb hby at_130) (fun _ _ => ⟨rfl, eq770, (by decide : 1 + 0 ≤ _), (by decide : 2 + 0 ≤ _)⟩)
            dsimp only [Pt.U, Pt.locs, Pt.cells, Pt.slots] at X869 l869 y869 z869 st869 hQ869
            subst l869 y869 z869
            obtain ⟨rfl, Nq869, eq869⟩ := hQ869
            have N869 := Fr.app N770 Nq869
            have k870 : ∀ t, Steps p.tables e below (T869.setTop (mkF m 133 #[.val (.int p0), .val (.int p1), .val (.int p2), .val (.int vo62), .val (.int vc568), .val (.int r571), .val (.int (1 : Int32)), .val (.ref b724), .val (.int r773)] [(.int ((vc568 + (1 : Int32)) * (60 : Int32)))])) t → Steps p.tables e below (s₁.setTop (entryFrame m #[(.int p0), (.int p1), (.int p2)] maxLocals)) t := by
              intro t kt
              refine k772 t ?_
              show Steps p.tables e below (T770.setTop (mkF m 112 #[.val (.int p0), .val (.int p1), .val (.int p2), .val (.int vo62), .val (.int vc568), .val (.int r571), .val (.int (1 : Int32)), .val (.ref b724), .unset] [(.int r773)])) _
              refine XS.istore X770.here hx rfl (hb hby at_112) rfl (l' := #[.val (.int p0), .val (.int p1), .val (.int p2), .val (.int vo62), .val (.int vc568), .val (.int r571), .val (.int (1 : Int32)), .val (.ref b724), .val (.int r773)]) rfl ?_
              show Steps p.tables e below (T770.setTop (mkF m 114 #[.val (.int p0), .val (.int p1), .val (.int p2), .val (.int vo62), .val (.int vc568), .val (.int r571), .val (.int (1 : Int32)), .val (.ref b724), .val (.int r773)] [])) _
              refine XS.iload X770.here hx rfl (hb hby at_114) rfl ?_
              show Steps p.tables e below (T770.setTop (mkF m 116 #[.val (.int p0), .val (.int p1), .val (.int p2), .val (.int vo62), .val (.int vc568), .val (.int r571), .val (.int (1 : Int32)), .val (.ref b724), .val (.int r773)] [(.int r773)])) _
              refine XS.iconst X770.here hx rfl (hb hby at_116) ?_
              show Steps p.tables e below (T770.setTop (mkF m 117 #[.val (.int p0), .val (.int p1), .val (.int p2), .val (.int vo62), .val (.int vc568), .val (.int r571), .val (.int (1 : Int32)), .val (.ref b724), .val (.int r773)] [(.int (1 : Int32)), (.int r773)])) _
              refine XS.icmpNo X770.here hx rfl (hb hby at_117) rfl (flt hc117_820).1 ?_
              show Steps p.tables e below (T770.setTop (mkF m 120 #[.val (.int p0), .val (.int p1), .val (.int p2), .val (.int vo62), .val (.int vc568), .val (.int r571), .val (.int (1 : Int32)), .val (.ref b724), .val (.int r773)] [])) _
              refine XS.iload X770.here hx rfl (hb hby at_120) rfl ?_
              show Steps p.tables e below (T770.setTop (mkF m 122 #[.val (.int p0), .val (.int p1), .val (.int p2), .val (.int vo62), .val (.int vc568), .val (.int r571), .val (.int (1 : Int32)), .val (.ref b724), .val (.int r773)] [(.int r773)])) _
              refine XS.sipush X770.here hx rfl (hb hby at_122) ?_
              show Steps p.tables e below (T770.setTop (mkF m 125 #[.val (.int p0), .val (.int p1), .val (.int p2), .val (.int vo62), .val (.int vc568), .val (.int r571), .val (.int (1 : Int32)), .val (.ref b724), .val (.int r773)] [(.int (1440 : Int32)), (.int r773)])) _
              refine XS.icmpNo X770.here hx rfl (hb hby at_125) rfl (flt hc125_868).2.2.1 ?_
              show Steps p.tables e below (T770.setTop (mkF m 128 #[.val (.int p0), .val (.int p1), .val (.int p2), .val (.int vo62), .val (.int vc568), .val (.int r571), .val (.int (1 : Int32)), .val (.ref b724), .val (.int r773)] [])) _
              refine XS.aload X770.here hx rfl (hb hby at_128) rfl rfl ?_
              show Steps p.tables e below (T770.setTop (mkF m 130 #[.val (.int p0), .val (.int p1), .val (.int p2), .val (.int vo62), .val (.int vc568), .val (.int r571), .val (.int (1 : Int32)), .val (.ref b724), .val (.int r773)] [(.ref b724)])) _
              refine st869.trans ?_
              show Steps p.tables e below (T869.setTop (mkF m 133 #[.val (.int p0), .val (.int p1), .val (.int p2), .val (.int vo62), .val (.int vc568), .val (.int r571), .val (.int (1 : Int32)), .val (.ref b724), .val (.int r773)] [(.int ((vc568 + (1 : Int32)) * (60 : Int32)))])) _
              exact kt
            obtain ⟨r871, hr871⟩ : ∃ z : Int32, z = ((vc568 + (1 : Int32)) * (60 : Int32)) := ⟨_, rfl⟩
            rw [← hr871] at k870
            have hc135_928 : ¬ ((86400 : Int32) < r871) := (by
                have ar872 := rng32 p2
                have ar873 := rng32 (p2 >>> ((2 : Int32) &&& 31))
                first | have ar874 : (p2 >>> ((2 : Int32) &&& 31)).toInt = p2.toInt / 4 := (by have qw := c_ishr p2 (2 : Int32) 2 (by decide); simp only [show (2 ^ 2 : Nat) = 4 from by decide, Int.cast_ofNat_Int] at qw; omega) | (have ar874 := c_ishr p2 (2 : Int32) 2 (by decide); simp only [show (2 ^ 2 : Nat) = 4 from by decide, Int.cast_ofNat_Int] at ar874)
                have ar875 : (1 : Int32).toInt = 1 := by decide
                have ar876 := c_mask (p2 >>> ((2 : Int32) &&& 31)) (1 : Int32) 1 (by decide) (by decide)
                simp only [show (2 ^ 1 : Nat) = 2 from by decide, Int.cast_ofNat_Int] at ar876
                have ar877 := rng32 ((p2 >>> ((2 : Int32) &&& 31)) &&& (1 : Int32))
                have ar878 : (0 : Int32).toInt = 0 := by decide
                have ar879 : ¬ (((p2 >>> ((2 : Int32) &&& 31)) &&& (1 : Int32)).toInt = (0 : Int32).toInt) := fun qq_ => hc13_64 (Int32.toInt_inj.mp qq_)
                have ar880 := rng32 r574
                have ar881 := rng32 vo62
                have ar882 : (1439 : Int32).toInt = 1439 := by decide
                have ar883 : ((1439 : Int32).toInt < vo62.toInt ∧ (if (1439 : Int32) < vo62 then (0 : Int32) else (1 : Int32)).toInt = (0 : Int32).toInt) ∨ (¬ ((1439 : Int32).toInt < vo62.toInt) ∧ (if (1439 : Int32) < vo62 then (0 : Int32) else (1 : Int32)).toInt = (1 : Int32).toInt) := by
                      by_cases q : (1439 : Int32) < vo62
                      · exact Or.inl ⟨Int32.lt_iff_toInt_lt.mp q, by rw [if_pos q]⟩
                      · exact Or.inr ⟨fun q' => q (Int32.lt_iff_toInt_lt.mpr q'), by rw [if_neg q]⟩
                have ar884 : (vo62.toInt < (0 : Int32).toInt ∧ (if vo62 < (0 : Int32) then (0 : Int32) else (if (1439 : Int32) < vo62 then (0 : Int32) else (1 : Int32))).toInt = (0 : Int32).toInt) ∨ (¬ (vo62.toInt < (0 : Int32).toInt) ∧ (if vo62 < (0 : Int32) then (0 : Int32) else (if (1439 : Int32) < vo62 then (0 : Int32) else (1 : Int32))).toInt = (if (1439 : Int32) < vo62 then (0 : Int32) else (1 : Int32)).toInt) := by
                      by_cases q : vo62 < (0 : Int32)
                      · exact Or.inl ⟨Int32.lt_iff_toInt_lt.mp q, by rw [if_pos q]⟩
                      · exact Or.inr ⟨fun q' => q (Int32.lt_iff_toInt_lt.mpr q'), by rw [if_neg q]⟩
                have ar885 : (own_inday vo62).toInt = (if vo62 < (0 : Int32) then (0 : Int32) else (if (1439 : Int32) < vo62 then (0 : Int32) else (1 : Int32))).toInt := congrArg _ (own_eq_own_inday vo62)
                have ar886 := congrArg Int32.toInt hr574
                have ar887 : ¬ (r574.toInt = (0 : Int32).toInt) := fun qq_ => hc50_576 (Int32.toInt_inj.mp qq_)
                have ar888 := rng32 r605
                have ar889 := rng32 vc568
                have ar890 : ((1439 : Int32).toInt < vc568.toInt ∧ (if (1439 : Int32) < vc568 then (0 : Int32) else (1 : Int32)).toInt = (0 : Int32).toInt) ∨ (¬ ((1439 : Int32).toInt < vc568.toInt) ∧ (if (1439 : Int32) < vc568 then (0 : Int32) else (1 : Int32)).toInt = (1 : Int32).toInt) := by
                      by_cases q : (1439 : Int32) < vc568
                      · exact Or.inl ⟨Int32.lt_iff_toInt_lt.mp q, by rw [if_pos q]⟩
                      · exact Or.inr ⟨fun q' => q (Int32.lt_iff_toInt_lt.mpr q'), by rw [if_neg q]⟩
                have ar891 : (vc568.toInt < (0 : Int32).toInt ∧ (if vc568 < (0 : Int32) then (0 : Int32) else (if (1439 : Int32) < vc568 then (0 : Int32) else (1 : Int32))).toInt = (0 : Int32).toInt) ∨ (¬ (vc568.toInt < (0 : Int32).toInt) ∧ (if vc568 < (0 : Int32) then (0 : Int32) else (if (1439 : Int32) < vc568 then (0 : Int32) else (1 : Int32))).toInt = (if (1439 : Int32) < vc568 then (0 : Int32) else (1 : Int32)).toInt) := by
                      by_cases q : vc568 < (0 : Int32)
                      · exact Or.inl ⟨Int32.lt_iff_toInt_lt.mp q, by rw [if_pos q]⟩
                      · exact Or.inr ⟨fun q' => q (Int32.lt_iff_toInt_lt.mpr q'), by rw [if_neg q]⟩
                have ar892 : (own_inday vc568).toInt = (if vc568 < (0 : Int32) then (0 : Int32) else (if (1439 : Int32) < vc568 then (0 : Int32) else (1 : Int32))).toInt := congrArg _ (own_eq_own_inday vc568)
                have ar893 := congrArg Int32.toInt hr605
                have ar894 : ¬ (r605.toInt = (0 : Int32).toInt) := fun qq_ => hc58_607 (Int32.toInt_inj.mp qq_)
                have ar895 := c_i2l vc568
                have ar896 := rng64 (vc568.toInt64)
                have ar897 := c_i2l vo62
                have ar898 := rng64 (vo62.toInt64)
                have ar899 := rng64 ((vc568.toInt64) - (vo62.toInt64))
                first | have ar900 : ((vc568.toInt64) - (vo62.toInt64)).toInt = (vc568.toInt64).toInt - (vo62.toInt64).toInt := (by have qw := c_lsub (vc568.toInt64) (vo62.toInt64); omega) | (have ar900 := c_lsub (vc568.toInt64) (vo62.toInt64); skip)
                have ar901 : (0 : Int64).toInt = 0 := by decide
                have ar902 : ¬ (((vc568.toInt64) - (vo62.toInt64)).toInt < (0 : Int64).toInt) := fun qq_ => hc69_641 (Int64.lt_iff_toInt_lt.mpr qq_)
                have ar903 := rng32 r571
                have ar904 : (1440 : Int32).toInt = 1440 := by decide
                have ar905 : (vc568.toInt < (1440 : Int32).toInt ∧ (if vc568 < (1440 : Int32) then (1 : Int32) else (0 : Int32)).toInt = (1 : Int32).toInt) ∨ (¬ (vc568.toInt < (1440 : Int32).toInt) ∧ (if vc568 < (1440 : Int32) then (1 : Int32) else (0 : Int32)).toInt = (0 : Int32).toInt) := by
                      by_cases q : vc568 < (1440 : Int32)
                      · exact Or.inl ⟨Int32.lt_iff_toInt_lt.mp q, by rw [if_pos q]⟩
                      · exact Or.inr ⟨fun q' => q (Int32.lt_iff_toInt_lt.mpr q'), by rw [if_neg q]⟩
                have ar906 : (vc568.toInt < vo62.toInt ∧ (if vc568 < vo62 then (0 : Int32) else (if vc568 < (1440 : Int32) then (1 : Int32) else (0 : Int32))).toInt = (0 : Int32).toInt) ∨ (¬ (vc568.toInt < vo62.toInt) ∧ (if vc568 < vo62 then (0 : Int32) else (if vc568 < (1440 : Int32) then (1 : Int32) else (0 : Int32))).toInt = (if vc568 < (1440 : Int32) then (1 : Int32) else (0 : Int32)).toInt) := by
                      by_cases q : vc568 < vo62
                      · exact Or.inl ⟨Int32.lt_iff_toInt_lt.mp q, by rw [if_pos q]⟩
                      · exact Or.inr ⟨fun q' => q (Int32.lt_iff_toInt_lt.mpr q'), by rw [if_neg q]⟩
                have ar907 : (vo62.toInt < (0 : Int32).toInt ∧ (if vo62 < (0 : Int32) then (0 : Int32) else (if vc568 < vo62 then (0 : Int32) else (if vc568 < (1440 : Int32) then (1 : Int32) else (0 : Int32)))).toInt = (0 : Int32).toInt) ∨ (¬ (vo62.toInt < (0 : Int32).toInt) ∧ (if vo62 < (0 : Int32) then (0 : Int32) else (if vc568 < vo62 then (0 : Int32) else (if vc568 < (1440 : Int32) then (1 : Int32) else (0 : Int32)))).toInt = (if vc568 < vo62 then (0 : Int32) else (if vc568 < (1440 : Int32) then (1 : Int32) else (0 : Int32))).toInt) := by
                      by_cases q : vo62 < (0 : Int32)
                      · exact Or.inl ⟨Int32.lt_iff_toInt_lt.mp q, by rw [if_pos q]⟩
                      · exact Or.inr ⟨fun q' => q (Int32.lt_iff_toInt_lt.mpr q'), by rw [if_neg q]⟩
                have ar908 : (own_isday vo62 vc568).toInt = (if vo62 < (0 : Int32) then (0 : Int32) else (if vc568 < vo62 then (0 : Int32) else (if vc568 < (1440 : Int32) then (1 : Int32) else (0 : Int32)))).toInt := congrArg _ (own_eq_own_isday vo62 vc568)
                have ar909 := congrArg Int32.toInt hr571
                have ar910 : r571.toInt = (1 : Int32).toInt := congrArg Int32.toInt hc83_720
                have ar911 : ¬ (r571.toInt = (0 : Int32).toInt) := fun qq_ => hc90_722 (Int32.toInt_inj.mp qq_)
                have ar912 := rng32 r773
                have ar913 := rng32 (vc568 - vo62)
                first | have ar914 : (vc568 - vo62).toInt = vc568.toInt - vo62.toInt := (by have qw := c_isub vc568 vo62; omega) | (have ar914 := c_isub vc568 vo62; skip)
                have ar915 := rng32 ((vc568 - vo62) + (1 : Int32))
                first | have ar916 : ((vc568 - vo62) + (1 : Int32)).toInt = (vc568 - vo62).toInt + 1 := (by have qw := c_iadd (vc568 - vo62) (1 : Int32); omega) | (have ar916 := c_iadd (vc568 - vo62) (1 : Int32); skip)
                have ar917 := congrArg Int32.toInt hr773
                have ar918 : ¬ (r773.toInt < (1 : Int32).toInt) := fun qq_ => hc117_820 (Int32.lt_iff_toInt_lt.mpr qq_)
                have ar919 : ¬ ((1440 : Int32).toInt < r773.toInt) := fun qq_ => hc125_868 (Int32.lt_iff_toInt_lt.mpr qq_)
                have ar920 : (86400 : Int32).toInt = 86400 := by decide
                have ar921 := rng32 r871
                have ar922 := rng32 (vc568 + (1 : Int32))
                first | have ar923 : (vc568 + (1 : Int32)).toInt = vc568.toInt + 1 := (by have qw := c_iadd vc568 (1 : Int32); omega) | (have ar923 := c_iadd vc568 (1 : Int32); skip)
                have ar924 : (60 : Int32).toInt = 60 := by decide
                have ar925 := rng32 ((vc568 + (1 : Int32)) * (60 : Int32))
                first | have ar926 : ((vc568 + (1 : Int32)) * (60 : Int32)).toInt = (vc568 + (1 : Int32)).toInt * 60 := (by have qw := c_imul (vc568 + (1 : Int32)) (60 : Int32); rw [show (60 : Int32).toInt = 60 from by decide] at qw; omega) | (have ar926 := c_imul (vc568 + (1 : Int32)) (60 : Int32); rw [show (60 : Int32).toInt = 60 from by decide] at ar926)
                have ar927 := congrArg Int32.toInt hr871
                exact fun qq_ => absurd (Int32.lt_iff_toInt_lt.mp qq_) (by omega))
            obtain ⟨cq929, kq929, q929a, q929b, q929c⟩ := isOf hZ eq869 f771
            obtain ⟨_, _, ⟨T929, L929, kc929, nc929⟩, -, X929, ⟨Lc929, hQ929, l929, y929, z929⟩, st929⟩ := X869.virtualBack hx (y := (⟨"com/example/tidegate/tidegate/model/OperatingDay", "containsMinute", "(I)Z"⟩ : MethodName)) (z := (⟨"com/example/tidegate/tidegate/model/OperatingDay", "containsMinute", "(I)Z"⟩ : MethodName)) hown (mvT hZ (hw _ (List.mem_of_getElem? (i := 41) rfl))) (mvT hZ (hw _ (List.mem_of_getElem? (i := 42) rfl))) (notFace_of_selects (args := #[]) (mvT hZ (hw _ (List.mem_of_getElem? (i := 44) rfl)))) (mvT hZ (hw _ (List.mem_of_getElem? (i := 44) rfl))) (mvT hZ (hw _ (List.mem_of_getElem? (i := 43) rfl))) (by decide) (backOf (W := 0) (rm9 l Z a0 hw [] b724 vo62 vo62 vc568 T769.heap n0 oFaopen769 oFaclose769) hZ (hw _ (List.mem_of_getElem? (i := 45) rfl)) (hw _ (List.mem_of_getElem? (i := 6) rfl)) (by decide) (by decide)) q929a q929c (g := (mkF m 141 #[.val (.int p0), .val (.int p1), .val (.int p2), .val (.int vo62), .val (.int vc568), .val (.int r571), .val (.int (1 : Int32)), .val (.ref b724), .val (.int r773)] [(.int vo62), (.ref b724)])) rfl (by rw [hml]; rfl) (Steps.refl _) (argsL := [(.int vo62)]) (rest := []) (lenOf pd_2 rfl) rfl (by show 2 * 0 + _ ≤ _; exact Nat.le_of_eq rfl) (hb hby at_141) (fun _ _ => ⟨rfl, eq869, (by decide : 1 + 0 ≤ _), (by decide : 2 + 0 ≤ _)⟩)
            dsimp only [Pt.U, Pt.locs, Pt.cells, Pt.slots] at X929 l929 y929 z929 st929 hQ929
            subst l929 y929 z929
            obtain ⟨rfl, Nq929, eq929⟩ := hQ929
            have N929 := Fr.app N869 Nq929
            have k930 : ∀ t, Steps p.tables e below (T929.setTop (mkF m 144 #[.val (.int p0), .val (.int p1), .val (.int p2), .val (.int vo62), .val (.int vc568), .val (.int r571), .val (.int (1 : Int32)), .val (.ref b724), .val (.int r773)] [(.int (own_cm vo62 vo62 vc568))])) t → Steps p.tables e below (s₁.setTop (entryFrame m #[(.int p0), (.int p1), (.int p2)] maxLocals)) t := by
              intro t kt
              refine k870 t ?_
              show Steps p.tables e below (T869.setTop (mkF m 133 #[.val (.int p0), .val (.int p1), .val (.int p2), .val (.int vo62), .val (.int vc568), .val (.int r571), .val (.int (1 : Int32)), .val (.ref b724), .val (.int r773)] [(.int r871)])) _
              refine X869.ldcInt hx hown (mvT hZ (hw _ (List.mem_of_getElem? (i := 40) rfl))) (g := (mkF m 133 #[.val (.int p0), .val (.int p1), .val (.int p2), .val (.int vo62), .val (.int vc568), .val (.int r571), .val (.int (1 : Int32)), .val (.ref b724), .val (.int r773)] [(.int r871)])) rfl (hb hby at_133) _ ?_
              show Steps p.tables e below (T869.setTop (mkF m 135 #[.val (.int p0), .val (.int p1), .val (.int p2), .val (.int vo62), .val (.int vc568), .val (.int r571), .val (.int (1 : Int32)), .val (.ref b724), .val (.int r773)] [(.int (86400 : Int32)), (.int r871)])) _
              refine XS.icmpNo X869.here hx rfl (hb hby at_135) rfl (flt hc135_928).2.2.1 ?_
              show Steps p.tables e below (T869.setTop (mkF m 138 #[.val (.int p0), .val (.int p1), .val (.int p2), .val (.int vo62), .val (.int vc568), .val (.int r571), .val (.int (1 : Int32)), .val (.ref b724), .val (.int r773)] [])) _
              refine XS.aload X869.here hx rfl (hb hby at_138) rfl rfl ?_
              show Steps p.tables e below (T869.setTop (mkF m 140 #[.val (.int p0), .val (.int p1), .val (.int p2), .val (.int vo62), .val (.int vc568), .val (.int r571), .val (.int (1 : Int32)), .val (.ref b724), .val (.int r773)] [(.ref b724)])) _
              refine XS.iloadN X869.here hx rfl (hb hby at_140) rfl ?_
              show Steps p.tables e below (T869.setTop (mkF m 141 #[.val (.int p0), .val (.int p1), .val (.int p2), .val (.int vo62), .val (.int vc568), .val (.int r571), .val (.int (1 : Int32)), .val (.ref b724), .val (.int r773)] [(.int vo62), (.ref b724)])) _
              refine st929.trans ?_
              show Steps p.tables e below (T929.setTop (mkF m 144 #[.val (.int p0), .val (.int p1), .val (.int p2), .val (.int vo62), .val (.int vc568), .val (.int r571), .val (.int (1 : Int32)), .val (.ref b724), .val (.int r773)] [(.int (own_cm vo62 vo62 vc568))])) _
              exact kt
            obtain ⟨r931, hr931⟩ : ∃ z : Int32, z = (own_cm vo62 vo62 vc568) := ⟨_, rfl⟩
            rw [← hr931] at k930
            have hc144_994 : ¬ (r931 = (0 : Int32)) := (by
                have ar932 := rng32 p2
                have ar933 := rng32 (p2 >>> ((2 : Int32) &&& 31))
                first | have ar934 : (p2 >>> ((2 : Int32) &&& 31)).toInt = p2.toInt / 4 := (by have qw := c_ishr p2 (2 : Int32) 2 (by decide); simp only [show (2 ^ 2 : Nat) = 4 from by decide, Int.cast_ofNat_Int] at qw; omega) | (have ar934 := c_ishr p2 (2 : Int32) 2 (by decide); simp only [show (2 ^ 2 : Nat) = 4 from by decide, Int.cast_ofNat_Int] at ar934)
                have ar935 : (1 : Int32).toInt = 1 := by decide
                have ar936 := c_mask (p2 >>> ((2 : Int32) &&& 31)) (1 : Int32) 1 (by decide) (by decide)
                simp only [show (2 ^ 1 : Nat) = 2 from by decide, Int.cast_ofNat_Int] at ar936
                have ar937 := rng32 ((p2 >>> ((2 : Int32) &&& 31)) &&& (1 : Int32))
                have ar938 : (0 : Int32).toInt = 0 := by decide
                have ar939 : ¬ (((p2 >>> ((2 : Int32) &&& 31)) &&& (1 : Int32)).toInt = (0 : Int32).toInt) := fun qq_ => hc13_64 (Int32.toInt_inj.mp qq_)
                have ar940 := rng32 r574
                have ar941 := rng32 vo62
                have ar942 : (1439 : Int32).toInt = 1439 := by decide
                have ar943 : ((1439 : Int32).toInt < vo62.toInt ∧ (if (1439 : Int32) < vo62 then (0 : Int32) else (1 : Int32)).toInt = (0 : Int32).toInt) ∨ (¬ ((1439 : Int32).toInt < vo62.toInt) ∧ (if (1439 : Int32) < vo62 then (0 : Int32) else (1 : Int32)).toInt = (1 : Int32).toInt) := by
                      by_cases q : (1439 : Int32) < vo62
                      · exact Or.inl ⟨Int32.lt_iff_toInt_lt.mp q, by rw [if_pos q]⟩
                      · exact Or.inr ⟨fun q' => q (Int32.lt_iff_toInt_lt.mpr q'), by rw [if_neg q]⟩
                have ar944 : (vo62.toInt < (0 : Int32).toInt ∧ (if vo62 < (0 : Int32) then (0 : Int32) else (if (1439 : Int32) < vo62 then (0 : Int32) else (1 : Int32))).toInt = (0 : Int32).toInt) ∨ (¬ (vo62.toInt < (0 : Int32).toInt) ∧ (if vo62 < (0 : Int32) then (0 : Int32) else (if (1439 : Int32) < vo62 then (0 : Int32) else (1 : Int32))).toInt = (if (1439 : Int32) < vo62 then (0 : Int32) else (1 : Int32)).toInt) := by
                      by_cases q : vo62 < (0 : Int32)
                      · exact Or.inl ⟨Int32.lt_iff_toInt_lt.mp q, by rw [if_pos q]⟩
                      · exact Or.inr ⟨fun q' => q (Int32.lt_iff_toInt_lt.mpr q'), by rw [if_neg q]⟩
                have ar945 : (own_inday vo62).toInt = (if vo62 < (0 : Int32) then (0 : Int32) else (if (1439 : Int32) < vo62 then (0 : Int32) else (1 : Int32))).toInt := congrArg _ (own_eq_own_inday vo62)
                have ar946 := congrArg Int32.toInt hr574
                have ar947 : ¬ (r574.toInt = (0 : Int32).toInt) := fun qq_ => hc50_576 (Int32.toInt_inj.mp qq_)
                have ar948 := rng32 r605
                have ar949 := rng32 vc568
                have ar950 : ((1439 : Int32).toInt < vc568.toInt ∧ (if (1439 : Int32) < vc568 then (0 : Int32) else (1 : Int32)).toInt = (0 : Int32).toInt) ∨ (¬ ((1439 : Int32).toInt < vc568.toInt) ∧ (if (1439 : Int32) < vc568 then (0 : Int32) else (1 : Int32)).toInt = (1 : Int32).toInt) := by
                      by_cases q : (1439 : Int32) < vc568
                      · exact Or.inl ⟨Int32.lt_iff_toInt_lt.mp q, by rw [if_pos q]⟩
                      · exact Or.inr ⟨fun q' => q (Int32.lt_iff_toInt_lt.mpr q'), by rw [if_neg q]⟩
                have ar951 : (vc568.toInt < (0 : Int32).toInt ∧ (if vc568 < (0 : Int32) then (0 : Int32) else (if (1439 : Int32) < vc568 then (0 : Int32) else (1 : Int32))).toInt = (0 : Int32).toInt) ∨ (¬ (vc568.toInt < (0 : Int32).toInt) ∧ (if vc568 < (0 : Int32) then (0 : Int32) else (if (1439 : Int32) < vc568 then (0 : Int32) else (1 : Int32))).toInt = (if (1439 : Int32) < vc568 then (0 : Int32) else (1 : Int32)).toInt) := by
                      by_cases q : vc568 < (0 : Int32)
                      · exact Or.inl ⟨Int32.lt_iff_toInt_lt.mp q, by rw [if_pos q]⟩
                      · exact Or.inr ⟨fun q' => q (Int32.lt_iff_toInt_lt.mpr q'), by rw [if_neg q]⟩
                have ar952 : (own_inday vc568).toInt = (if vc568 < (0 : Int32) then (0 : Int32) else (if (1439 : Int32) < vc568 then (0 : Int32) else (1 : Int32))).toInt := congrArg _ (own_eq_own_inday vc568)
                have ar953 := congrArg Int32.toInt hr605
                have ar954 : ¬ (r605.toInt = (0 : Int32).toInt) := fun qq_ => hc58_607 (Int32.toInt_inj.mp qq_)
                have ar955 := c_i2l vc568
                have ar956 := rng64 (vc568.toInt64)
                have ar957 := c_i2l vo62
                have ar958 := rng64 (vo62.toInt64)
                have ar959 := rng64 ((vc568.toInt64) - (vo62.toInt64))
                first | have ar960 : ((vc568.toInt64) - (vo62.toInt64)).toInt = (vc568.toInt64).toInt - (vo62.toInt64).toInt := (by have qw := c_lsub (vc568.toInt64) (vo62.toInt64); omega) | (have ar960 := c_lsub (vc568.toInt64) (vo62.toInt64); skip)
                have ar961 : (0 : Int64).toInt = 0 := by decide
                have ar962 : ¬ (((vc568.toInt64) - (vo62.toInt64)).toInt < (0 : Int64).toInt) := fun qq_ => hc69_641 (Int64.lt_iff_toInt_lt.mpr qq_)
                have ar963 := rng32 r571
                have ar964 : (1440 : Int32).toInt = 1440 := by decide
                have ar965 : (vc568.toInt < (1440 : Int32).toInt ∧ (if vc568 < (1440 : Int32) then (1 : Int32) else (0 : Int32)).toInt = (1 : Int32).toInt) ∨ (¬ (vc568.toInt < (1440 : Int32).toInt) ∧ (if vc568 < (1440 : Int32) then (1 : Int32) else (0 : Int32)).toInt = (0 : Int32).toInt) := by
                      by_cases q : vc568 < (1440 : Int32)
                      · exact Or.inl ⟨Int32.lt_iff_toInt_lt.mp q, by rw [if_pos q]⟩
                      · exact Or.inr ⟨fun q' => q (Int32.lt_iff_toInt_lt.mpr q'), by rw [if_neg q]⟩
                have ar966 : (vc568.toInt < vo62.toInt ∧ (if vc568 < vo62 then (0 : Int32) else (if vc568 < (1440 : Int32) then (1 : Int32) else (0 : Int32))).toInt = (0 : Int32).toInt) ∨ (¬ (vc568.toInt < vo62.toInt) ∧ (if vc568 < vo62 then (0 : Int32) else (if vc568 < (1440 : Int32) then (1 : Int32) else (0 : Int32))).toInt = (if vc568 < (1440 : Int32) then (1 : Int32) else (0 : Int32)).toInt) := by
                      by_cases q : vc568 < vo62
                      · exact Or.inl ⟨Int32.lt_iff_toInt_lt.mp q, by rw [if_pos q]⟩
                      · exact Or.inr ⟨fun q' => q (Int32.lt_iff_toInt_lt.mpr q'), by rw [if_neg q]⟩
                have ar967 : (vo62.toInt < (0 : Int32).toInt ∧ (if vo62 < (0 : Int32) then (0 : Int32) else (if vc568 < vo62 then (0 : Int32) else (if vc568 < (1440 : Int32) then (1 : Int32) else (0 : Int32)))).toInt = (0 : Int32).toInt) ∨ (¬ (vo62.toInt < (0 : Int32).toInt) ∧ (if vo62 < (0 : Int32) then (0 : Int32) else (if vc568 < vo62 then (0 : Int32) else (if vc568 < (1440 : Int32) then (1 : Int32) else (0 : Int32)))).toInt = (if vc568 < vo62 then (0 : Int32) else (if vc568 < (1440 : Int32) then (1 : Int32) else (0 : Int32))).toInt) := by
                      by_cases q : vo62 < (0 : Int32)
                      · exact Or.inl ⟨Int32.lt_iff_toInt_lt.mp q, by rw [if_pos q]⟩
                      · exact Or.inr ⟨fun q' => q (Int32.lt_iff_toInt_lt.mpr q'), by rw [if_neg q]⟩
                have ar968 : (own_isday vo62 vc568).toInt = (if vo62 < (0 : Int32) then (0 : Int32) else (if vc568 < vo62 then (0 : Int32) else (if vc568 < (1440 : Int32) then (1 : Int32) else (0 : Int32)))).toInt := congrArg _ (own_eq_own_isday vo62 vc568)
                have ar969 := congrArg Int32.toInt hr571
                have ar970 : r571.toInt = (1 : Int32).toInt := congrArg Int32.toInt hc83_720
                have ar971 : ¬ (r571.toInt = (0 : Int32).toInt) := fun qq_ => hc90_722 (Int32.toInt_inj.mp qq_)
                have ar972 := rng32 r773
                have ar973 := rng32 (vc568 - vo62)
                first | have ar974 : (vc568 - vo62).toInt = vc568.toInt - vo62.toInt := (by have qw := c_isub vc568 vo62; omega) | (have ar974 := c_isub vc568 vo62; skip)
                have ar975 := rng32 ((vc568 - vo62) + (1 : Int32))
                first | have ar976 : ((vc568 - vo62) + (1 : Int32)).toInt = (vc568 - vo62).toInt + 1 := (by have qw := c_iadd (vc568 - vo62) (1 : Int32); omega) | (have ar976 := c_iadd (vc568 - vo62) (1 : Int32); skip)
                have ar977 := congrArg Int32.toInt hr773
                have ar978 : ¬ (r773.toInt < (1 : Int32).toInt) := fun qq_ => hc117_820 (Int32.lt_iff_toInt_lt.mpr qq_)
                have ar979 : ¬ ((1440 : Int32).toInt < r773.toInt) := fun qq_ => hc125_868 (Int32.lt_iff_toInt_lt.mpr qq_)
                have ar980 : (86400 : Int32).toInt = 86400 := by decide
                have ar981 := rng32 r871
                have ar982 := rng32 (vc568 + (1 : Int32))
                first | have ar983 : (vc568 + (1 : Int32)).toInt = vc568.toInt + 1 := (by have qw := c_iadd vc568 (1 : Int32); omega) | (have ar983 := c_iadd vc568 (1 : Int32); skip)
                have ar984 : (60 : Int32).toInt = 60 := by decide
                have ar985 := rng32 ((vc568 + (1 : Int32)) * (60 : Int32))
                first | have ar986 : ((vc568 + (1 : Int32)) * (60 : Int32)).toInt = (vc568 + (1 : Int32)).toInt * 60 := (by have qw := c_imul (vc568 + (1 : Int32)) (60 : Int32); rw [show (60 : Int32).toInt = 60 from by decide] at qw; omega) | (have ar986 := c_imul (vc568 + (1 : Int32)) (60 : Int32); rw [show (60 : Int32).toInt = 60 from by decide] at ar986)
                have ar987 := congrArg Int32.toInt hr871
                have ar988 : ¬ ((86400 : Int32).toInt < r871.toInt) := fun qq_ => hc135_928 (Int32.lt_iff_toInt_lt.mpr qq_)
                have ar989 := rng32 r931
                have ar990 : (vc568.toInt < vo62.toInt ∧ (if vc568 < vo62 then (0 : Int32) else (1 : Int32)).toInt = (0 : Int32).toInt) ∨ (¬ (vc568.toInt < vo62.toInt) ∧ (if vc568 < vo62 then (0 : Int32) else (1 : Int32)).toInt = (1 : Int32).toInt) := by
                      by_cases q : vc568 < vo62
                      · exact Or.inl ⟨Int32.lt_iff_toInt_lt.mp q, by rw [if_pos q]⟩
                      · exact Or.inr ⟨fun q' => q (Int32.lt_iff_toInt_lt.mpr q'), by rw [if_neg q]⟩
                have ar991 : (vo62.toInt < vo62.toInt ∧ (if vo62 < vo62 then (0 : Int32) else (if vc568 < vo62 then (0 : Int32) else (1 : Int32))).toInt = (0 : Int32).toInt) ∨ (¬ (vo62.toInt < vo62.toInt) ∧ (if vo62 < vo62 then (0 : Int32) else (if vc568 < vo62 then (0 : Int32) else (1 : Int32))).toInt = (if vc568 < vo62 then (0 : Int32) else (1 : Int32)).toInt) := by
                      by_cases q : vo62 < vo62
                      · exact Or.inl ⟨Int32.lt_iff_toInt_lt.mp q, by rw [if_pos q]⟩
                      · exact Or.inr ⟨fun q' => q (Int32.lt_iff_toInt_lt.mpr q'), by rw [if_neg q]⟩
                have ar992 : (own_cm vo62 vo62 vc568).toInt = (if vo62 < vo62 then (0 : Int32) else (if vc568 < vo62 then (0 : Int32) else (1 : Int32))).toInt := congrArg _ (own_eq_own_cm vo62 vo62 vc568)
                have ar993 := congrArg Int32.toInt hr931
                exact fun qq_ => absurd (congrArg Int32.toInt qq_) (by omega))
            obtain ⟨cq995, kq995, q995a, q995b, q995c⟩ := isOf hZ eq929 f771
            obtain ⟨_, _, ⟨T995, L995, kc995, nc995⟩, -, X995, ⟨Lc995, hQ995, l995, y995, z995⟩, st995⟩ := X929.virtualBack hx (y := (⟨"com/example/tidegate/tidegate/model/OperatingDay", "containsMinute", "(I)Z"⟩ : MethodName)) (z := (⟨"com/example/tidegate/tidegate/model/OperatingDay", "containsMinute", "(I)Z"⟩ : MethodName)) hown (mvT hZ (hw _ (List.mem_of_getElem? (i := 41) rfl))) (mvT hZ (hw _ (List.mem_of_getElem? (i := 42) rfl))) (notFace_of_selects (args := #[]) (mvT hZ (hw _ (List.mem_of_getElem? (i := 44) rfl)))) (mvT hZ (hw _ (List.mem_of_getElem? (i := 44) rfl))) (mvT hZ (hw _ (List.mem_of_getElem? (i := 43) rfl))) (by decide) (backOf (W := 0) (rm9 l Z a0 hw [] b724 vc568 vo62 vc568 T769.heap n0 oFaopen769 oFaclose769) hZ (hw _ (List.mem_of_getElem? (i := 45) rfl)) (hw _ (List.mem_of_getElem? (i := 6) rfl)) (by decide) (by decide)) q995a q995c (g := (mkF m 151 #[.val (.int p0), .val (.int p1), .val (.int p2), .val (.int vo62), .val (.int vc568), .val (.int r571), .val (.int (1 : Int32)), .val (.ref b724), .val (.int r773)] [(.int vc568), (.ref b724)])) rfl (by rw [hml]; rfl) (Steps.refl _) (argsL := [(.int vc568)]) (rest := []) (lenOf pd_2 rfl) rfl (by show 2 * 0 + _ ≤ _; exact Nat.le_of_eq rfl) (hb hby at_151) (fun _ _ => ⟨rfl, eq929, (by decide : 1 + 0 ≤ _), (by decide : 2 + 0 ≤ _)⟩)
            dsimp only [Pt.U, Pt.locs, Pt.cells, Pt.slots] at X995 l995 y995 z995 st995 hQ995
            subst l995 y995 z995
            obtain ⟨rfl, Nq995, eq995⟩ := hQ995
            have N995 := Fr.app N929 Nq995
            have k996 : ∀ t, Steps p.tables e below (T995.setTop (mkF m 154 #[.val (.int p0), .val (.int p1), .val (.int p2), .val (.int vo62), .val (.int vc568), .val (.int r571), .val (.int (1 : Int32)), .val (.ref b724), .val (.int r773)] [(.int (own_cm vc568 vo62 vc568))])) t → Steps p.tables e below (s₁.setTop (entryFrame m #[(.int p0), (.int p1), (.int p2)] maxLocals)) t := by
              intro t kt
              refine k930 t ?_
              show Steps p.tables e below (T929.setTop (mkF m 144 #[.val (.int p0), .val (.int p1), .val (.int p2), .val (.int vo62), .val (.int vc568), .val (.int r571), .val (.int (1 : Int32)), .val (.ref b724), .val (.int r773)] [(.int r931)])) _
              refine XS.ifNo X929.here hx rfl (hb hby at_144) rfl ((if0 _ _).trans (feq hc144_994).1) ?_
              show Steps p.tables e below (T929.setTop (mkF m 147 #[.val (.int p0), .val (.int p1), .val (.int p2), .val (.int vo62), .val (.int vc568), .val (.int r571), .val (.int (1 : Int32)), .val (.ref b724), .val (.int r773)] [])) _
              refine XS.aload X929.here hx rfl (hb hby at_147) rfl rfl ?_
              show Steps p.tables e below (T929.setTop (mkF m 149 #[.val (.int p0), .val (.int p1), .val (.int p2), .val (.int vo62), .val (.int vc568), .val (.int r571), .val (.int (1 : Int32)), .val (.ref b724), .val (.int r773)] [(.ref b724)])) _
              refine XS.iload X929.here hx rfl (hb hby at_149) rfl ?_
              show Steps p.tables e below (T929.setTop (mkF m 151 #[.val (.int p0), .val (.int p1), .val (.int p2), .val (.int vo62), .val (.int vc568), .val (.int r571), .val (.int (1 : Int32)), .val (.ref b724), .val (.int r773)] [(.int vc568), (.ref b724)])) _
              refine st995.trans ?_
              show Steps p.tables e below (T995.setTop (mkF m 154 #[.val (.int p0), .val (.int p1), .val (.int p2), .val (.int vo62), .val (.int vc568), .val (.int r571), .val (.int (1 : Int32)), .val (.ref b724), .val (.int r773)] [(.int (own_cm vc568 vo62 vc568))])) _
              exact kt
            obtain ⟨r997, hr997⟩ : ∃ z : Int32, z = (own_cm vc568 vo62 vc568) := ⟨_, rfl⟩
            rw [← hr997] at k996
            have hc154_1066 : ¬ (r997 = (0 : Int32)) := (by
                have ar998 := rng32 p2
                have ar999 := rng32 (p2 >>> ((2 : Int32) &&& 31))
                first | have ar1000 : (p2 >>> ((2 : Int32) &&& 31)).toInt = p2.toInt / 4 := (by have qw := c_ishr p2 (2 : Int32) 2 (by decide); simp only [show (2 ^ 2 : Nat) = 4 from by decide, Int.cast_ofNat_Int] at qw; omega) | (have ar1000 := c_ishr p2 (2 : Int32) 2 (by decide); simp only [show (2 ^ 2 : Nat) = 4 from by decide, Int.cast_ofNat_Int] at ar1000)
                have ar1001 : (1 : Int32).toInt = 1 := by decide
                have ar1002 := c_mask (p2 >>> ((2 : Int32) &&& 31)) (1 : Int32) 1 (by decide) (by decide)
                simp only [show (2 ^ 1 : Nat) = 2 from by decide, Int.cast_ofNat_Int] at ar1002
                have ar1003 := rng32 ((p2 >>> ((2 : Int32) &&& 31)) &&& (1 : Int32))
                have ar1004 : (0 : Int32).toInt = 0 := by decide
                have ar1005 : ¬ (((p2 >>> ((2 : Int32) &&& 31)) &&& (1 : Int32)).toInt = (0 : Int32).toInt) := fun qq_ => hc13_64 (Int32.toInt_inj.mp qq_)
                have ar1006 := rng32 r574
                have ar1007 := rng32 vo62
                have ar1008 : (1439 : Int32).toInt = 1439 := by decide
                have ar1009 : ((1439 : Int32).toInt < vo62.toInt ∧ (if (1439 : Int32) < vo62 then (0 : Int32) else (1 : Int32)).toInt = (0 : Int32).toInt) ∨ (¬ ((1439 : Int32).toInt < vo62.toInt) ∧ (if (1439 : Int32) < vo62 then (0 : Int32) else (1 : Int32)).toInt = (1 : Int32).toInt) := by
                      by_cases q : (1439 : Int32) < vo62
                      · exact Or.inl ⟨Int32.lt_iff_toInt_lt.mp q, by rw [if_pos q]⟩
                      · exact Or.inr ⟨fun q' => q (Int32.lt_iff_toInt_lt.mpr q'), by rw [if_neg q]⟩
                have ar1010 : (vo62.toInt < (0 : Int32).toInt ∧ (if vo62 < (0 : Int32) then (0 : Int32) else (if (1439 : Int32) < vo62 then (0 : Int32) else (1 : Int32))).toInt = (0 : Int32).toInt) ∨ (¬ (vo62.toInt < (0 : Int32).toInt) ∧ (if vo62 < (0 : Int32) then (0 : Int32) else (if (1439 : Int32) < vo62 then (0 : Int32) else (1 : Int32))).toInt = (if (1439 : Int32) < vo62 then (0 : Int32) else (1 : Int32)).toInt) := by
                      by_cases q : vo62 < (0 : Int32)
                      · exact Or.inl ⟨Int32.lt_iff_toInt_lt.mp q, by rw [if_pos q]⟩
                      · exact Or.inr ⟨fun q' => q (Int32.lt_iff_toInt_lt.mpr q'), by rw [if_neg q]⟩
                have ar1011 : (own_inday vo62).toInt = (if vo62 < (0 : Int32) then (0 : Int32) else (if (1439 : Int32) < vo62 then (0 : Int32) else (1 : Int32))).toInt := congrArg _ (own_eq_own_inday vo62)
                have ar1012 := congrArg Int32.toInt hr574
                have ar1013 : ¬ (r574.toInt = (0 : Int32).toInt) := fun qq_ => hc50_576 (Int32.toInt_inj.mp qq_)
                have ar1014 := rng32 r605
                have ar1015 := rng32 vc568
                have ar1016 : ((1439 : Int32).toInt < vc568.toInt ∧ (if (1439 : Int32) < vc568 then (0 : Int32) else (1 : Int32)).toInt = (0 : Int32).toInt) ∨ (¬ ((1439 : Int32).toInt < vc568.toInt) ∧ (if (1439 : Int32) < vc568 then (0 : Int32) else (1 : Int32)).toInt = (1 : Int32).toInt) := by
                      by_cases q : (1439 : Int32) < vc568
                      · exact Or.inl ⟨Int32.lt_iff_toInt_lt.mp q, by rw [if_pos q]⟩
                      · exact Or.inr ⟨fun q' => q (Int32.lt_iff_toInt_lt.mpr q'), by rw [if_neg q]⟩
                have ar1017 : (vc568.toInt < (0 : Int32).toInt ∧ (if vc568 < (0 : Int32) then (0 : Int32) else (if (1439 : Int32) < vc568 then (0 : Int32) else (1 : Int32))).toInt = (0 : Int32).toInt) ∨ (¬ (vc568.toInt < (0 : Int32).toInt) ∧ (if vc568 < (0 : Int32) then (0 : Int32) else (if (1439 : Int32) < vc568 then (0 : Int32) else (1 : Int32))).toInt = (if (1439 : Int32) < vc568 then (0 : Int32) else (1 : Int32)).toInt) := by
                      by_cases q : vc568 < (0 : Int32)
                      · exact Or.inl ⟨Int32.lt_iff_toInt_lt.mp q, by rw [if_pos q]⟩
                      · exact Or.inr ⟨fun q' => q (Int32.lt_iff_toInt_lt.mpr q'), by rw [if_neg q]⟩
                have ar1018 : (own_inday vc568).toInt = (if vc568 < (0 : Int32) then (0 : Int32) else (if (1439 : Int32) < vc568 then (0 : Int32) else (1 : Int32))).toInt := congrArg _ (own_eq_own_inday vc568)
                have ar1019 := congrArg Int32.toInt hr605
                have ar1020 : ¬ (r605.toInt = (0 : Int32).toInt) := fun qq_ => hc58_607 (Int32.toInt_inj.mp qq_)
                have ar1021 := c_i2l vc568
                have ar1022 := rng64 (vc568.toInt64)
                have ar1023 := c_i2l vo62
                have ar1024 := rng64 (vo62.toInt64)
                have ar1025 := rng64 ((vc568.toInt64) - (vo62.toInt64))
                first | have ar1026 : ((vc568.toInt64) - (vo62.toInt64)).toInt = (vc568.toInt64).toInt - (vo62.toInt64).toInt := (by have qw := c_lsub (vc568.toInt64) (vo62.toInt64); omega) | (have ar1026 := c_lsub (vc568.toInt64) (vo62.toInt64); skip)
                have ar1027 : (0 : Int64).toInt = 0 := by decide
                have ar1028 : ¬ (((vc568.toInt64) - (vo62.toInt64)).toInt < (0 : Int64).toInt) := fun qq_ => hc69_641 (Int64.lt_iff_toInt_lt.mpr qq_)
                have ar1029 := rng32 r571
                have ar1030 : (1440 : Int32).toInt = 1440 := by decide
                have ar1031 : (vc568.toInt < (1440 : Int32).toInt ∧ (if vc568 < (1440 : Int32) then (1 : Int32) else (0 : Int32)).toInt = (1 : Int32).toInt) ∨ (¬ (vc568.toInt < (1440 : Int32).toInt) ∧ (if vc568 < (1440 : Int32) then (1 : Int32) else (0 : Int32)).toInt = (0 : Int32).toInt) := by
                      by_cases q : vc568 < (1440 : Int32)
                      · exact Or.inl ⟨Int32.lt_iff_toInt_lt.mp q, by rw [if_pos q]⟩
                      · exact Or.inr ⟨fun q' => q (Int32.lt_iff_toInt_lt.mpr q'), by rw [if_neg q]⟩
                have ar1032 : (vc568.toInt < vo62.toInt ∧ (if vc568 < vo62 then (0 : Int32) else (if vc568 < (1440 : Int32) then (1 : Int32) else (0 : Int32))).toInt = (0 : Int32).toInt) ∨ (¬ (vc568.toInt < vo62.toInt) ∧ (if vc568 < vo62 then (0 : Int32) else (if vc568 < (1440 : Int32) then (1 : Int32) else (0 : Int32))).toInt = (if vc568 < (1440 : Int32) then (1 : Int32) else (0 : Int32)).toInt) := by
                      by_cases q : vc568 < vo62
                      · exact Or.inl ⟨Int32.lt_iff_toInt_lt.mp q, by rw [if_pos q]⟩
                      · exact Or.inr ⟨fun q' => q (Int32.lt_iff_toInt_lt.mpr q'), by rw [if_neg q]⟩
                have ar1033 : (vo62.toInt < (0 : Int32).toInt ∧ (if vo62 < (0 : Int32) then (0 : Int32) else (if vc568 < vo62 then (0 : Int32) else (if vc568 < (1440 : Int32) then (1 : Int32) else (0 : Int32)))).toInt = (0 : Int32).toInt) ∨ (¬ (vo62.toInt < (0 : Int32).toInt) ∧ (if vo62 < (0 : Int32) then (0 : Int32) else (if vc568 < vo62 then (0 : Int32) else (if vc568 < (1440 : Int32) then (1 : Int32) else (0 : Int32)))).toInt = (if vc568 < vo62 then (0 : Int32) else (if vc568 < (1440 : Int32) then (1 : Int32) else (0 : Int32))).toInt) := by
                      by_cases q : vo62 < (0 : Int32)
                      · exact Or.inl ⟨Int32.lt_iff_toInt_lt.mp q, by rw [if_pos q]⟩
                      · exact Or.inr ⟨fun q' => q (Int32.lt_iff_toInt_lt.mpr q'), by rw [if_neg q]⟩
                have ar1034 : (own_isday vo62 vc568).toInt = (if vo62 < (0 : Int32) then (0 : Int32) else (if vc568 < vo62 then (0 : Int32) else (if vc568 < (1440 : Int32) then (1 : Int32) else (0 : Int32)))).toInt := congrArg _ (own_eq_own_isday vo62 vc568)
                have ar1035 := congrArg Int32.toInt hr571
                have ar1036 : r571.toInt = (1 : Int32).toInt := congrArg Int32.toInt hc83_720
                have ar1037 : ¬ (r571.toInt = (0 : Int32).toInt) := fun qq_ => hc90_722 (Int32.toInt_inj.mp qq_)
                have ar1038 := rng32 r773
                have ar1039 := rng32 (vc568 - vo62)
                first | have ar1040 : (vc568 - vo62).toInt = vc568.toInt - vo62.toInt := (by have qw := c_isub vc568 vo62; omega) | (have ar1040 := c_isub vc568 vo62; skip)
                have ar1041 := rng32 ((vc568 - vo62) + (1 : Int32))
                first | have ar1042 : ((vc568 - vo62) + (1 : Int32)).toInt = (vc568 - vo62).toInt + 1 := (by have qw := c_iadd (vc568 - vo62) (1 : Int32); omega) | (have ar1042 := c_iadd (vc568 - vo62) (1 : Int32); skip)
                have ar1043 := congrArg Int32.toInt hr773
                have ar1044 : ¬ (r773.toInt < (1 : Int32).toInt) := fun qq_ => hc117_820 (Int32.lt_iff_toInt_lt.mpr qq_)
                have ar1045 : ¬ ((1440 : Int32).toInt < r773.toInt) := fun qq_ => hc125_868 (Int32.lt_iff_toInt_lt.mpr qq_)
                have ar1046 : (86400 : Int32).toInt = 86400 := by decide
                have ar1047 := rng32 r871
                have ar1048 := rng32 (vc568 + (1 : Int32))
                first | have ar1049 : (vc568 + (1 : Int32)).toInt = vc568.toInt + 1 := (by have qw := c_iadd vc568 (1 : Int32); omega) | (have ar1049 := c_iadd vc568 (1 : Int32); skip)
                have ar1050 : (60 : Int32).toInt = 60 := by decide
                have ar1051 := rng32 ((vc568 + (1 : Int32)) * (60 : Int32))
                first | have ar1052 : ((vc568 + (1 : Int32)) * (60 : Int32)).toInt = (vc568 + (1 : Int32)).toInt * 60 := (by have qw := c_imul (vc568 + (1 : Int32)) (60 : Int32); rw [show (60 : Int32).toInt = 60 from by decide] at qw; omega) | (have ar1052 := c_imul (vc568 + (1 : Int32)) (60 : Int32); rw [show (60 : Int32).toInt = 60 from by decide] at ar1052)
                have ar1053 := congrArg Int32.toInt hr871
                have ar1054 : ¬ ((86400 : Int32).toInt < r871.toInt) := fun qq_ => hc135_928 (Int32.lt_iff_toInt_lt.mpr qq_)
                have ar1055 := rng32 r931
                have ar1056 : (vc568.toInt < vo62.toInt ∧ (if vc568 < vo62 then (0 : Int32) else (1 : Int32)).toInt = (0 : Int32).toInt) ∨ (¬ (vc568.toInt < vo62.toInt) ∧ (if vc568 < vo62 then (0 : Int32) else (1 : Int32)).toInt = (1 : Int32).toInt) := by
                      by_cases q : vc568 < vo62
                      · exact Or.inl ⟨Int32.lt_iff_toInt_lt.mp q, by rw [if_pos q]⟩
                      · exact Or.inr ⟨fun q' => q (Int32.lt_iff_toInt_lt.mpr q'), by rw [if_neg q]⟩
                have ar1057 : (vo62.toInt < vo62.toInt ∧ (if vo62 < vo62 then (0 : Int32) else (if vc568 < vo62 then (0 : Int32) else (1 : Int32))).toInt = (0 : Int32).toInt) ∨ (¬ (vo62.toInt < vo62.toInt) ∧ (if vo62 < vo62 then (0 : Int32) else (if vc568 < vo62 then (0 : Int32) else (1 : Int32))).toInt = (if vc568 < vo62 then (0 : Int32) else (1 : Int32)).toInt) := by
                      by_cases q : vo62 < vo62
                      · exact Or.inl ⟨Int32.lt_iff_toInt_lt.mp q, by rw [if_pos q]⟩
                      · exact Or.inr ⟨fun q' => q (Int32.lt_iff_toInt_lt.mpr q'), by rw [if_neg q]⟩
                have ar1058 : (own_cm vo62 vo62 vc568).toInt = (if vo62 < vo62 then (0 : Int32) else (if vc568 < vo62 then (0 : Int32) else (1 : Int32))).toInt := congrArg _ (own_eq_own_cm vo62 vo62 vc568)
                have ar1059 := congrArg Int32.toInt hr931
                have ar1060 : ¬ (r931.toInt = (0 : Int32).toInt) := fun qq_ => hc144_994 (Int32.toInt_inj.mp qq_)
                have ar1061 := rng32 r997
                have ar1062 : (vc568.toInt < vc568.toInt ∧ (if vc568 < vc568 then (0 : Int32) else (1 : Int32)).toInt = (0 : Int32).toInt) ∨ (¬ (vc568.toInt < vc568.toInt) ∧ (if vc568 < vc568 then (0 : Int32) else (1 : Int32)).toInt = (1 : Int32).toInt) := by
                      by_cases q : vc568 < vc568
                      · exact Or.inl ⟨Int32.lt_iff_toInt_lt.mp q, by rw [if_pos q]⟩
                      · exact Or.inr ⟨fun q' => q (Int32.lt_iff_toInt_lt.mpr q'), by rw [if_neg q]⟩
                have ar1063 : (vc568.toInt < vo62.toInt ∧ (if vc568 < vo62 then (0 : Int32) else (if vc568 < vc568 then (0 : Int32) else (1 : Int32))).toInt = (0 : Int32).toInt) ∨ (¬ (vc568.toInt < vo62.toInt) ∧ (if vc568 < vo62 then (0 : Int32) else (if vc568 < vc568 then (0 : Int32) else (1 : Int32))).toInt = (if vc568 < vc568 then (0 : Int32) else (1 : Int32)).toInt) := by
                      by_cases q : vc568 < vo62
                      · exact Or.inl ⟨Int32.lt_iff_toInt_lt.mp q, by rw [if_pos q]⟩
                      · exact Or.inr ⟨fun q' => q (Int32.lt_iff_toInt_lt.mpr q'), by rw [if_neg q]⟩
                have ar1064 : (own_cm vc568 vo62 vc568).toInt = (if vc568 < vo62 then (0 : Int32) else (if vc568 < vc568 then (0 : Int32) else (1 : Int32))).toInt := congrArg _ (own_eq_own_cm vc568 vo62 vc568)
                have ar1065 := congrArg Int32.toInt hr997
                exact fun qq_ => absurd (congrArg Int32.toInt qq_) (by omega))
            have k1067 : ∀ t, Steps p.tables e below (T995.setTop (mkF m 162 #[.val (.int p0), .val (.int p1), .val (.int p2), .val (.int vo62), .val (.int vc568), .val (.int r571), .val (.int (1 : Int32)), .val (.ref b724), .val (.int r773)] [(.int (1 : Int32))])) t → Steps p.tables e below (s₁.setTop (entryFrame m #[(.int p0), (.int p1), (.int p2)] maxLocals)) t := by
              intro t kt
              refine k996 t ?_
              show Steps p.tables e below (T995.setTop (mkF m 154 #[.val (.int p0), .val (.int p1), .val (.int p2), .val (.int vo62), .val (.int vc568), .val (.int r571), .val (.int (1 : Int32)), .val (.ref b724), .val (.int r773)] [(.int r997)])) _
              refine XS.ifNo X995.here hx rfl (hb hby at_154) rfl ((if0 _ _).trans (feq hc154_1066).1) ?_
              show Steps p.tables e below (T995.setTop (mkF m 157 #[.val (.int p0), .val (.int p1), .val (.int p2), .val (.int vo62), .val (.int vc568), .val (.int r571), .val (.int (1 : Int32)), .val (.ref b724), .val (.int r773)] [])) _
              refine XS.iconst X995.here hx rfl (hb hby at_157) ?_
              show Steps p.tables e below (T995.setTop (mkF m 158 #[.val (.int p0), .val (.int p1), .val (.int p2), .val (.int vo62), .val (.int vc568), .val (.int r571), .val (.int (1 : Int32)), .val (.ref b724), .val (.int r773)] [(.int (1 : Int32))])) _
              refine XS.goto X995.here hx rfl (pc0 := 158) (pc' := 162) rfl (hb hby at_158) (by decide) (by decide) ?_
              show Steps p.tables e below (T995.setTop (mkF m 162 #[.val (.int p0), .val (.int p1), .val (.int p2), .val (.int vo62), .val (.int vc568), .val (.int r571), .val (.int (1 : Int32)), .val (.ref b724), .val (.int r773)] [(.int (1 : Int32))])) _
              exact kt
            obtain ⟨fs, hr, hrun, hended, hW, hsame⟩ := X995.leave (v := some (.int (1 : Int32))) (fun h => by rw [Bd.returns] at h; cases h)
            refine ⟨_, _, k1067 _ (retN X995 hx (t := .boolean) Bd.returns (by simp) (hb hby at_162) hr), hrun, hended, _, _, rfl, ?_, ⟨_, rfl⟩, hW, hsame.mono (by decide) (by decide)⟩
            show Q0 Z p0 p1 p2 h0 n0 _ T995.heap _
            rw [eq995]
            exact ⟨rfl, N995⟩
set_option maxRecDepth 65536 in
set_option maxHeartbeats 40000000 in
theorem comes_1 {Post : Tables → Env → Array Value → State → Outcome → State → Prop} (hpost : ∀ tb e args s v u, (limb_1_1.after args s (.returned v) u = true ∧ limb_1_2.after args s (.returned v) u = true ∧ True) → FrameEnd s (.returned v) u (Jvm.fieldLocs frame_1_writes args s ++ Jvm.arrayLocs frame_1_arrays args s ++ Jvm.staticLocs frame_1_statics s) 16 128 → Post tb e args s (.returned v) u) :
    ArmFor flags0 classFile x code maxLocals ret World_1 tables_1 room_1 Calls_1 rest_1 Pre_1 Post := by
  intro l hfl _ _ p e ha hc hk s m args below hf hA hF happ hP
  obtain ⟨hcalls, hrest, hpre⟩ := hP
  obtain ⟨-, -, -, hnamed, -, -, -, hat⟩ := (Spec.applies_iff hf).mp happ
  obtain ⟨hg, hn⟩ := and_e (Cond.before_iff.mp (show (Jvm.Cond.and given_1 narrow_1).before args s = true from hpre))
  have hcount := (and_e hg).1
  have hgs0 := (and_e hg).2
  have hi0 := (and_e hgs0).1
  have hgs1 := (and_e hgs0).2
  have hi1 := (and_e hgs1).1
  have hgs2 := (and_e hgs1).2
  have hi2 := hgs2
  obtain ⟨w0, w1, w2, rfl⟩ : ∃ w0 w1 w2 : Value, args = #[w0, w1, w2] := by
    have hs : args.size = 3 := by simpa [Cond.value, given_1] using hcount
    obtain ⟨L⟩ := args
    match L, hs with
    | [w0, w1, w2], _ => exact ⟨w0, w1, w2, rfl⟩
  have hw := fun d (hd : d ∈ tables_1) => atoms_spec (ws := Jvm.Cond.code x code maxLocals ret :: tables_1) hat d (List.mem_cons_of_mem _ hd)
  have hfit : Fit s := fun {y c} hc i hi => by
    obtain ⟨ha, rfl⟩ := Array.getElem?_eq_some_iff.mp hc
    have q := List.all_eq_true.mp ((Array.all_eq_true_iff_forall_mem.mp hF) _ (Array.getElem_mem ha)) i (List.mem_range.mpr hi)
    simpa [Array.getElem?_eq_getElem hi] using q
  obtain ⟨i0, ei0⟩ := is_v hi0
  obtain rfl : w0 = (.int i0) := Option.some.inj ei0
  obtain ⟨i1, ei1⟩ := is_v hi1
  obtain rfl : w1 = (.int i1) := Option.some.inj ei1
  obtain ⟨i2, ei2⟩ := is_v hi2
  obtain rfl : w2 = (.int i2) := Option.some.inj ei2
  obtain ⟨n, o, h1, h2, h3, _, L, rfl, ⟨rfl, N⟩, hq⟩ := rm0 l s _ hw tables_1 i0 i1 i2 s.heap s.heap.size (Nat.le_refl _)  p e ha hc hk s m _ below hf ((Spec.applies_iff_loose hf).mp happ).1 ⟨rfl, State.Warmed39.refl s, rfl⟩ trivial
  refine ⟨n, _, h1, h2, h3, hpost _ _ _ _ _ _ ⟨Cond.after_iff.mpr rfl, Cond.after_iff.mpr (eq_i res_at (Term.int_eval (1)) rfl), trivial⟩ ⟨hq.1, hq.2.1, (hq.2.2.sift fun y hy => Or.inr (N y hy)).mono (by decide) (by decide)⟩⟩
theorem main_1_1 : Claimed_1_1 := comes_1 fun _ _ _ _ _ _ h hF => ⟨h.1, hF⟩
theorem main_1_2 : Claimed_1_2 := comes_1 fun _ _ _ _ _ _ h hF => ⟨h.2.1, hF⟩
end Jvm.Pilot.@@N@@
namespace Jvm.Pilot.@@N@@
open Jvm Jvm.ClassFile Sem Op Lib Jvm.Free Jvm.Stand Jvm.Pilot.@@N@@.Jvm.D
/-! MADE BY PROGRAM (witnessworld.py) out of the Statement's table words and the real class files: 10 classes; the members and pool entries that the words name. The judged class is class 1, her method 3. -/
namespace start1
open Jvm.ClassFile
def u (s : String) : CpInfo := .utf8 (stringToUtf16 s)
/-- a pool by its gaps: so many unusable entries, then the entry; so many at the end -/
def gap : Nat → List CpInfo → List CpInfo
  | 0, r => r
  | n + 1, r => .unusable :: gap n r
def poolList (es : List (Nat × CpInfo)) (last : Nat) : List CpInfo := es.foldr (fun e r => gap e.1 (e.2 :: r)) (gap last [])
def pool (es : List (Nat × CpInfo)) (last : Nat) : Array CpInfo := ⟨poolList es last⟩
def fileOf (pool : Array CpInfo) (this : Nat) (attrs : Array Attribute := #[]) (ms : Array MethodInfo := #[]) (fl : Nat := 33) (sup : Nat := 0) (ifs : Array Nat := #[]) (fds : Array FieldInfo := #[]) : ClassFile where
  minorVersion := 0
  majorVersion := 65
  constantPool := pool
  accessFlags := fl
  thisClass := this
  superClass := sup
  interfaces := ifs
  fields := fds
  methods := ms
  attributes := attrs
def plain (name : String) (sup : Option ClassId) : Class where
  name := name
  kind := .ordinary
  loader := none
  accessFlags := 33
  super := sup
  interfaces := #[]
  cf := none
  fields := #[]
  methods := #[]
  instanceTypes := #[]
  staticTypes := #[]
  resolved := #[]
  callSites := []
  init := .initialized
  statics := none
  mirror := none

def pool0 : Array CpInfo := pool [(5, u "<init>"), (0, u "()V"), (1, .class_ 10), (1, u "java/lang/Object")] 113

def k0c0 : Code := { maxStack := 0, maxLocals := 1, code := object_method_1_code, exceptionTable := #[], attributes := #[] }
def k0m0 : Method := { name := "<init>", desc := "()V", sig := { parameters := [], returnType := none }, accessFlags := 1, code := some k0c0 }
/-- java/lang/Object -/
def k0 : Class := { plain "java/lang/Object" none with
  accessFlags := 33
  interfaces := #[]
  cf := some (fileOf pool0 8 #[] #[{ accessFlags := 1, nameIndex := 5, descriptorIndex := 6, attributes := #[] }] 33 0 #[] #[])
  fields := #[]
  methods := #[k0m0]
  instanceTypes := #[]
  staticTypes := #[]
  resolved := Array.replicate 124 none
  statics := none }

def pool1 : Array CpInfo := pool [(2, .class_ 4), (1, u "java/lang/Object"), (0, u "<init>"), (0, u "()V"), (0, .integer 2147483647), (2, .integer 2147483648), (0, .methodref 12 13), (0, .class_ 14), (0, .nameAndType 15 16), (0, u "com/example/tidegate/tidegate/model/OperatingDayIsDayPinLaw"), (0, u "pick"), (0, u "(II)I"), (0, .methodref 18 19), (0, .class_ 20), (0, .nameAndType 21 22), (0, u "com/example/tidegate/tidegate/model/OperatingDay"), (0, u "isDay"), (0, u "(II)Z"), (0, .methodref 12 24), (0, .nameAndType 25 26), (0, u "inDay"), (0, u "(I)Z"), (0, .methodref 18 28), (0, .nameAndType 5 29), (0, u "(II)V"), (0, .methodref 18 31), (0, .nameAndType 32 33), (0, u "minutes"), (0, u "()I"), (0, .methodref 18 35), (0, .nameAndType 36 33), (0, u "end"), (0, .integer 86400), (0, .methodref 18 39), (0, .nameAndType 40 26), (0, u "containsMinute"), (3, u "law"), (0, u "(III)Z")] 2

def k1m0 : Method := { name := "<init>", desc := "()V", sig := { parameters := [], returnType := none }, accessFlags := 2, code := none }
def k1c1 : Code := { maxStack := 3, maxLocals := 2, code := method_2_code, exceptionTable := #[], attributes := #[] }
def k1m1 : Method := { name := "pick", desc := "(II)I", sig := { parameters := [.int, .int], returnType := some .int }, accessFlags := 10, code := some k1c1 }
def k1c2 : Code := { maxStack := 2, maxLocals := 1, code := method_3_code, exceptionTable := #[], attributes := #[] }
def k1m2 : Method := { name := "inDay", desc := "(I)Z", sig := { parameters := [.int], returnType := some .boolean }, accessFlags := 10, code := some k1c2 }
def k1c3 : Code := { maxStack := 4, maxLocals := 9, code := code, exceptionTable := #[], attributes := #[] }
def k1m3 : Method := { name := "law", desc := "(III)Z", sig := { parameters := [.int, .int, .int], returnType := some .boolean }, accessFlags := 9, code := some k1c3 }
/-- com/example/tidegate/tidegate/model/OperatingDayIsDayPinLaw -/
def k1 : Class := { plain "com/example/tidegate/tidegate/model/OperatingDayIsDayPinLaw" (some 0) with
  accessFlags := 49
  interfaces := #[]
  cf := some (fileOf pool1 12 #[] #[{ accessFlags := 2, nameIndex := 5, descriptorIndex := 6, attributes := #[] }, { accessFlags := 10, nameIndex := 15, descriptorIndex := 16, attributes := #[] }, { accessFlags := 10, nameIndex := 25, descriptorIndex := 26, attributes := #[] }, { accessFlags := 9, nameIndex := 44, descriptorIndex := 45, attributes := #[] }] 49 2 #[] #[])
  fields := #[]
  methods := #[k1m0, k1m1, k1m2, k1m3]
  instanceTypes := #[]
  staticTypes := #[]
  resolved := Array.replicate 48 none
  statics := none }

def pool2 : Array CpInfo := pool [(1, .methodref 2 3), (0, .class_ 4), (0, .nameAndType 5 6), (0, u "java/lang/Object"), (0, u "<init>"), (0, u "()V"), (0, .class_ 8), (0, u "java/lang/Record")] 13

def k2c0 : Code := { maxStack := 1, maxLocals := 1, code := jdk_30_method_1_code, exceptionTable := #[], attributes := #[] }
def k2m0 : Method := { name := "<init>", desc := "()V", sig := { parameters := [], returnType := none }, accessFlags := 4, code := some k2c0 }
/-- java/lang/Record -/
def k2 : Class := { plain "java/lang/Record" (some 0) with
  accessFlags := 1057
  interfaces := #[]
  cf := some (fileOf pool2 7 #[] #[{ accessFlags := 4, nameIndex := 5, descriptorIndex := 6, attributes := #[] }] 1057 2 #[] #[])
  fields := #[]
  methods := #[k2m0]
  instanceTypes := #[]
  staticTypes := #[]
  resolved := Array.replicate 22 none
  statics := none }

def pool3 : Array CpInfo := pool [(1, .methodref 2 3), (0, .class_ 4), (0, .nameAndType 5 6), (0, u "java/lang/Record"), (0, u "<init>"), (0, u "()V"), (0, .methodref 8 9), (0, .class_ 10), (0, .nameAndType 11 12), (0, u "com/example/tidegate/tidegate/model/OperatingDay"), (0, u "isDay"), (0, u "(II)Z"), (9, .fieldref 8 23), (0, .nameAndType 24 25), (0, u "open"), (0, u "I"), (0, .fieldref 8 27), (0, .nameAndType 28 25), (0, u "close"), (5, u "()I"), (2, u "end"), (21, u "(II)V"), (4, u "minutes"), (1, u "(I)Z"), (0, u "containsMinute")] 38

def k3c0 : Code := { maxStack := 4, maxLocals := 3, code := prog_56_method_1_code, exceptionTable := #[], attributes := #[] }
def k3m0 : Method := { name := "<init>", desc := "(II)V", sig := { parameters := [.int, .int], returnType := none }, accessFlags := 1, code := some k3c0 }
def k3c1 : Code := { maxStack := 2, maxLocals := 2, code := prog_56_method_2_code, exceptionTable := #[], attributes := #[] }
def k3m1 : Method := { name := "isDay", desc := "(II)Z", sig := { parameters := [.int, .int], returnType := some .boolean }, accessFlags := 9, code := some k3c1 }
def k3c2 : Code := { maxStack := 2, maxLocals := 1, code := prog_56_method_3_code, exceptionTable := #[], attributes := #[] }
def k3m2 : Method := { name := "minutes", desc := "()I", sig := { parameters := [], returnType := some .int }, accessFlags := 1, code := some k3c2 }
def k3c3 : Code := { maxStack := 2, maxLocals := 1, code := prog_56_method_5_code, exceptionTable := #[], attributes := #[] }
def k3m3 : Method := { name := "end", desc := "()I", sig := { parameters := [], returnType := some .int }, accessFlags := 1, code := some k3c3 }
def k3c4 : Code := { maxStack := 2, maxLocals := 2, code := prog_56_method_7_code, exceptionTable := #[], attributes := #[] }
def k3m4 : Method := { name := "containsMinute", desc := "(I)Z", sig := { parameters := [.int], returnType := some .boolean }, accessFlags := 1, code := some k3c4 }
/-- com/example/tidegate/tidegate/model/OperatingDay -/
def k3 : Class := { plain "com/example/tidegate/tidegate/model/OperatingDay" (some 2) with
  accessFlags := 49
  interfaces := #[]
  cf := some (fileOf pool3 8 #[] #[{ accessFlags := 1, nameIndex := 5, descriptorIndex := 59, attributes := #[] }, { accessFlags := 9, nameIndex := 11, descriptorIndex := 12, attributes := #[] }, { accessFlags := 1, nameIndex := 64, descriptorIndex := 34, attributes := #[] }, { accessFlags := 1, nameIndex := 37, descriptorIndex := 34, attributes := #[] }, { accessFlags := 1, nameIndex := 67, descriptorIndex := 66, attributes := #[] }] 49 2 #[] #[{ accessFlags := 18, nameIndex := 24, descriptorIndex := 25, attributes := #[] }, { accessFlags := 18, nameIndex := 28, descriptorIndex := 25, attributes := #[] }])
  fields := #[{ name := "open", type := .int, accessFlags := 18, slot := 0, constantValue := 0 }, { name := "close", type := .int, accessFlags := 18, slot := 1, constantValue := 0 }]
  methods := #[k3m0, k3m1, k3m2, k3m3, k3m4]
  instanceTypes := #[.int, .int]
  staticTypes := #[]
  resolved := Array.replicate 106 none
  statics := none }

def pool4 : Array CpInfo := pool [(1, u "java/lang/Cloneable"), (0, .class_ 1), (0, u "java/lang/Object"), (0, .class_ 3)] 3

/-- java/lang/Cloneable -/
def k4 : Class := { plain "java/lang/Cloneable" (some 0) with
  accessFlags := 1537
  interfaces := #[]
  cf := some (fileOf pool4 2 #[] #[] 1537 4 #[] #[])
  fields := #[]
  methods := #[]
  instanceTypes := #[]
  staticTypes := #[]
  resolved := Array.replicate 8 none
  statics := none }

def pool5 : Array CpInfo := pool [(1, u "java/io/Serializable"), (0, .class_ 1), (0, u "java/lang/Object"), (0, .class_ 3)] 3

/-- java/io/Serializable -/
def k5 : Class := { plain "java/io/Serializable" (some 0) with
  accessFlags := 1537
  interfaces := #[]
  cf := some (fileOf pool5 2 #[] #[] 1537 4 #[] #[])
  fields := #[]
  methods := #[]
  instanceTypes := #[]
  staticTypes := #[]
  resolved := Array.replicate 8 none
  statics := none }

/-- the primitive byte -/
def k6 : Class := { plain "byte" none with kind := .primitive 'B', accessFlags := 0x411 }
/-- [B -/
def k7 : Class := { plain "[B" (some 0) with kind := .array 6 .byte, interfaces := #[4, 5], accessFlags := 1041 }

/-- the primitive int -/
def k8 : Class := { plain "int" none with kind := .primitive 'I', accessFlags := 0x411 }
/-- [I -/
def k9 : Class := { plain "[I" (some 0) with kind := .array 8 .int, interfaces := #[4, 5], accessFlags := 1041 }

def heap : Heap := #[]
def classes : Array Class := #[k0, k1, k2, k3, k4, k5, k6, k7, k8, k9]
def interned : List (Array UInt16 × Addr) := []
def slotsUsed : Nat := 0
def theMethod : MethodId := ⟨1, 3⟩
def args0 : Array Value := #[.int 5, .int 6, .int 7]
def aboutOver (below : List Frame) : State where
  vm := { classes := classes, interned := interned.toArray }
  heap := heap
  slotsUsed := slotsUsed
  threads := #[{ frames := .invoking theMethod args0 :: below }]
def below0 : List Frame := [.native { method := ⟨0, 0⟩, args := #[] }]
def about1 : State := aboutOver below0
def p0 : Program := .bare "" "" ""
def e0 : Env := launch0.env 0 0 0
theorem w_frames : about1.frames = Frame.invoking theMethod args0 :: below0 := rfl
set_option maxRecDepth 65536 in
theorem w_args : argsFit about1.vm theMethod args0 = true := by decide +kernel
set_option maxRecDepth 65536 in
theorem w_heap : heapFits about1 = true := by decide +kernel
set_option maxRecDepth 65536 in
theorem w_runnable : about1.curStatus? = some .runnable := by decide +kernel
set_option maxRecDepth 65536 in
theorem w_alone : about1.alone = true := by decide +kernel
set_option maxRecDepth 65536 in
theorem w_named : about1.methodNamed? x = some theMethod := by decide +kernel
set_option maxRecDepth 65536 in
theorem w_hears : about1.hears theMethod below0 = true := by decide +kernel
set_option maxRecDepth 65536 in
theorem w_ripe : about1.ripe theMethod args0 below0 = true := by decide +kernel
theorem w_running : about1.status = .running := rfl
set_option maxRecDepth 65536 in
theorem w_room : about1.hasRoom e0.platform room_1 = true :=
  launch0.hasRoom_least _ room_1 (by decide +kernel) (by decide +kernel) (by decide +kernel) (by decide +kernel) (by decide +kernel) (by decide +kernel)
theorem allAtoms_all (ts : List Jvm.Cond) (a : Array Jvm.Value) (st : Jvm.State) : (allAtoms ts).before a st = ts.all (fun c => c.before a st) := by
  induction ts with
  | nil => rfl
  | cons c t ih =>
    show (Jvm.Cond.and c (allAtoms t)).before a st = _
    rw [Jvm.Cond.before_and, ih, List.all_cons]
def words1 : List Jvm.Cond := Jvm.Cond.code x code maxLocals ret :: tables_1
/-- a 'code' word, met by the world's own term for the bytes: nothing is compared byte by byte -/
theorem code_word {y : MethodName} {bytes : ByteArray} {mx : Nat} {rt : Option FieldType} {a : Array Value} {s : State} {m : MethodId} {meth : Method} {c : Code} (h1 : s.methodNamed? y = some m) (h2 : s.vm.method? m = some meth) (h3 : meth.code = some c) (h4 : c.code = bytes)
    (h5 : (c.maxLocals == mx && c.exceptionTable.isEmpty && decide (c.maxStack ≤ mostOperands) && decide (meth.sig.returnType = rt) && !meth.locks && decide (parseMethodDescriptor y.desc = some meth.sig)) = true) : (Jvm.Cond.code y bytes mx rt).before a s = true := by
  simp only [Bool.and_eq_true, beq_iff_eq, Bool.not_eq_true', decide_eq_true_eq] at h5
  obtain ⟨⟨⟨⟨⟨g1, g2⟩, g3⟩, g4⟩, g5⟩, g6⟩ := h5
  simp [Cond.before, Cond.holds, Cond.value, h1, h2, h3, h4, g1, g2, g3, g4, g5, g6]
def isCode : Jvm.Cond → Bool
  | .code _ _ _ _ => true
  | _ => false
theorem all_split {L : List Jvm.Cond} {P : Jvm.Cond → Bool} (h1 : L.all (fun c => isCode c || P c) = true) (h2 : ∀ c ∈ L.filter isCode, P c = true) : L.all P = true := by
  refine List.all_eq_true.mpr fun c hc => ?_
  have h := List.all_eq_true.mp h1 c hc
  rcases Bool.eq_false_or_eq_true (isCode c) with hi | hi
  · exact h2 c (List.mem_filter.mpr ⟨hc, hi⟩)
  · simpa [hi] using h
set_option maxRecDepth 65536 in
theorem w_c0 : (Jvm.Cond.code x code maxLocals ret).before args0 about1 = true := code_word (m := ⟨1, 3⟩) (meth := k1m3) (c := k1c3) (by decide +kernel) rfl rfl rfl (by decide +kernel)
set_option maxRecDepth 65536 in
theorem w_c1 : (Jvm.Cond.code ({ cls := "com/example/tidegate/tidegate/model/OperatingDayIsDayPinLaw", name := "pick", desc := "(II)I" } : Jvm.MethodName) method_2_code (2 : Nat) (Option.some Jvm.ClassFile.FieldType.int)).before args0 about1 = true := code_word (m := ⟨1, 1⟩) (meth := k1m1) (c := k1c1) (by decide +kernel) rfl rfl rfl (by decide +kernel)
set_option maxRecDepth 65536 in
theorem w_c2 : (Jvm.Cond.code ({ cls := "com/example/tidegate/tidegate/model/OperatingDay", name := "isDay", desc := "(II)Z" } : Jvm.MethodName) prog_56_method_2_code (2 : Nat) (Option.some Jvm.ClassFile.FieldType.boolean)).before args0 about1 = true := code_word (m := ⟨3, 1⟩) (meth := k3m1) (c := k3c1) (by decide +kernel) rfl rfl rfl (by decide +kernel)
set_option maxRecDepth 65536 in
theorem w_c3 : (Jvm.Cond.code ({ cls := "com/example/tidegate/tidegate/model/OperatingDayIsDayPinLaw", name := "inDay", desc := "(I)Z" } : Jvm.MethodName) method_3_code (1 : Nat) (Option.some Jvm.ClassFile.FieldType.boolean)).before args0 about1 = true := code_word (m := ⟨1, 2⟩) (meth := k1m2) (c := k1c2) (by decide +kernel) rfl rfl rfl (by decide +kernel)
set_option maxRecDepth 65536 in
theorem w_c4 : (Jvm.Cond.code ({ cls := "com/example/tidegate/tidegate/model/OperatingDay", name := "<init>", desc := "(II)V" } : Jvm.MethodName) prog_56_method_1_code (3 : Nat) (Option.none : Option Jvm.ClassFile.FieldType)).before args0 about1 = true := code_word (m := ⟨3, 0⟩) (meth := k3m0) (c := k3c0) (by decide +kernel) rfl rfl rfl (by decide +kernel)
set_option maxRecDepth 65536 in
theorem w_c5 : (Jvm.Cond.code ({ cls := "java/lang/Record", name := "<init>", desc := "()V" } : Jvm.MethodName) jdk_30_method_1_code (1 : Nat) (Option.none : Option Jvm.ClassFile.FieldType)).before args0 about1 = true := code_word (m := ⟨2, 0⟩) (meth := k2m0) (c := k2c0) (by decide +kernel) rfl rfl rfl (by decide +kernel)
set_option maxRecDepth 65536 in
theorem w_c6 : (Jvm.Cond.code ({ cls := "java/lang/Object", name := "<init>", desc := "()V" } : Jvm.MethodName) object_method_1_code (1 : Nat) (Option.none : Option Jvm.ClassFile.FieldType)).before args0 about1 = true := code_word (m := ⟨0, 0⟩) (meth := k0m0) (c := k0c0) (by decide +kernel) rfl rfl rfl (by decide +kernel)
set_option maxRecDepth 65536 in
theorem w_c7 : (Jvm.Cond.code ({ cls := "com/example/tidegate/tidegate/model/OperatingDay", name := "minutes", desc := "()I" } : Jvm.MethodName) prog_56_method_3_code (1 : Nat) (Option.some Jvm.ClassFile.FieldType.int)).before args0 about1 = true := code_word (m := ⟨3, 2⟩) (meth := k3m2) (c := k3c2) (by decide +kernel) rfl rfl rfl (by decide +kernel)
set_option maxRecDepth 65536 in
theorem w_c8 : (Jvm.Cond.code ({ cls := "com/example/tidegate/tidegate/model/OperatingDay", name := "end", desc := "()I" } : Jvm.MethodName) prog_56_method_5_code (1 : Nat) (Option.some Jvm.ClassFile.FieldType.int)).before args0 about1 = true := code_word (m := ⟨3, 3⟩) (meth := k3m3) (c := k3c3) (by decide +kernel) rfl rfl rfl (by decide +kernel)
set_option maxRecDepth 65536 in
theorem w_c9 : (Jvm.Cond.code ({ cls := "com/example/tidegate/tidegate/model/OperatingDay", name := "containsMinute", desc := "(I)Z" } : Jvm.MethodName) prog_56_method_7_code (2 : Nat) (Option.some Jvm.ClassFile.FieldType.boolean)).before args0 about1 = true := code_word (m := ⟨3, 4⟩) (meth := k3m4) (c := k3c4) (by decide +kernel) rfl rfl rfl (by decide +kernel)
def codes1 : List Jvm.Cond := [Jvm.Cond.code x code maxLocals ret, Jvm.Cond.code ({ cls := "com/example/tidegate/tidegate/model/OperatingDayIsDayPinLaw", name := "pick", desc := "(II)I" } : Jvm.MethodName) method_2_code (2 : Nat) (Option.some Jvm.ClassFile.FieldType.int), Jvm.Cond.code ({ cls := "com/example/tidegate/tidegate/model/OperatingDay", name := "isDay", desc := "(II)Z" } : Jvm.MethodName) prog_56_method_2_code (2 : Nat) (Option.some Jvm.ClassFile.FieldType.boolean), Jvm.Cond.code ({ cls := "com/example/tidegate/tidegate/model/OperatingDayIsDayPinLaw", name := "inDay", desc := "(I)Z" } : Jvm.MethodName) method_3_code (1 : Nat) (Option.some Jvm.ClassFile.FieldType.boolean), Jvm.Cond.code ({ cls := "com/example/tidegate/tidegate/model/OperatingDay", name := "<init>", desc := "(II)V" } : Jvm.MethodName) prog_56_method_1_code (3 : Nat) (Option.none : Option Jvm.ClassFile.FieldType), Jvm.Cond.code ({ cls := "java/lang/Record", name := "<init>", desc := "()V" } : Jvm.MethodName) jdk_30_method_1_code (1 : Nat) (Option.none : Option Jvm.ClassFile.FieldType), Jvm.Cond.code ({ cls := "java/lang/Object", name := "<init>", desc := "()V" } : Jvm.MethodName) object_method_1_code (1 : Nat) (Option.none : Option Jvm.ClassFile.FieldType), Jvm.Cond.code ({ cls := "com/example/tidegate/tidegate/model/OperatingDay", name := "minutes", desc := "()I" } : Jvm.MethodName) prog_56_method_3_code (1 : Nat) (Option.some Jvm.ClassFile.FieldType.int), Jvm.Cond.code ({ cls := "com/example/tidegate/tidegate/model/OperatingDay", name := "end", desc := "()I" } : Jvm.MethodName) prog_56_method_5_code (1 : Nat) (Option.some Jvm.ClassFile.FieldType.int), Jvm.Cond.code ({ cls := "com/example/tidegate/tidegate/model/OperatingDay", name := "containsMinute", desc := "(I)Z" } : Jvm.MethodName) prog_56_method_7_code (2 : Nat) (Option.some Jvm.ClassFile.FieldType.boolean)]
set_option maxRecDepth 65536 in
theorem codes_eq : words1.filter isCode = codes1 := rfl
theorem w_codes : ∀ c ∈ words1.filter isCode, c.before args0 about1 = true := by
  rw [codes_eq]
  intro c hc
  simp only [codes1, List.mem_cons, List.not_mem_nil, or_false] at hc
  rcases hc with rfl | rfl | rfl | rfl | rfl | rfl | rfl | rfl | rfl | rfl
  · exact w_c0
  · exact w_c1
  · exact w_c2
  · exact w_c3
  · exact w_c4
  · exact w_c5
  · exact w_c6
  · exact w_c7
  · exact w_c8
  · exact w_c9
set_option maxRecDepth 65536 in
theorem w_t1 : (words1.take 24).all (fun c => isCode c || c.before args0 about1) = true := by decide +kernel
set_option maxRecDepth 65536 in
theorem w_t2 : (words1.drop 24).all (fun c => isCode c || c.before args0 about1) = true := by decide +kernel
theorem w_tables : (allAtoms (Jvm.Cond.code x code maxLocals ret :: tables_1)).before args0 about1 = true := by
  rw [allAtoms_all]
  show words1.all (fun c => c.before args0 about1) = true
  refine all_split ?_ w_codes
  rw [← List.take_append_drop 24 words1, List.all_append, w_t1, w_t2]
  rfl
set_option maxRecDepth 65536 in
theorem w_case : (Jvm.Cond.and given_1 narrow_1).before args0 about1 = true := by decide +kernel
theorem w_applies : (headSpec (Jvm.Cond.code x code maxLocals ret :: tables_1) room_1).applies x e0.platform about1 = true :=
  (Spec.applies_iff w_frames).mpr ⟨w_running, w_runnable, w_alone, w_named, w_hears, w_ripe, w_room, w_tables⟩
theorem atStart : AtStart classFile x code maxLocals ret World_1 tables_1 room_1 Calls_1 rest_1 Pre_1 launch0 p0 e0 about1 theMethod args0 below0 :=
  ⟨lists_1, trivial, launch0.admits_env _ _ _, launch0.least_env, fairChoices_fair.cas, fairChoices_fair.clock, w_frames, w_args, w_heap, w_applies, trivial, trivial, w_case⟩
end start1
theorem witness_1 : WitnessClaimed_1 := ⟨start1.p0, start1.e0, start1.about1, start1.theMethod, start1.args0, start1.below0, start1.atStart⟩
end Jvm.Pilot.@@N@@
