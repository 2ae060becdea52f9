import JvmDerived
import JvmDerived.Pilot.@@N@@Statement
import JvmDerived.Pilot.@@N@@Code
set_option linter.unusedVariables false
set_option linter.unusedSimpArgs false
namespace Jvm.RoadKit
open Sem ClassFile Op Lib Jvm.Stand Jvm.Free Jvm.LawKit
section New
variable {p : Program} {l : Launch} {e : Env} {R : Room} {s : State} {m : MethodId} {args : Array Value} {below : List Frame} {meth : Method} {c : Code} {T : State} {locs : List Loc} {cells slots : Nat}
theorem retI (X : Stand p l e R s m args below meth c T locs cells slots) (hx : p.tables.exec = Jvm.exec) {pc : Nat} {Ls : Array Slot} {z : Int32} {rest : List Value} (hret : meth.sig.returnType = some .int) (hd : decode c.code pc = .ok (.ireturn, 1)) {fs : List Frame}
    (hl : ∀ (f : JFrame) (acts : List Action), f.method = m → f.locked = none → f.entered = [] → (doReturn e (T.setTop f) acts (some (.int z))).1 = T.setFrames fs) : Steps p.tables e below (T.setTop (mkF m pc Ls (.int z :: rest))) (T.setFrames fs) := by
  have hm' : T.vm.method? m = some meth := X.method'
  have hn : narrow .int (.int z) = .int z := rfl
  show Steps p.tables e below (T.setTop { method := m, pc := pc, locals := Ls, stack := _ :: rest, locked := none }) _
  jvm_step X.here [X.here.top, hx, hd, hm', hret, hn]
  first | (intro acts; rw [hl _ acts rfl rfl rfl]) | rw [hl _ _ rfl rfl rfl]
  exact Steps.refl _
end New
end Jvm.RoadKit
namespace Jvm.Pilot.@@N@@
open Jvm Jvm.ClassFile Sem Op Lib Jvm.Free Jvm.Stand Jvm.LawKit Jvm.RoadKit Bundle Jvm.Pilot.@@N@@.Jvm.D
section Own
variable {p : Program} {l : Launch} {e : Env} {R : Room} {s : State} {m : MethodId} {args : Array Value} {below : List Frame} {meth : Method} {c : Code} {T : State} {locs : List Loc} {cells slots : Nat} {Z : State} {a0 : Array Value} {h h' : Heap}
/-- an array of n places, whose j-th holds f j -/
def own_AF (Z : State) (h : Heap) (a : Addr) (ty : FieldType) (n : Nat) (f : Nat → Value) : Prop := n < 2147483648 ∧ ∃ c : Cell, Arr Z h a c ty ∧ c.slots.size = n ∧ ∀ j, j < n → c.slots[j]? = some (f j)
/-- an array of ints, bytes, chars, booleans -/
def own_AI (Z : State) (h : Heap) (a : Addr) (ty : FieldType) (n : Nat) (f : Nat → Int32) : Prop := own_AF Z h a ty n (fun j => .int (f j))
def own_AL (Z : State) (h : Heap) (a : Addr) (n : Nat) (f : Nat → Int64) : Prop := own_AF Z h a .long n (fun j => .long (f j))
def own_upd {α : Type} (f : Nat → α) (i : Nat) (x : α) : Nat → α := fun j => if j = i then x else f j
theorem own_AF.lt {a : Addr} {ty : FieldType} {n : Nat} {f : Nat → Value} (F : own_AF Z h a ty n f) : a < h.size := by obtain ⟨_, c, A, -⟩ := F; exact A.lt
theorem own_AI.lt {a : Addr} {ty : FieldType} {n : Nat} {f : Nat → Int32} (F : own_AI Z h a ty n f) : a < h.size := own_AF.lt F
theorem own_AL.lt {a : Addr} {n : Nat} {f : Nat → Int64} (F : own_AL Z h a n f) : a < h.size := own_AF.lt F
theorem own_AF.keep {a : Addr} {ty : FieldType} {n : Nat} {f : Nat → Value} {ws : List Addr} (F : own_AF Z h a ty n f) (K : Keep h h' ws) (q : a ∉ ws) : own_AF Z h' a ty n f := by
  obtain ⟨b, c, A, r⟩ := F; exact ⟨b, c, ⟨K.2.1 a c A.1 q, A.2⟩, r⟩
theorem own_AI.keep {a : Addr} {ty : FieldType} {n : Nat} {f : Nat → Int32} {ws : List Addr} (F : own_AI Z h a ty n f) (K : Keep h h' ws) (q : a ∉ ws) : own_AI Z h' a ty n f := own_AF.keep F K q
theorem own_AL.keep {a : Addr} {n : Nat} {f : Nat → Int64} {ws : List Addr} (F : own_AL Z h a n f) (K : Keep h h' ws) (q : a ∉ ws) : own_AL Z h' a n f := own_AF.keep F K q
theorem own_AF.congr {a : Addr} {ty : FieldType} {n : Nat} {f g : Nat → Value} (F : own_AF Z h a ty n f) (q : ∀ j, j < n → f j = g j) : own_AF Z h a ty n g := by
  obtain ⟨b, c, A, s, r⟩ := F; exact ⟨b, c, A, s, fun j hj => by rw [r j hj, q j hj]⟩
theorem own_AI.congr {a : Addr} {ty : FieldType} {n : Nat} {f g : Nat → Int32} (F : own_AI Z h a ty n f) (q : ∀ j, j < n → f j = g j) : own_AI Z h a ty n g := own_AF.congr F fun j hj => by show Value.int (f j) = .int (g j); rw [q j hj]
theorem own_AF.wr {a : Addr} {ty : FieldType} {n i : Nat} {f : Nat → Value} {v : Value} (F : own_AF Z h a ty n f) (hi : i < n) (W : Wr h h' a i v) : own_AF Z h' a ty n (own_upd f i v) := by
  obtain ⟨b, c, A, s, r⟩ := F
  refine ⟨b, _, A.same W, by rw [sz_set]; exact s, fun j hj => ?_⟩
  simp only [Cell.setSlot, own_upd, Array.getElem?_setIfInBounds]
  by_cases q : i = j
  · subst q; simp [s, hi]
  · have q' : ¬ j = i := fun e => q e.symm
    simp [q, q', r j hj]
theorem own_AI.wr {a : Addr} {ty : FieldType} {n i : Nat} {f : Nat → Int32} {x : Int32} (F : own_AI Z h a ty n f) (hi : i < n) (W : Wr h h' a i (.int x)) : own_AI Z h' a ty n (own_upd f i x) :=
  (own_AF.wr F hi W).congr fun j hj => by simp only [own_upd]; split <;> rfl
theorem own_AL.wr {a : Addr} {n i : Nat} {f : Nat → Int64} {x : Int64} (F : own_AL Z h a n f) (hi : i < n) (W : Wr h h' a i (.long x)) : own_AL Z h' a n (own_upd f i x) :=
  (own_AF.wr F hi W).congr fun j hj => by simp only [own_upd]; split <;> rfl
theorem own_idx {j : Int32} {i : Nat} (hj : j.toInt = i) : ¬ j < 0 ∧ j.toNatClampNeg = i := by
  refine ⟨by rw [Int32.lt_iff_toInt_lt, Int32.toInt_zero]; omega, ?_⟩
  have := nat_of (j := j) (by rw [Int32.lt_iff_toInt_lt, Int32.toInt_zero]; omega)
  omega
theorem own_inb {j : Int32} {i n : Nat} {cl : Cell} (hj : j.toInt = i) (hi : i < n) (hs : cl.slots.size = n) : ¬ (j < 0 ∨ cl.slots.size ≤ j.toNatClampNeg) := by
  obtain ⟨h1, h2⟩ := own_idx hj
  rintro (q | q)
  · exact h1 q
  · rw [h2, hs] at q; omega
theorem own_ldF {a : Addr} {n i : Nat} {ty : FieldType} {f : Nat → Value} {j : Int32} {v : Value} (A : own_AF Z h a ty n f) (hj : j.toInt = i) (hi : i < n) (hv : f i = v) : ∃ cl : Cell, Arr Z h a cl ty ∧ ¬ (j < 0 ∨ cl.slots.size ≤ j.toNatClampNeg) ∧ cl.slots[j.toNatClampNeg]? = some v := by
  obtain ⟨b, cl, Ar, hs, hf⟩ := A
  exact ⟨cl, Ar, own_inb hj hi hs, by rw [(own_idx hj).2, hf i hi, hv]⟩
theorem own_ldI (X : Stand p l e R s m args below meth c T locs cells slots) (hx : p.tables.exec = Jvm.exec) (hZ : Z.Warmed39 s.vm) (eT : T.heap = h) {a : Addr} {n i : Nat} {f : Nat → Int32} {j x : Int32} (A : own_AI Z h a .int n f) (hj : j.toInt = i) (hi : i < n) (hv : f i = x) {g : JFrame} (hg : g.method = m) {rest : List Value} (hs : g.stack = .int j :: .ref a :: rest) (hd : decode c.code g.pc = .ok (.iaload, 1)) :
    ∀ target, Steps p.tables e below (T.setTop { g with pc := g.pc + 1, stack := .int x :: rest }) target → Steps p.tables e below (T.setTop g) target := by
  obtain ⟨cl, Ar, h1, h2⟩ := own_ldF A hj hi (by rw [hv])
  exact X.iaload hx (by rw [eT]; exact Ar.1) (State.isArrayOf_alike hZ.alike Ar.2.1) Ar.2.2 h1 h2 hg hs hd
theorem own_ldC (X : Stand p l e R s m args below meth c T locs cells slots) (hx : p.tables.exec = Jvm.exec) (hZ : Z.Warmed39 s.vm) (eT : T.heap = h) {a : Addr} {n i : Nat} {f : Nat → Int32} {j x : Int32} (A : own_AI Z h a .char n f) (hj : j.toInt = i) (hi : i < n) (hv : f i = x) {g : JFrame} (hg : g.method = m) {rest : List Value} (hs : g.stack = .int j :: .ref a :: rest) (hd : decode c.code g.pc = .ok (.caload, 1)) :
    ∀ target, Steps p.tables e below (T.setTop { g with pc := g.pc + 1, stack := .int x :: rest }) target → Steps p.tables e below (T.setTop g) target := by
  obtain ⟨cl, Ar, h1, h2⟩ := own_ldF A hj hi (by rw [hv])
  exact X.caload hx (by rw [eT]; exact Ar.1) (State.isArrayOf_alike hZ.alike Ar.2.1) Ar.2.2 h1 h2 hg hs hd
theorem own_ldB (X : Stand p l e R s m args below meth c T locs cells slots) (hx : p.tables.exec = Jvm.exec) (hZ : Z.Warmed39 s.vm) (eT : T.heap = h) {a : Addr} {n i : Nat} {f : Nat → Int32} {j x : Int32} (A : own_AI Z h a .byte n f) (hj : j.toInt = i) (hi : i < n) (hv : f i = x) {g : JFrame} (hg : g.method = m) {rest : List Value} (hs : g.stack = .int j :: .ref a :: rest) (hd : decode c.code g.pc = .ok (.baload, 1)) :
    ∀ target, Steps p.tables e below (T.setTop { g with pc := g.pc + 1, stack := .int x :: rest }) target → Steps p.tables e below (T.setTop g) target := by
  obtain ⟨cl, Ar, h1, h2⟩ := own_ldF A hj hi (by rw [hv])
  exact X.baloadBytes hx (by rw [eT]; exact Ar.1) (State.isArrayOf_alike hZ.alike Ar.2.1) Ar.2.2 h1 h2 hg hs hd
theorem own_ldZ (X : Stand p l e R s m args below meth c T locs cells slots) (hx : p.tables.exec = Jvm.exec) (hZ : Z.Warmed39 s.vm) (eT : T.heap = h) {a : Addr} {n i : Nat} {f : Nat → Int32} {j x : Int32} (A : own_AI Z h a .boolean n f) (hj : j.toInt = i) (hi : i < n) (hv : f i = x) {g : JFrame} (hg : g.method = m) {rest : List Value} (hs : g.stack = .int j :: .ref a :: rest) (hd : decode c.code g.pc = .ok (.baload, 1)) :
    ∀ target, Steps p.tables e below (T.setTop { g with pc := g.pc + 1, stack := .int x :: rest }) target → Steps p.tables e below (T.setTop g) target := by
  obtain ⟨cl, Ar, h1, h2⟩ := own_ldF A hj hi (by rw [hv])
  exact X.baloadBooleans hx (by rw [eT]; exact Ar.1) (State.isArrayOf_alike hZ.alike Ar.2.1) Ar.2.2 h1 h2 hg hs hd
theorem own_ldJ (X : Stand p l e R s m args below meth c T locs cells slots) (hx : p.tables.exec = Jvm.exec) (hZ : Z.Warmed39 s.vm) (eT : T.heap = h) {a : Addr} {n i : Nat} {f : Nat → Int64} {j : Int32} {x : Int64} (A : own_AL Z h a n f) (hj : j.toInt = i) (hi : i < n) (hv : f i = x) {g : JFrame} (hg : g.method = m) {rest : List Value} (hs : g.stack = .int j :: .ref a :: rest) (hd : decode c.code g.pc = .ok (.laload, 1)) :
    ∀ target, Steps p.tables e below (T.setTop { g with pc := g.pc + 1, stack := .long x :: rest }) target → Steps p.tables e below (T.setTop g) target := by
  obtain ⟨cl, Ar, h1, h2⟩ := own_ldF A hj hi (by rw [hv])
  exact X.laload hx (by rw [eT]; exact Ar.1) (State.isArrayOf_alike hZ.alike Ar.2.1) Ar.2.2 h1 h2 hg hs hd
theorem own_ldR (X : Stand p l e R s m args below meth c T locs cells slots) (hx : p.tables.exec = Jvm.exec) (hZ : Z.Warmed39 s.vm) (eT : T.heap = h) {a : Addr} {n i : Nat} {ty : FieldType} {f : Nat → Value} {j : Int32} {v : Value} (hty : ty.isReference = true) (A : own_AF Z h a ty n f) (hj : j.toInt = i) (hi : i < n) (hv : f i = v) {g : JFrame} (hg : g.method = m) {rest : List Value} (hs : g.stack = .int j :: .ref a :: rest) (hd : decode c.code g.pc = .ok (.aaload, 1)) :
    ∀ target, Steps p.tables e below (T.setTop { g with pc := g.pc + 1, stack := v :: rest }) target → Steps p.tables e below (T.setTop g) target := by
  obtain ⟨cl, Ar, h1, h2⟩ := own_ldF A hj hi hv
  exact X.aaload hx (by rw [eT]; exact Ar.1) (State.isArrayOf_alike hZ.alike Ar.2.1) hty Ar.2.2 h1 h2 hg hs hd
theorem own_len (X : Stand p l e R s m args below meth c T locs cells slots) (hx : p.tables.exec = Jvm.exec) (hZ : Z.Warmed39 s.vm) (eT : T.heap = h) {a : Addr} {n : Nat} {ty : FieldType} {f : Nat → Value} {z : Int32} (A : own_AF Z h a ty n f) (hz : z.toInt = n) {g : JFrame} (hg : g.method = m) {rest : List Value} (hs : g.stack = .ref a :: rest) (hd : decode c.code g.pc = .ok (.arraylength, 1)) :
    ∀ target, Steps p.tables e below (T.setTop { g with pc := g.pc + 1, stack := .int z :: rest }) target → Steps p.tables e below (T.setTop g) target := by
  obtain ⟨b, cl, Ar, hs', hf⟩ := A
  intro target k
  refine X.arraylength hx (by rw [eT]; exact Ar.1) (State.isArrayOf_alike hZ.alike Ar.2.1) hg hs hd target ?_
  have q : cl.slots.size.toInt32 = z := by
    apply Int32.toInt_inj.mp
    rw [hs', len_toInt (by omega), hz]
  rw [q]; exact k
theorem own_stI (X : Stand p l e R s m args below meth c T locs cells slots) (hx : p.tables.exec = Jvm.exec) (hZ : Z.Warmed39 s.vm) (eT : T.heap = h) {a : Addr} {n i : Nat} {f : Nat → Int32} {j x : Int32} (A : own_AI Z h a .int n f) (hj : j.toInt = i) (hi : i < n) {g : JFrame} (hg : g.method = m) {rest : List Value} (hs : g.stack = .int x :: .int j :: .ref a :: rest) (hd : decode c.code g.pc = .ok (.iastore, 1)) :
    ∃ T' h', Stand p l e R s m args below meth c T' (locs ++ [⟨a, i⟩]) cells slots ∧ T'.heap = h' ∧ Wr h h' a i (.int x) ∧ own_AI Z h' a .int n (own_upd f i x) ∧ ∀ target, Steps p.tables e below (T'.setTop { g with pc := g.pc + 1, stack := rest }) target → Steps p.tables e below (T.setTop g) target := by
  obtain ⟨cl, Ar, h1, -⟩ := own_ldF A hj hi rfl
  obtain ⟨T', h', X', e', W, st⟩ := stI X hx hZ eT Ar h1 hg hs hd
  rw [(own_idx hj).2] at X' W
  exact ⟨T', h', X', e', W, A.wr hi W, st⟩
theorem own_stB (X : Stand p l e R s m args below meth c T locs cells slots) (hx : p.tables.exec = Jvm.exec) (hZ : Z.Warmed39 s.vm) (eT : T.heap = h) {a : Addr} {n i : Nat} {f : Nat → Int32} {j x : Int32} (A : own_AI Z h a .byte n f) (hj : j.toInt = i) (hi : i < n) {g : JFrame} (hg : g.method = m) {rest : List Value} (hs : g.stack = .int x :: .int j :: .ref a :: rest) (hd : decode c.code g.pc = .ok (.bastore, 1)) :
    ∃ T' h', Stand p l e R s m args below meth c T' (locs ++ [⟨a, i⟩]) cells slots ∧ T'.heap = h' ∧ Wr h h' a i (.int (x.toInt8.toInt32)) ∧ own_AI Z h' a .byte n (own_upd f i (x.toInt8.toInt32)) ∧ ∀ target, Steps p.tables e below (T'.setTop { g with pc := g.pc + 1, stack := rest }) target → Steps p.tables e below (T.setTop g) target := by
  obtain ⟨cl, Ar, h1, -⟩ := own_ldF A hj hi rfl
  obtain ⟨T', h', X', e', W, st⟩ := stB X hx hZ eT Ar h1 hg hs hd
  rw [(own_idx hj).2] at X' W
  exact ⟨T', h', X', e', W, A.wr hi W, st⟩
theorem own_stZ (X : Stand p l e R s m args below meth c T locs cells slots) (hx : p.tables.exec = Jvm.exec) (hZ : Z.Warmed39 s.vm) (eT : T.heap = h) {a : Addr} {n i : Nat} {f : Nat → Int32} {j x : Int32} (A : own_AI Z h a .boolean n f) (hj : j.toInt = i) (hi : i < n) {g : JFrame} (hg : g.method = m) {rest : List Value} (hs : g.stack = .int x :: .int j :: .ref a :: rest) (hd : decode c.code g.pc = .ok (.bastore, 1)) :
    ∃ T' h', Stand p l e R s m args below meth c T' (locs ++ [⟨a, i⟩]) cells slots ∧ T'.heap = h' ∧ Wr h h' a i (.int (x &&& 1)) ∧ own_AI Z h' a .boolean n (own_upd f i (x &&& 1)) ∧ ∀ target, Steps p.tables e below (T'.setTop { g with pc := g.pc + 1, stack := rest }) target → Steps p.tables e below (T.setTop g) target := by
  obtain ⟨cl, Ar, h1, -⟩ := own_ldF A hj hi rfl
  obtain ⟨T', h', X', e', W, st⟩ := stZ X hx hZ eT Ar h1 hg hs hd
  rw [(own_idx hj).2] at X' W
  exact ⟨T', h', X', e', W, A.wr hi W, st⟩
theorem own_stC (X : Stand p l e R s m args below meth c T locs cells slots) (hx : p.tables.exec = Jvm.exec) (hZ : Z.Warmed39 s.vm) (eT : T.heap = h) {a : Addr} {n i : Nat} {f : Nat → Int32} {j x : Int32} (A : own_AI Z h a .char n f) (hj : j.toInt = i) (hi : i < n) {g : JFrame} (hg : g.method = m) {rest : List Value} (hs : g.stack = .int x :: .int j :: .ref a :: rest) (hd : decode c.code g.pc = .ok (.castore, 1)) :
    ∃ T' h', Stand p l e R s m args below meth c T' (locs ++ [⟨a, i⟩]) cells slots ∧ T'.heap = h' ∧ Wr h h' a i (.int (x.toUInt32.toUInt16.toUInt32.toInt32)) ∧ own_AI Z h' a .char n (own_upd f i (x.toUInt32.toUInt16.toUInt32.toInt32)) ∧ ∀ target, Steps p.tables e below (T'.setTop { g with pc := g.pc + 1, stack := rest }) target → Steps p.tables e below (T.setTop g) target := by
  obtain ⟨cl, Ar, h1, -⟩ := own_ldF A hj hi rfl
  obtain ⟨T', h', X', e', W, st⟩ := stC X hx hZ eT Ar h1 hg hs hd
  rw [(own_idx hj).2] at X' W
  exact ⟨T', h', X', e', W, A.wr hi W, st⟩
theorem own_stJ (X : Stand p l e R s m args below meth c T locs cells slots) (hx : p.tables.exec = Jvm.exec) (hZ : Z.Warmed39 s.vm) (eT : T.heap = h) {a : Addr} {n i : Nat} {f : Nat → Int64} {j : Int32} {x : Int64} (A : own_AL Z h a n f) (hj : j.toInt = i) (hi : i < n) {g : JFrame} (hg : g.method = m) {rest : List Value} (hs : g.stack = .long x :: .int j :: .ref a :: rest) (hd : decode c.code g.pc = .ok (.lastore, 1)) :
    ∃ T' h', Stand p l e R s m args below meth c T' (locs ++ [⟨a, i⟩]) cells slots ∧ T'.heap = h' ∧ Wr h h' a i (.long x) ∧ own_AL Z h' a n (own_upd f i x) ∧ ∀ target, Steps p.tables e below (T'.setTop { g with pc := g.pc + 1, stack := rest }) target → Steps p.tables e below (T.setTop g) target := by
  obtain ⟨cl, Ar, h1, -⟩ := own_ldF A hj hi rfl
  obtain ⟨T', h', X', e', W, st⟩ := stJ X hx hZ eT Ar h1 hg hs hd
  rw [(own_idx hj).2] at X' W
  exact ⟨T', h', X', e', W, A.wr hi W, st⟩
theorem own_newF {a : Addr} {cA : ClassId} {ty : FieldType} {n : Int32} {i : Nat} (hn : n.toInt = i) (A : Arr Z h a (newA cA ty n) ty) : own_AF Z h a ty i (fun _ => defaultValue ty) := by
  obtain ⟨h1, h2⟩ := own_idx hn
  have := n.toInt_lt
  refine ⟨by omega, _, A, by rw [sz_new, h2], fun j hj => ?_⟩
  simp [newA, h2, hj]
theorem own_newI {a : Addr} {cA : ClassId} {ty : FieldType} {n : Int32} {i : Nat} (hn : n.toInt = i) (A : Arr Z h a (newA cA ty n) ty) (hd : defaultValue ty = .int 0) : own_AI Z h a ty i (fun _ => 0) :=
  (own_newF hn A).congr fun _ _ => hd
theorem own_newL {a : Addr} {cA : ClassId} {n : Int32} {i : Nat} (hn : n.toInt = i) (A : Arr Z h a (newA cA .long n) .long) : own_AL Z h a i (fun _ => 0) :=
  (own_newF hn A).congr fun _ _ => rfl
theorem own_Sta.keep {C n d : String} {v : Value} {ws : List Addr} (F : Sta Z h C n d v) (K : Keep h h' ws) (q : ∀ x ∈ ws, ∀ cl : Cell, h[x]? = some cl → cl.vm.isStatics = false) : Sta Z h' C n d v := by
  obtain ⟨cf, i, k, f, st, cell, h1, h2, h3, h4, h5, h6, h7⟩ := F
  refine ⟨cf, i, k, f, st, cell, h1, h2, h3, h4, K.2.1 st cell h5 (fun q' => ?_), h6, h7⟩
  have := q st q' cell h5
  rw [h6] at this; cases this
theorem own_selP {args : Array Value} {C : String} {y y' : MethodName} (hcls : y'.cls = y.cls) (hs : (Jvm.Cond.selects C y' y').before args s = true) (hi' : (Jvm.Cond.instanceMethod y').before args s = true) (hp : (Jvm.Cond.privateMethod y).before args s = true) (hi : (Jvm.Cond.instanceMethod y).before args s = true) (hy : y.cls ≠ "java/lang/invoke/MethodHandle" ∧ y.cls ≠ "java/lang/invoke/VarHandle") : (Jvm.Cond.selects y.cls y y).before args s = true := by
  obtain ⟨mk, methM, hnamed, -⟩ := Cond.instanceMethod_spec hi'
  obtain ⟨kr, hk, hni⟩ := notFace_of_selects hs mk hnamed
  have hc := findClass_of_methodNamed hnamed
  rw [hcls] at hc
  exact selects_self_of_private hc hk hni (Cond.privateMethod_at hp) hi hy
end Own
theorem d1_0 : decode method_2_code 0 = .ok (.iload_n 0, 1) := by decide +kernel
theorem d1_1 : decode method_2_code 1 = .ok (.iload_n 1, 1) := by decide +kernel
theorem d1_2 : decode method_2_code 2 = .ok (.iconst 1, 1) := by decide +kernel
theorem d1_3 : decode method_2_code 3 = .ok (.isub, 1) := by decide +kernel
theorem d1_4 : decode method_2_code 4 = .ok (.if_icmp .ne 5, 3) := by decide +kernel
theorem d1_7 : decode method_2_code 7 = .ok (.iload_n 3, 1) := by decide +kernel
theorem d1_8 : decode method_2_code 8 = .ok (.ireturn, 1) := by decide +kernel
theorem d1_9 : decode method_2_code 9 = .ok (.iload_n 0, 1) := by decide +kernel
theorem d1_10 : decode method_2_code 10 = .ok (.iload 4, 2) := by decide +kernel
theorem d1_12 : decode method_2_code 12 = .ok (.if_icmp .ne 6, 3) := by decide +kernel
theorem d1_15 : decode method_2_code 15 = .ok (.iload 5, 2) := by decide +kernel
theorem d1_17 : decode method_2_code 17 = .ok (.ireturn, 1) := by decide +kernel
theorem d1_18 : decode method_2_code 18 = .ok (.iload_n 0, 1) := by decide +kernel
theorem d1_19 : decode method_2_code 19 = .ok (.iload_n 1, 1) := by decide +kernel
theorem d1_20 : decode method_2_code 20 = .ok (.if_icmp .lt 6, 3) := by decide +kernel
theorem d1_23 : decode method_2_code 23 = .ok (.iload 7, 2) := by decide +kernel
theorem d1_25 : decode method_2_code 25 = .ok (.ireturn, 1) := by decide +kernel
theorem d1_26 : decode method_2_code 26 = .ok (.iload_n 2, 1) := by decide +kernel
theorem d1_27 : decode method_2_code 27 = .ok (.iconst 1, 1) := by decide +kernel
theorem d1_28 : decode method_2_code 28 = .ok (.if_icmp .lt 18, 3) := by decide +kernel
theorem d1_31 : decode method_2_code 31 = .ok (.iload_n 2, 1) := by decide +kernel
theorem d1_32 : decode method_2_code 32 = .ok (.bipush 16, 2) := by decide +kernel
theorem d1_34 : decode method_2_code 34 = .ok (.if_icmp .gt 12, 3) := by decide +kernel
theorem d1_37 : decode method_2_code 37 = .ok (.iload_n 0, 1) := by decide +kernel
theorem d1_38 : decode method_2_code 38 = .ok (.iload_n 1, 1) := by decide +kernel
theorem d1_39 : decode method_2_code 39 = .ok (.iload_n 2, 1) := by decide +kernel
theorem d1_40 : decode method_2_code 40 = .ok (.isub, 1) := by decide +kernel
theorem d1_41 : decode method_2_code 41 = .ok (.if_icmp .lt 5, 3) := by decide +kernel
theorem d1_44 : decode method_2_code 44 = .ok (.iload_n 3, 1) := by decide +kernel
theorem d1_45 : decode method_2_code 45 = .ok (.ireturn, 1) := by decide +kernel
theorem d1_46 : decode method_2_code 46 = .ok (.iload 6, 2) := by decide +kernel
theorem d1_48 : decode method_2_code 48 = .ok (.ireturn, 1) := by decide +kernel
theorem pn_1 : plainName "com/example/abak/abak/format/Aes256PaddingPinLaw" = true := by first | (simp [plainName, overriddenIn]; done) | decide +kernel
theorem ef_1 (m : MethodId) (x0 : Int32) (x1 : Int32) (x2 : Int32) (x3 : Int32) (x4 : Int32) (x5 : Int32) (x6 : Int32) (x7 : Int32) : entryFrame m #[(.int x0), (.int x1), (.int x2), (.int x3), (.int x4), (.int x5), (.int x6), (.int x7)] 8 = mkF m 0 #[.val (.int x0), .val (.int x1), .val (.int x2), .val (.int x3), .val (.int x4), .val (.int x5), .val (.int x6), .val (.int x7)] [] := by first | (simp [entryFrame, mkF, argsToLocals, Value.category]; done) | rfl
def own_cell (i : Int32) (en : Int32) (w : Int32) (pb : Int32) (kk : Int32) (vb : Int32) (fb : Int32) (gb : Int32) : Int32 := (if i = (en - (1 : Int32)) then (nar .byte pb) else (if i = kk then (nar .byte vb) else (if i < en then (if w < (1 : Int32) then (nar .byte fb) else (if (16 : Int32) < w then (nar .byte fb) else (if i < (en - w) then (nar .byte fb) else (nar .byte pb)))) else (nar .byte gb))))
theorem own_eq_own_cell (i : Int32) (en : Int32) (w : Int32) (pb : Int32) (kk : Int32) (vb : Int32) (fb : Int32) (gb : Int32) : own_cell i en w pb kk vb fb gb = (if i = (en - (1 : Int32)) then (nar .byte pb) else (if i = kk then (nar .byte vb) else (if i < en then (if w < (1 : Int32) then (nar .byte fb) else (if (16 : Int32) < w then (nar .byte fb) else (if i < (en - w) then (nar .byte fb) else (nar .byte pb)))) else (nar .byte gb)))) := rfl
def Q1 (Z : State) (i : Int32) (en : Int32) (w : Int32) (pb : Int32) (kk : Int32) (vb : Int32) (fb : Int32) (gb : Int32) (h0 : Heap) (n0 : Nat) (rv_ : Option Value) (h : Heap) (LL_ : List Loc) : Prop := rv_ = some (.int (own_cell i en w pb kk vb fb gb)) ∧ Fr n0 LL_ ∧ h = h0
set_option maxRecDepth 65536 in
set_option maxHeartbeats 40000000 in
theorem rm1 (l : Launch) (Z : State) (a0 : Array Value) (hw : ∀ d ∈ tables_1, d.before a0 Z = true) (ws : List Jvm.Cond) (i : Int32) (en : Int32) (w : Int32) (pb : Int32) (kk : Int32) (vb : Int32) (fb : Int32) (gb : Int32) (h0 : Heap) (n0 : Nat) :
    MetFree l (⟨"com/example/abak/abak/format/Aes256PaddingPinLaw", "cell", "(IIIBIBBB)B"⟩ : MethodName) (head1 (Jvm.Cond.code (⟨"com/example/abak/abak/format/Aes256PaddingPinLaw", "cell", "(IIIBIBBB)B"⟩ : MethodName) method_2_code 8 (some .byte) :: ws) ({ frames := 0, cells := 0, slots := 0, locals := 0 } : Room)) (fun aa UU => aa = #[(.int i), (.int en), (.int w), (.int pb), (.int kk), (.int vb), (.int fb), (.int gb)] ∧ Z.Warmed39 UU.vm ∧ UU.heap = h0) (fun _ _ _ _ _ => True) (fun _ UU oo UV => ∃ vv LL, oo = .returned vv ∧ Q1 Z i en w pb kk vb fb gb h0 n0 vv UV.heap LL ∧ FrameEnd UU oo UV LL ({ frames := 0, cells := 0, slots := 0, locals := 0 } : Room).cells ({ frames := 0, cells := 0, slots := 0, locals := 0 } : Room).slots) := by
  refine MetFree.of_bodySF (plainFor_of_name pn_1) hisR ?_
  intro p e s m args below meth c s₁ Bd hml0 hP hK
  obtain ⟨rfl, hZ, hh⟩ := hP
  have hx := Bd.exec
  have hby := Bd.bytes
  have hml : c.maxLocals = 8 := hml0
  have hown : s.vm.findClass "com/example/abak/abak/format/Aes256PaddingPinLaw" = some m.cls := findClass_of_methodNamed Bd.named
  have hnm := (name_of_methodNamed Bd.named Bd.method).1
  have X0 : Stand p l e ({ frames := 0, cells := 0, slots := 0, locals := 0 } : Room) s m #[(.int i), (.int en), (.int w), (.int pb), (.int kk), (.int vb), (.int fb), (.int gb)] below meth c s₁ [] 0 0 := Stand.of_body Bd
  have e0 : s₁.heap = h0 := by rw [← hh, Bd.state]; rfl
  have N0 := Fr.nil n0
  have k0 : ∀ tg_, Steps p.tables e below (s₁.setTop (mkF m 0 #[.val (.int i), .val (.int en), .val (.int w), .val (.int pb), .val (.int kk), .val (.int vb), .val (.int fb), .val (.int gb)] [])) tg_ → Steps p.tables e below (s₁.setTop (entryFrame m #[(.int i), (.int en), (.int w), (.int pb), (.int kk), (.int vb), (.int fb), (.int gb)] 8)) tg_ := fun tg_ k => castTop (ef_1 m i en w pb kk vb fb gb) k
  have k1 : ∀ tg_, Steps p.tables e below (s₁.setTop (mkF m 4 #[.val (.int i), .val (.int en), .val (.int w), .val (.int pb), .val (.int kk), .val (.int vb), .val (.int fb), .val (.int gb)] [(.int (en - (1 : Int32))), (.int i)])) tg_ → Steps p.tables e below (s₁.setTop (entryFrame m #[(.int i), (.int en), (.int w), (.int pb), (.int kk), (.int vb), (.int fb), (.int gb)] 8)) tg_ := by
    intro tg_ kt
    refine k0 tg_ ?_
    refine XS.iloadN X0.here hx rfl (hb hby d1_0) rfl ?_
    show Steps p.tables e below (s₁.setTop (mkF m 1 #[.val (.int i), .val (.int en), .val (.int w), .val (.int pb), .val (.int kk), .val (.int vb), .val (.int fb), .val (.int gb)] [(.int i)])) _
    refine XS.iloadN X0.here hx rfl (hb hby d1_1) rfl ?_
    show Steps p.tables e below (s₁.setTop (mkF m 2 #[.val (.int i), .val (.int en), .val (.int w), .val (.int pb), .val (.int kk), .val (.int vb), .val (.int fb), .val (.int gb)] [(.int en), (.int i)])) _
    refine XS.iconst X0.here hx rfl (hb hby d1_2) ?_
    show Steps p.tables e below (s₁.setTop (mkF m 3 #[.val (.int i), .val (.int en), .val (.int w), .val (.int pb), .val (.int kk), .val (.int vb), .val (.int fb), .val (.int gb)] [(.int (1 : Int32)), (.int en), (.int i)])) _
    refine XS.isub X0.here hx rfl (hb hby d1_3) rfl ?_
    show Steps p.tables e below (s₁.setTop (mkF m 4 #[.val (.int i), .val (.int en), .val (.int w), .val (.int pb), .val (.int kk), .val (.int vb), .val (.int fb), .val (.int gb)] [(.int (en - (1 : Int32))), (.int i)])) _
    exact kt
  by_cases hc4_2 : i = (en - (1 : Int32))
  · have k3 : ∀ tg_, Steps p.tables e below (s₁.setTop (mkF m 8 #[.val (.int i), .val (.int en), .val (.int w), .val (.int pb), .val (.int kk), .val (.int vb), .val (.int fb), .val (.int gb)] [(.int pb)])) tg_ → Steps p.tables e below (s₁.setTop (entryFrame m #[(.int i), (.int en), (.int w), (.int pb), (.int kk), (.int vb), (.int fb), (.int gb)] 8)) tg_ := by
      intro tg_ kt
      refine k1 tg_ ?_
      refine XS.icmpNo X0.here hx rfl (hb hby d1_4) rfl (teq hc4_2).2 ?_
      show Steps p.tables e below (s₁.setTop (mkF m 7 #[.val (.int i), .val (.int en), .val (.int w), .val (.int pb), .val (.int kk), .val (.int vb), .val (.int fb), .val (.int gb)] [])) _
      refine XS.iloadN X0.here hx rfl (hb hby d1_7) rfl ?_
      show Steps p.tables e below (s₁.setTop (mkF m 8 #[.val (.int i), .val (.int en), .val (.int w), .val (.int pb), .val (.int kk), .val (.int vb), .val (.int fb), .val (.int gb)] [(.int pb)])) _
      exact kt
    obtain ⟨fs, hr, hrun, hended, hW, hsame⟩ := X0.leave (v := some (.int (nar .byte pb))) (fun h => by rw [Bd.returns] at h; cases h)
    refine ⟨_, _, k3 _ (retN X0 hx (t := .byte) Bd.returns (by simp) (hb hby d1_8) hr), hrun, hended, _, _, rfl, ?_, ⟨_, rfl⟩, hW, hsame.mono (by decide) (by decide)⟩
    show Q1 Z i en w pb kk vb fb gb h0 n0 _ s₁.heap _
    rw [e0]
    exact ⟨(by rw [own_eq_own_cell]; rw [if_pos hc4_2]), N0, rfl⟩
  · have k4 : ∀ tg_, Steps p.tables e below (s₁.setTop (mkF m 12 #[.val (.int i), .val (.int en), .val (.int w), .val (.int pb), .val (.int kk), .val (.int vb), .val (.int fb), .val (.int gb)] [(.int kk), (.int i)])) tg_ → Steps p.tables e below (s₁.setTop (entryFrame m #[(.int i), (.int en), (.int w), (.int pb), (.int kk), (.int vb), (.int fb), (.int gb)] 8)) tg_ := by
      intro tg_ kt
      refine k1 tg_ ?_
      refine XS.icmpYes X0.here hx rfl (pc0 := 4) (pc' := 9) rfl (hb hby d1_4) rfl (feq hc4_2).2 (by decide) (by decide) ?_
      show Steps p.tables e below (s₁.setTop (mkF m 9 #[.val (.int i), .val (.int en), .val (.int w), .val (.int pb), .val (.int kk), .val (.int vb), .val (.int fb), .val (.int gb)] [])) _
      refine XS.iloadN X0.here hx rfl (hb hby d1_9) rfl ?_
      show Steps p.tables e below (s₁.setTop (mkF m 10 #[.val (.int i), .val (.int en), .val (.int w), .val (.int pb), .val (.int kk), .val (.int vb), .val (.int fb), .val (.int gb)] [(.int i)])) _
      refine XS.iload X0.here hx rfl (hb hby d1_10) rfl ?_
      show Steps p.tables e below (s₁.setTop (mkF m 12 #[.val (.int i), .val (.int en), .val (.int w), .val (.int pb), .val (.int kk), .val (.int vb), .val (.int fb), .val (.int gb)] [(.int kk), (.int i)])) _
      exact kt
    by_cases hc12_5 : i = kk
    · have k6 : ∀ tg_, Steps p.tables e below (s₁.setTop (mkF m 17 #[.val (.int i), .val (.int en), .val (.int w), .val (.int pb), .val (.int kk), .val (.int vb), .val (.int fb), .val (.int gb)] [(.int vb)])) tg_ → Steps p.tables e below (s₁.setTop (entryFrame m #[(.int i), (.int en), (.int w), (.int pb), (.int kk), (.int vb), (.int fb), (.int gb)] 8)) tg_ := by
        intro tg_ kt
        refine k4 tg_ ?_
        refine XS.icmpNo X0.here hx rfl (hb hby d1_12) rfl (teq hc12_5).2 ?_
        show Steps p.tables e below (s₁.setTop (mkF m 15 #[.val (.int i), .val (.int en), .val (.int w), .val (.int pb), .val (.int kk), .val (.int vb), .val (.int fb), .val (.int gb)] [])) _
        refine XS.iload X0.here hx rfl (hb hby d1_15) rfl ?_
        show Steps p.tables e below (s₁.setTop (mkF m 17 #[.val (.int i), .val (.int en), .val (.int w), .val (.int pb), .val (.int kk), .val (.int vb), .val (.int fb), .val (.int gb)] [(.int vb)])) _
        exact kt
      obtain ⟨fs, hr, hrun, hended, hW, hsame⟩ := X0.leave (v := some (.int (nar .byte vb))) (fun h => by rw [Bd.returns] at h; cases h)
      refine ⟨_, _, k6 _ (retN X0 hx (t := .byte) Bd.returns (by simp) (hb hby d1_17) hr), hrun, hended, _, _, rfl, ?_, ⟨_, rfl⟩, hW, hsame.mono (by decide) (by decide)⟩
      show Q1 Z i en w pb kk vb fb gb h0 n0 _ s₁.heap _
      rw [e0]
      exact ⟨(by rw [own_eq_own_cell]; rw [if_neg hc4_2, if_pos hc12_5]), N0, rfl⟩
    · have k7 : ∀ tg_, Steps p.tables e below (s₁.setTop (mkF m 20 #[.val (.int i), .val (.int en), .val (.int w), .val (.int pb), .val (.int kk), .val (.int vb), .val (.int fb), .val (.int gb)] [(.int en), (.int i)])) tg_ → Steps p.tables e below (s₁.setTop (entryFrame m #[(.int i), (.int en), (.int w), (.int pb), (.int kk), (.int vb), (.int fb), (.int gb)] 8)) tg_ := by
        intro tg_ kt
        refine k4 tg_ ?_
        refine XS.icmpYes X0.here hx rfl (pc0 := 12) (pc' := 18) rfl (hb hby d1_12) rfl (feq hc12_5).2 (by decide) (by decide) ?_
        show Steps p.tables e below (s₁.setTop (mkF m 18 #[.val (.int i), .val (.int en), .val (.int w), .val (.int pb), .val (.int kk), .val (.int vb), .val (.int fb), .val (.int gb)] [])) _
        refine XS.iloadN X0.here hx rfl (hb hby d1_18) rfl ?_
        show Steps p.tables e below (s₁.setTop (mkF m 19 #[.val (.int i), .val (.int en), .val (.int w), .val (.int pb), .val (.int kk), .val (.int vb), .val (.int fb), .val (.int gb)] [(.int i)])) _
        refine XS.iloadN X0.here hx rfl (hb hby d1_19) rfl ?_
        show Steps p.tables e below (s₁.setTop (mkF m 20 #[.val (.int i), .val (.int en), .val (.int w), .val (.int pb), .val (.int kk), .val (.int vb), .val (.int fb), .val (.int gb)] [(.int en), (.int i)])) _
        exact kt
      by_cases hc20_8 : i < en
      · have k9 : ∀ tg_, Steps p.tables e below (s₁.setTop (mkF m 28 #[.val (.int i), .val (.int en), .val (.int w), .val (.int pb), .val (.int kk), .val (.int vb), .val (.int fb), .val (.int gb)] [(.int (1 : Int32)), (.int w)])) tg_ → Steps p.tables e below (s₁.setTop (entryFrame m #[(.int i), (.int en), (.int w), (.int pb), (.int kk), (.int vb), (.int fb), (.int gb)] 8)) tg_ := by
          intro tg_ kt
          refine k7 tg_ ?_
          refine XS.icmpYes X0.here hx rfl (pc0 := 20) (pc' := 26) rfl (hb hby d1_20) rfl (tlt hc20_8).1 (by decide) (by decide) ?_
          show Steps p.tables e below (s₁.setTop (mkF m 26 #[.val (.int i), .val (.int en), .val (.int w), .val (.int pb), .val (.int kk), .val (.int vb), .val (.int fb), .val (.int gb)] [])) _
          refine XS.iloadN X0.here hx rfl (hb hby d1_26) rfl ?_
          show Steps p.tables e below (s₁.setTop (mkF m 27 #[.val (.int i), .val (.int en), .val (.int w), .val (.int pb), .val (.int kk), .val (.int vb), .val (.int fb), .val (.int gb)] [(.int w)])) _
          refine XS.iconst X0.here hx rfl (hb hby d1_27) ?_
          show Steps p.tables e below (s₁.setTop (mkF m 28 #[.val (.int i), .val (.int en), .val (.int w), .val (.int pb), .val (.int kk), .val (.int vb), .val (.int fb), .val (.int gb)] [(.int (1 : Int32)), (.int w)])) _
          exact kt
        by_cases hc28_10 : w < (1 : Int32)
        · have k11 : ∀ tg_, Steps p.tables e below (s₁.setTop (mkF m 48 #[.val (.int i), .val (.int en), .val (.int w), .val (.int pb), .val (.int kk), .val (.int vb), .val (.int fb), .val (.int gb)] [(.int fb)])) tg_ → Steps p.tables e below (s₁.setTop (entryFrame m #[(.int i), (.int en), (.int w), (.int pb), (.int kk), (.int vb), (.int fb), (.int gb)] 8)) tg_ := by
            intro tg_ kt
            refine k9 tg_ ?_
            refine XS.icmpYes X0.here hx rfl (pc0 := 28) (pc' := 46) rfl (hb hby d1_28) rfl (tlt hc28_10).1 (by decide) (by decide) ?_
            show Steps p.tables e below (s₁.setTop (mkF m 46 #[.val (.int i), .val (.int en), .val (.int w), .val (.int pb), .val (.int kk), .val (.int vb), .val (.int fb), .val (.int gb)] [])) _
            refine XS.iload X0.here hx rfl (hb hby d1_46) rfl ?_
            show Steps p.tables e below (s₁.setTop (mkF m 48 #[.val (.int i), .val (.int en), .val (.int w), .val (.int pb), .val (.int kk), .val (.int vb), .val (.int fb), .val (.int gb)] [(.int fb)])) _
            exact kt
          obtain ⟨fs, hr, hrun, hended, hW, hsame⟩ := X0.leave (v := some (.int (nar .byte fb))) (fun h => by rw [Bd.returns] at h; cases h)
          refine ⟨_, _, k11 _ (retN X0 hx (t := .byte) Bd.returns (by simp) (hb hby d1_48) hr), hrun, hended, _, _, rfl, ?_, ⟨_, rfl⟩, hW, hsame.mono (by decide) (by decide)⟩
          show Q1 Z i en w pb kk vb fb gb h0 n0 _ s₁.heap _
          rw [e0]
          exact ⟨(by rw [own_eq_own_cell]; rw [if_neg hc4_2, if_neg hc12_5, if_pos hc20_8, if_pos hc28_10]), N0, rfl⟩
        · have k12 : ∀ tg_, Steps p.tables e below (s₁.setTop (mkF m 34 #[.val (.int i), .val (.int en), .val (.int w), .val (.int pb), .val (.int kk), .val (.int vb), .val (.int fb), .val (.int gb)] [(.int (16 : Int32)), (.int w)])) tg_ → Steps p.tables e below (s₁.setTop (entryFrame m #[(.int i), (.int en), (.int w), (.int pb), (.int kk), (.int vb), (.int fb), (.int gb)] 8)) tg_ := by
            intro tg_ kt
            refine k9 tg_ ?_
            refine XS.icmpNo X0.here hx rfl (hb hby d1_28) rfl (flt hc28_10).1 ?_
            show Steps p.tables e below (s₁.setTop (mkF m 31 #[.val (.int i), .val (.int en), .val (.int w), .val (.int pb), .val (.int kk), .val (.int vb), .val (.int fb), .val (.int gb)] [])) _
            refine XS.iloadN X0.here hx rfl (hb hby d1_31) rfl ?_
            show Steps p.tables e below (s₁.setTop (mkF m 32 #[.val (.int i), .val (.int en), .val (.int w), .val (.int pb), .val (.int kk), .val (.int vb), .val (.int fb), .val (.int gb)] [(.int w)])) _
            refine XS.bipush X0.here hx rfl (hb hby d1_32) ?_
            show Steps p.tables e below (s₁.setTop (mkF m 34 #[.val (.int i), .val (.int en), .val (.int w), .val (.int pb), .val (.int kk), .val (.int vb), .val (.int fb), .val (.int gb)] [(.int (16 : Int32)), (.int w)])) _
            exact kt
          by_cases hc34_13 : (16 : Int32) < w
          · have k14 : ∀ tg_, Steps p.tables e below (s₁.setTop (mkF m 48 #[.val (.int i), .val (.int en), .val (.int w), .val (.int pb), .val (.int kk), .val (.int vb), .val (.int fb), .val (.int gb)] [(.int fb)])) tg_ → Steps p.tables e below (s₁.setTop (entryFrame m #[(.int i), (.int en), (.int w), (.int pb), (.int kk), (.int vb), (.int fb), (.int gb)] 8)) tg_ := by
              intro tg_ kt
              refine k12 tg_ ?_
              refine XS.icmpYes X0.here hx rfl (pc0 := 34) (pc' := 46) rfl (hb hby d1_34) rfl (tlt hc34_13).2.2.1 (by decide) (by decide) ?_
              show Steps p.tables e below (s₁.setTop (mkF m 46 #[.val (.int i), .val (.int en), .val (.int w), .val (.int pb), .val (.int kk), .val (.int vb), .val (.int fb), .val (.int gb)] [])) _
              refine XS.iload X0.here hx rfl (hb hby d1_46) rfl ?_
              show Steps p.tables e below (s₁.setTop (mkF m 48 #[.val (.int i), .val (.int en), .val (.int w), .val (.int pb), .val (.int kk), .val (.int vb), .val (.int fb), .val (.int gb)] [(.int fb)])) _
              exact kt
            obtain ⟨fs, hr, hrun, hended, hW, hsame⟩ := X0.leave (v := some (.int (nar .byte fb))) (fun h => by rw [Bd.returns] at h; cases h)
            refine ⟨_, _, k14 _ (retN X0 hx (t := .byte) Bd.returns (by simp) (hb hby d1_48) hr), hrun, hended, _, _, rfl, ?_, ⟨_, rfl⟩, hW, hsame.mono (by decide) (by decide)⟩
            show Q1 Z i en w pb kk vb fb gb h0 n0 _ s₁.heap _
            rw [e0]
            exact ⟨(by rw [own_eq_own_cell]; rw [if_neg hc4_2, if_neg hc12_5, if_pos hc20_8, if_neg hc28_10, if_pos hc34_13]), N0, rfl⟩
          · have k15 : ∀ tg_, Steps p.tables e below (s₁.setTop (mkF m 41 #[.val (.int i), .val (.int en), .val (.int w), .val (.int pb), .val (.int kk), .val (.int vb), .val (.int fb), .val (.int gb)] [(.int (en - w)), (.int i)])) tg_ → Steps p.tables e below (s₁.setTop (entryFrame m #[(.int i), (.int en), (.int w), (.int pb), (.int kk), (.int vb), (.int fb), (.int gb)] 8)) tg_ := by
              intro tg_ kt
              refine k12 tg_ ?_
              refine XS.icmpNo X0.here hx rfl (hb hby d1_34) rfl (flt hc34_13).2.2.1 ?_
              show Steps p.tables e below (s₁.setTop (mkF m 37 #[.val (.int i), .val (.int en), .val (.int w), .val (.int pb), .val (.int kk), .val (.int vb), .val (.int fb), .val (.int gb)] [])) _
              refine XS.iloadN X0.here hx rfl (hb hby d1_37) rfl ?_
              show Steps p.tables e below (s₁.setTop (mkF m 38 #[.val (.int i), .val (.int en), .val (.int w), .val (.int pb), .val (.int kk), .val (.int vb), .val (.int fb), .val (.int gb)] [(.int i)])) _
              refine XS.iloadN X0.here hx rfl (hb hby d1_38) rfl ?_
              show Steps p.tables e below (s₁.setTop (mkF m 39 #[.val (.int i), .val (.int en), .val (.int w), .val (.int pb), .val (.int kk), .val (.int vb), .val (.int fb), .val (.int gb)] [(.int en), (.int i)])) _
              refine XS.iloadN X0.here hx rfl (hb hby d1_39) rfl ?_
              show Steps p.tables e below (s₁.setTop (mkF m 40 #[.val (.int i), .val (.int en), .val (.int w), .val (.int pb), .val (.int kk), .val (.int vb), .val (.int fb), .val (.int gb)] [(.int w), (.int en), (.int i)])) _
              refine XS.isub X0.here hx rfl (hb hby d1_40) rfl ?_
              show Steps p.tables e below (s₁.setTop (mkF m 41 #[.val (.int i), .val (.int en), .val (.int w), .val (.int pb), .val (.int kk), .val (.int vb), .val (.int fb), .val (.int gb)] [(.int (en - w)), (.int i)])) _
              exact kt
            by_cases hc41_16 : i < (en - w)
            · have k17 : ∀ tg_, Steps p.tables e below (s₁.setTop (mkF m 48 #[.val (.int i), .val (.int en), .val (.int w), .val (.int pb), .val (.int kk), .val (.int vb), .val (.int fb), .val (.int gb)] [(.int fb)])) tg_ → Steps p.tables e below (s₁.setTop (entryFrame m #[(.int i), (.int en), (.int w), (.int pb), (.int kk), (.int vb), (.int fb), (.int gb)] 8)) tg_ := by
                intro tg_ kt
                refine k15 tg_ ?_
                refine XS.icmpYes X0.here hx rfl (pc0 := 41) (pc' := 46) rfl (hb hby d1_41) rfl (tlt hc41_16).1 (by decide) (by decide) ?_
                show Steps p.tables e below (s₁.setTop (mkF m 46 #[.val (.int i), .val (.int en), .val (.int w), .val (.int pb), .val (.int kk), .val (.int vb), .val (.int fb), .val (.int gb)] [])) _
                refine XS.iload X0.here hx rfl (hb hby d1_46) rfl ?_
                show Steps p.tables e below (s₁.setTop (mkF m 48 #[.val (.int i), .val (.int en), .val (.int w), .val (.int pb), .val (.int kk), .val (.int vb), .val (.int fb), .val (.int gb)] [(.int fb)])) _
                exact kt
              obtain ⟨fs, hr, hrun, hended, hW, hsame⟩ := X0.leave (v := some (.int (nar .byte fb))) (fun h => by rw [Bd.returns] at h; cases h)
              refine ⟨_, _, k17 _ (retN X0 hx (t := .byte) Bd.returns (by simp) (hb hby d1_48) hr), hrun, hended, _, _, rfl, ?_, ⟨_, rfl⟩, hW, hsame.mono (by decide) (by decide)⟩
              show Q1 Z i en w pb kk vb fb gb h0 n0 _ s₁.heap _
              rw [e0]
              exact ⟨(by rw [own_eq_own_cell]; rw [if_neg hc4_2, if_neg hc12_5, if_pos hc20_8, if_neg hc28_10, if_neg hc34_13, if_pos hc41_16]), N0, rfl⟩
            · have k18 : ∀ tg_, Steps p.tables e below (s₁.setTop (mkF m 45 #[.val (.int i), .val (.int en), .val (.int w), .val (.int pb), .val (.int kk), .val (.int vb), .val (.int fb), .val (.int gb)] [(.int pb)])) tg_ → Steps p.tables e below (s₁.setTop (entryFrame m #[(.int i), (.int en), (.int w), (.int pb), (.int kk), (.int vb), (.int fb), (.int gb)] 8)) tg_ := by
                intro tg_ kt
                refine k15 tg_ ?_
                refine XS.icmpNo X0.here hx rfl (hb hby d1_41) rfl (flt hc41_16).1 ?_
                show Steps p.tables e below (s₁.setTop (mkF m 44 #[.val (.int i), .val (.int en), .val (.int w), .val (.int pb), .val (.int kk), .val (.int vb), .val (.int fb), .val (.int gb)] [])) _
                refine XS.iloadN X0.here hx rfl (hb hby d1_44) rfl ?_
                show Steps p.tables e below (s₁.setTop (mkF m 45 #[.val (.int i), .val (.int en), .val (.int w), .val (.int pb), .val (.int kk), .val (.int vb), .val (.int fb), .val (.int gb)] [(.int pb)])) _
                exact kt
              obtain ⟨fs, hr, hrun, hended, hW, hsame⟩ := X0.leave (v := some (.int (nar .byte pb))) (fun h => by rw [Bd.returns] at h; cases h)
              refine ⟨_, _, k18 _ (retN X0 hx (t := .byte) Bd.returns (by simp) (hb hby d1_45) hr), hrun, hended, _, _, rfl, ?_, ⟨_, rfl⟩, hW, hsame.mono (by decide) (by decide)⟩
              show Q1 Z i en w pb kk vb fb gb h0 n0 _ s₁.heap _
              rw [e0]
              exact ⟨(by rw [own_eq_own_cell]; rw [if_neg hc4_2, if_neg hc12_5, if_pos hc20_8, if_neg hc28_10, if_neg hc34_13, if_neg hc41_16]), N0, rfl⟩
      · have k19 : ∀ tg_, Steps p.tables e below (s₁.setTop (mkF m 25 #[.val (.int i), .val (.int en), .val (.int w), .val (.int pb), .val (.int kk), .val (.int vb), .val (.int fb), .val (.int gb)] [(.int gb)])) tg_ → Steps p.tables e below (s₁.setTop (entryFrame m #[(.int i), (.int en), (.int w), (.int pb), (.int kk), (.int vb), (.int fb), (.int gb)] 8)) tg_ := by
          intro tg_ kt
          refine k7 tg_ ?_
          refine XS.icmpNo X0.here hx rfl (hb hby d1_20) rfl (flt hc20_8).1 ?_
          show Steps p.tables e below (s₁.setTop (mkF m 23 #[.val (.int i), .val (.int en), .val (.int w), .val (.int pb), .val (.int kk), .val (.int vb), .val (.int fb), .val (.int gb)] [])) _
          refine XS.iload X0.here hx rfl (hb hby d1_23) rfl ?_
          show Steps p.tables e below (s₁.setTop (mkF m 25 #[.val (.int i), .val (.int en), .val (.int w), .val (.int pb), .val (.int kk), .val (.int vb), .val (.int fb), .val (.int gb)] [(.int gb)])) _
          exact kt
        obtain ⟨fs, hr, hrun, hended, hW, hsame⟩ := X0.leave (v := some (.int (nar .byte gb))) (fun h => by rw [Bd.returns] at h; cases h)
        refine ⟨_, _, k19 _ (retN X0 hx (t := .byte) Bd.returns (by simp) (hb hby d1_25) hr), hrun, hended, _, _, rfl, ?_, ⟨_, rfl⟩, hW, hsame.mono (by decide) (by decide)⟩
        show Q1 Z i en w pb kk vb fb gb h0 n0 _ s₁.heap _
        rw [e0]
        exact ⟨(by rw [own_eq_own_cell]; rw [if_neg hc4_2, if_neg hc12_5, if_neg hc20_8]), N0, rfl⟩

def own_all (f : Nat → Int32) (lo e1 : Nat) : Prop := ∀ i, i < e1 → ¬ i < lo → f i = f e1
def own_pad (f : Nat → Int32) (e1 : Nat) (b : Bool) : Int32 := if (f e1 &&& (255 : Int32)) < (1 : Int32) then (-1 : Int32) else if (16 : Int32) < (f e1 &&& (255 : Int32)) then (-1 : Int32) else if b = true then (f e1 &&& (255 : Int32)) else (-1 : Int32)

theorem d2_0 : decode prog_3_method_5_code 0 = .ok (.aload_n 0, 1) := by decide +kernel
theorem d2_1 : decode prog_3_method_5_code 1 = .ok (.iload_n 1, 1) := by decide +kernel
theorem d2_2 : decode prog_3_method_5_code 2 = .ok (.iconst 1, 1) := by decide +kernel
theorem d2_3 : decode prog_3_method_5_code 3 = .ok (.isub, 1) := by decide +kernel
theorem d2_4 : decode prog_3_method_5_code 4 = .ok (.baload, 1) := by decide +kernel
theorem d2_5 : decode prog_3_method_5_code 5 = .ok (.sipush 255, 3) := by decide +kernel
theorem d2_8 : decode prog_3_method_5_code 8 = .ok (.iand, 1) := by decide +kernel
theorem d2_9 : decode prog_3_method_5_code 9 = .ok (.istore_n 2, 1) := by decide +kernel
theorem d2_10 : decode prog_3_method_5_code 10 = .ok (.iload_n 2, 1) := by decide +kernel
theorem d2_11 : decode prog_3_method_5_code 11 = .ok (.iconst 1, 1) := by decide +kernel
theorem d2_12 : decode prog_3_method_5_code 12 = .ok (.if_icmp .lt 9, 3) := by decide +kernel
theorem d2_15 : decode prog_3_method_5_code 15 = .ok (.iload_n 2, 1) := by decide +kernel
theorem d2_16 : decode prog_3_method_5_code 16 = .ok (.bipush 16, 2) := by decide +kernel
theorem d2_18 : decode prog_3_method_5_code 18 = .ok (.if_icmp .le 5, 3) := by decide +kernel
theorem d2_21 : decode prog_3_method_5_code 21 = .ok (.iconst (-1), 1) := by decide +kernel
theorem d2_22 : decode prog_3_method_5_code 22 = .ok (.ireturn, 1) := by decide +kernel
theorem d2_23 : decode prog_3_method_5_code 23 = .ok (.iload_n 1, 1) := by decide +kernel
theorem d2_24 : decode prog_3_method_5_code 24 = .ok (.iload_n 2, 1) := by decide +kernel
theorem d2_25 : decode prog_3_method_5_code 25 = .ok (.isub, 1) := by decide +kernel
theorem d2_26 : decode prog_3_method_5_code 26 = .ok (.istore_n 3, 1) := by decide +kernel
theorem d2_27 : decode prog_3_method_5_code 27 = .ok (.iload_n 3, 1) := by decide +kernel
theorem d2_28 : decode prog_3_method_5_code 28 = .ok (.iload_n 1, 1) := by decide +kernel
theorem d2_29 : decode prog_3_method_5_code 29 = .ok (.iconst 1, 1) := by decide +kernel
theorem d2_30 : decode prog_3_method_5_code 30 = .ok (.isub, 1) := by decide +kernel
theorem d2_31 : decode prog_3_method_5_code 31 = .ok (.if_icmp .ge 22, 3) := by decide +kernel
theorem d2_34 : decode prog_3_method_5_code 34 = .ok (.aload_n 0, 1) := by decide +kernel
theorem d2_35 : decode prog_3_method_5_code 35 = .ok (.iload_n 3, 1) := by decide +kernel
theorem d2_36 : decode prog_3_method_5_code 36 = .ok (.baload, 1) := by decide +kernel
theorem d2_37 : decode prog_3_method_5_code 37 = .ok (.aload_n 0, 1) := by decide +kernel
theorem d2_38 : decode prog_3_method_5_code 38 = .ok (.iload_n 1, 1) := by decide +kernel
theorem d2_39 : decode prog_3_method_5_code 39 = .ok (.iconst 1, 1) := by decide +kernel
theorem d2_40 : decode prog_3_method_5_code 40 = .ok (.isub, 1) := by decide +kernel
theorem d2_41 : decode prog_3_method_5_code 41 = .ok (.baload, 1) := by decide +kernel
theorem d2_42 : decode prog_3_method_5_code 42 = .ok (.if_icmp .eq 5, 3) := by decide +kernel
theorem d2_45 : decode prog_3_method_5_code 45 = .ok (.iconst (-1), 1) := by decide +kernel
theorem d2_46 : decode prog_3_method_5_code 46 = .ok (.ireturn, 1) := by decide +kernel
theorem d2_47 : decode prog_3_method_5_code 47 = .ok (.iinc 3 1, 3) := by decide +kernel
theorem d2_50 : decode prog_3_method_5_code 50 = .ok (.goto (-23), 3) := by decide +kernel
theorem d2_53 : decode prog_3_method_5_code 53 = .ok (.iload_n 2, 1) := by decide +kernel
theorem d2_54 : decode prog_3_method_5_code 54 = .ok (.ireturn, 1) := by decide +kernel
theorem pn_2 : plainName "com/example/abak/abak/format/Aes256" = true := by first | (simp [plainName, overriddenIn]; done) | decide +kernel
theorem ef_2 (m : MethodId) (x0 : Addr) (x1 : Int32) : entryFrame m #[(.ref x0), (.int x1)] 4 = mkF m 0 #[.val (.ref x0), .val (.int x1), .unset, .unset] [] := by first | (simp [entryFrame, mkF, argsToLocals, Value.category]; done) | rfl
def Q2 (Z : State) (a : Addr) (en : Int32) (e1 : Nat) (f : Nat → Int32) (b : Bool) (h0 : Heap) (n0 : Nat) (rv_ : Option Value) (h : Heap) (LL_ : List Loc) : Prop := rv_ = some (.int (own_pad f e1 b)) ∧ Fr n0 LL_ ∧ h = h0
set_option maxRecDepth 65536 in
set_option maxHeartbeats 40000000 in
theorem rm2 (l : Launch) (Z : State) (a0 : Array Value) (hw : ∀ d ∈ tables_1, d.before a0 Z = true) (ws : List Jvm.Cond) (a : Addr) (en : Int32) (e1 : Nat) (f : Nat → Int32) (b : Bool) (h0 : Heap) (n0 : Nat) (V_a : own_AI Z h0 a .byte 18 f) (hen : en.toInt = ((e1 + 1 : Nat) : Int)) (h15 : 15 ≤ e1) (h17 : e1 ≤ 17) (hbt : b = true ↔ (∀ i, i < e1 → ¬ (i : Int) < (e1 : Int) + 1 - (f e1 &&& (255 : Int32)).toInt → f i = f e1)) :
    MetFree l (⟨"com/example/abak/abak/format/Aes256", "padding", "([BI)I"⟩ : MethodName) (head1 (Jvm.Cond.code (⟨"com/example/abak/abak/format/Aes256", "padding", "([BI)I"⟩ : MethodName) prog_3_method_5_code 4 (some .int) :: ws) ({ frames := 0, cells := 0, slots := 0, locals := 0 } : Room)) (fun aa UU => aa = #[(.ref a), (.int en)] ∧ Z.Warmed39 UU.vm ∧ UU.heap = h0) (fun _ _ _ _ _ => True) (fun _ UU oo UV => ∃ vv LL, oo = .returned vv ∧ Q2 Z a en e1 f b h0 n0 vv UV.heap LL ∧ FrameEnd UU oo UV LL ({ frames := 0, cells := 0, slots := 0, locals := 0 } : Room).cells ({ frames := 0, cells := 0, slots := 0, locals := 0 } : Room).slots) := by
  refine MetFree.of_bodySF (plainFor_of_name pn_2) hisR ?_
  intro p e s m args below meth c s₁ Bd hml0 hP hK
  obtain ⟨rfl, hZ, hh⟩ := hP
  have hx := Bd.exec
  have hby := Bd.bytes
  have hml : c.maxLocals = 4 := hml0
  have hown : s.vm.findClass "com/example/abak/abak/format/Aes256" = some m.cls := findClass_of_methodNamed Bd.named
  have hnm := (name_of_methodNamed Bd.named Bd.method).1
  have X0 : Stand p l e ({ frames := 0, cells := 0, slots := 0, locals := 0 } : Room) s m #[(.ref a), (.int en)] below meth c s₁ [] 0 0 := Stand.of_body Bd
  have e0 : s₁.heap = h0 := by rw [← hh, Bd.state]; rfl
  have N0 := Fr.nil n0
  have k0 : ∀ tg_, Steps p.tables e below (s₁.setTop (mkF m 0 #[.val (.ref a), .val (.int en), .unset, .unset] [])) tg_ → Steps p.tables e below (s₁.setTop (entryFrame m #[(.ref a), (.int en)] 4)) tg_ := fun tg_ k => castTop (ef_2 m a en) k
  have he1 : (en - (1 : Int32)).toInt = ((e1 : Nat) : Int) := by
    have a := c_isub en 1
    have r := rng32 (en - 1)
    have o : (1 : Int32).toInt = 1 := by decide
    omega
  have k20 : ∀ tg_, Steps p.tables e below (s₁.setTop (mkF m 12 #[.val (.ref a), .val (.int en), .val (.int ((f e1) &&& (255 : Int32))), .unset] [(.int (1 : Int32)), (.int ((f e1) &&& (255 : Int32)))])) tg_ → Steps p.tables e below (s₁.setTop (entryFrame m #[(.ref a), (.int en)] 4)) tg_ := by
    intro tg_ kt
    refine k0 tg_ ?_
    refine XS.aloadN X0.here hx rfl (hb hby d2_0) rfl rfl ?_
    show Steps p.tables e below (s₁.setTop (mkF m 1 #[.val (.ref a), .val (.int en), .unset, .unset] [(.ref a)])) _
    refine XS.iloadN X0.here hx rfl (hb hby d2_1) rfl ?_
    show Steps p.tables e below (s₁.setTop (mkF m 2 #[.val (.ref a), .val (.int en), .unset, .unset] [(.int en), (.ref a)])) _
    refine XS.iconst X0.here hx rfl (hb hby d2_2) ?_
    show Steps p.tables e below (s₁.setTop (mkF m 3 #[.val (.ref a), .val (.int en), .unset, .unset] [(.int (1 : Int32)), (.int en), (.ref a)])) _
    refine XS.isub X0.here hx rfl (hb hby d2_3) rfl ?_
    show Steps p.tables e below (s₁.setTop (mkF m 4 #[.val (.ref a), .val (.int en), .unset, .unset] [(.int (en - (1 : Int32))), (.ref a)])) _
    refine own_ldB X0 hx hZ e0 V_a (i := e1) he1 (by omega) rfl (g := (mkF m 4 #[.val (.ref a), .val (.int en), .unset, .unset] [(.int (en - (1 : Int32))), (.ref a)])) rfl rfl (hb hby d2_4) _ ?_
    show Steps p.tables e below (s₁.setTop (mkF m 5 #[.val (.ref a), .val (.int en), .unset, .unset] [(.int (f e1))])) _
    refine XS.sipush X0.here hx rfl (hb hby d2_5) ?_
    show Steps p.tables e below (s₁.setTop (mkF m 8 #[.val (.ref a), .val (.int en), .unset, .unset] [(.int (255 : Int32)), (.int (f e1))])) _
    refine XS.iand X0.here hx rfl (hb hby d2_8) rfl ?_
    show Steps p.tables e below (s₁.setTop (mkF m 9 #[.val (.ref a), .val (.int en), .unset, .unset] [(.int ((f e1) &&& (255 : Int32)))])) _
    refine XS.istoreN X0.here hx rfl (hb hby d2_9) rfl (l' := #[.val (.ref a), .val (.int en), .val (.int ((f e1) &&& (255 : Int32))), .unset]) rfl ?_
    show Steps p.tables e below (s₁.setTop (mkF m 10 #[.val (.ref a), .val (.int en), .val (.int ((f e1) &&& (255 : Int32))), .unset] [])) _
    refine XS.iloadN X0.here hx rfl (hb hby d2_10) rfl ?_
    show Steps p.tables e below (s₁.setTop (mkF m 11 #[.val (.ref a), .val (.int en), .val (.int ((f e1) &&& (255 : Int32))), .unset] [(.int ((f e1) &&& (255 : Int32)))])) _
    refine XS.iconst X0.here hx rfl (hb hby d2_11) ?_
    show Steps p.tables e below (s₁.setTop (mkF m 12 #[.val (.ref a), .val (.int en), .val (.int ((f e1) &&& (255 : Int32))), .unset] [(.int (1 : Int32)), (.int ((f e1) &&& (255 : Int32)))])) _
    exact kt
  by_cases hc12_21 : ((f e1) &&& (255 : Int32)) < (1 : Int32)
  · have k22 : ∀ tg_, Steps p.tables e below (s₁.setTop (mkF m 22 #[.val (.ref a), .val (.int en), .val (.int ((f e1) &&& (255 : Int32))), .unset] [(.int (-1 : Int32))])) tg_ → Steps p.tables e below (s₁.setTop (entryFrame m #[(.ref a), (.int en)] 4)) tg_ := by
      intro tg_ kt
      refine k20 tg_ ?_
      refine XS.icmpYes X0.here hx rfl (pc0 := 12) (pc' := 21) rfl (hb hby d2_12) rfl (tlt hc12_21).1 (by decide) (by decide) ?_
      show Steps p.tables e below (s₁.setTop (mkF m 21 #[.val (.ref a), .val (.int en), .val (.int ((f e1) &&& (255 : Int32))), .unset] [])) _
      refine XS.iconst X0.here hx rfl (hb hby d2_21) ?_
      show Steps p.tables e below (s₁.setTop (mkF m 22 #[.val (.ref a), .val (.int en), .val (.int ((f e1) &&& (255 : Int32))), .unset] [(.int (-1 : Int32))])) _
      exact kt
    obtain ⟨fs, hr, hrun, hended, hW, hsame⟩ := X0.leave (v := some (.int (-1 : Int32))) (fun h => by rw [Bd.returns] at h; cases h)
    refine ⟨_, _, k22 _ (retI X0 hx Bd.returns (hb hby d2_22) hr), hrun, hended, _, _, rfl, ?_, ⟨_, rfl⟩, hW, hsame.mono (by decide) (by decide)⟩
    show Q2 Z a en e1 f b h0 n0 _ s₁.heap _
    rw [e0]
    exact ⟨(by rw [own_pad, if_pos hc12_21]), N0, rfl⟩
  · have k23 : ∀ tg_, Steps p.tables e below (s₁.setTop (mkF m 18 #[.val (.ref a), .val (.int en), .val (.int ((f e1) &&& (255 : Int32))), .unset] [(.int (16 : Int32)), (.int ((f e1) &&& (255 : Int32)))])) tg_ → Steps p.tables e below (s₁.setTop (entryFrame m #[(.ref a), (.int en)] 4)) tg_ := by
      intro tg_ kt
      refine k20 tg_ ?_
      refine XS.icmpNo X0.here hx rfl (hb hby d2_12) rfl (flt hc12_21).1 ?_
      show Steps p.tables e below (s₁.setTop (mkF m 15 #[.val (.ref a), .val (.int en), .val (.int ((f e1) &&& (255 : Int32))), .unset] [])) _
      refine XS.iloadN X0.here hx rfl (hb hby d2_15) rfl ?_
      show Steps p.tables e below (s₁.setTop (mkF m 16 #[.val (.ref a), .val (.int en), .val (.int ((f e1) &&& (255 : Int32))), .unset] [(.int ((f e1) &&& (255 : Int32)))])) _
      refine XS.bipush X0.here hx rfl (hb hby d2_16) ?_
      show Steps p.tables e below (s₁.setTop (mkF m 18 #[.val (.ref a), .val (.int en), .val (.int ((f e1) &&& (255 : Int32))), .unset] [(.int (16 : Int32)), (.int ((f e1) &&& (255 : Int32)))])) _
      exact kt
    by_cases hc18_24 : (16 : Int32) < ((f e1) &&& (255 : Int32))
    · have k25 : ∀ tg_, Steps p.tables e below (s₁.setTop (mkF m 22 #[.val (.ref a), .val (.int en), .val (.int ((f e1) &&& (255 : Int32))), .unset] [(.int (-1 : Int32))])) tg_ → Steps p.tables e below (s₁.setTop (entryFrame m #[(.ref a), (.int en)] 4)) tg_ := by
        intro tg_ kt
        refine k23 tg_ ?_
        refine XS.icmpNo X0.here hx rfl (hb hby d2_18) rfl (tlt hc18_24).2.2.2 ?_
        show Steps p.tables e below (s₁.setTop (mkF m 21 #[.val (.ref a), .val (.int en), .val (.int ((f e1) &&& (255 : Int32))), .unset] [])) _
        refine XS.iconst X0.here hx rfl (hb hby d2_21) ?_
        show Steps p.tables e below (s₁.setTop (mkF m 22 #[.val (.ref a), .val (.int en), .val (.int ((f e1) &&& (255 : Int32))), .unset] [(.int (-1 : Int32))])) _
        exact kt
      obtain ⟨fs, hr, hrun, hended, hW, hsame⟩ := X0.leave (v := some (.int (-1 : Int32))) (fun h => by rw [Bd.returns] at h; cases h)
      refine ⟨_, _, k25 _ (retI X0 hx Bd.returns (hb hby d2_22) hr), hrun, hended, _, _, rfl, ?_, ⟨_, rfl⟩, hW, hsame.mono (by decide) (by decide)⟩
      show Q2 Z a en e1 f b h0 n0 _ s₁.heap _
      rw [e0]
      exact ⟨(by rw [own_pad, if_neg hc12_21, if_pos hc18_24]), N0, rfl⟩
    · have k26 : ∀ tg_, Steps p.tables e below (s₁.setTop (mkF m 27 #[.val (.ref a), .val (.int en), .val (.int ((f e1) &&& (255 : Int32))), .val (.int (en - ((f e1) &&& (255 : Int32))))] [])) tg_ → Steps p.tables e below (s₁.setTop (entryFrame m #[(.ref a), (.int en)] 4)) tg_ := by
        intro tg_ kt
        refine k23 tg_ ?_
        refine XS.icmpYes X0.here hx rfl (pc0 := 18) (pc' := 23) rfl (hb hby d2_18) rfl (flt hc18_24).2.2.2 (by decide) (by decide) ?_
        show Steps p.tables e below (s₁.setTop (mkF m 23 #[.val (.ref a), .val (.int en), .val (.int ((f e1) &&& (255 : Int32))), .unset] [])) _
        refine XS.iloadN X0.here hx rfl (hb hby d2_23) rfl ?_
        show Steps p.tables e below (s₁.setTop (mkF m 24 #[.val (.ref a), .val (.int en), .val (.int ((f e1) &&& (255 : Int32))), .unset] [(.int en)])) _
        refine XS.iloadN X0.here hx rfl (hb hby d2_24) rfl ?_
        show Steps p.tables e below (s₁.setTop (mkF m 25 #[.val (.ref a), .val (.int en), .val (.int ((f e1) &&& (255 : Int32))), .unset] [(.int ((f e1) &&& (255 : Int32))), (.int en)])) _
        refine XS.isub X0.here hx rfl (hb hby d2_25) rfl ?_
        show Steps p.tables e below (s₁.setTop (mkF m 26 #[.val (.ref a), .val (.int en), .val (.int ((f e1) &&& (255 : Int32))), .unset] [(.int (en - ((f e1) &&& (255 : Int32))))])) _
        refine XS.istoreN X0.here hx rfl (hb hby d2_26) rfl (l' := #[.val (.ref a), .val (.int en), .val (.int ((f e1) &&& (255 : Int32))), .val (.int (en - ((f e1) &&& (255 : Int32))))]) rfl ?_
        show Steps p.tables e below (s₁.setTop (mkF m 27 #[.val (.ref a), .val (.int en), .val (.int ((f e1) &&& (255 : Int32))), .val (.int (en - ((f e1) &&& (255 : Int32))))] [])) _
        exact kt
      obtain ⟨lo, hlo⟩ : ∃ lo : Nat, (en - ((f e1) &&& (255 : Int32))).toInt = (lo : Int) := by
        have ar27 := rng32 (f e1)
        have ar28 : (255 : Int32).toInt = 255 := by decide
        have ar29 := c_mask (f e1) (255 : Int32) 8 (by decide) (by decide)
        simp only [show (2 ^ 8 : Nat) = 256 from by decide, Int.cast_ofNat_Int] at ar29
        have ar30 := rng32 ((f e1) &&& (255 : Int32))
        have ar31 : (1 : Int32).toInt = 1 := by decide
        have ar32 : ¬ (((f e1) &&& (255 : Int32)).toInt < (1 : Int32).toInt) := fun qq_ => hc12_21 (Int32.lt_iff_toInt_lt.mpr qq_)
        have ar33 : (16 : Int32).toInt = 16 := by decide
        have ar34 : ¬ ((16 : Int32).toInt < ((f e1) &&& (255 : Int32)).toInt) := fun qq_ => hc18_24 (Int32.lt_iff_toInt_lt.mpr qq_)
        have ar35 := rng32 en
        have ar36 := rng32 (en - ((f e1) &&& (255 : Int32)))
        first | have ar37 : (en - ((f e1) &&& (255 : Int32))).toInt = en.toInt - ((f e1) &&& (255 : Int32)).toInt := (by have qw := c_isub en ((f e1) &&& (255 : Int32)); omega) | (have ar37 := c_isub en ((f e1) &&& (255 : Int32)); skip)
        exact ⟨(en - ((f e1) &&& (255 : Int32))).toInt.toNat, by omega⟩
      have hlo2 : lo + (f e1 &&& (255 : Int32)).toInt = e1 + 1 := by
        have ar27 := rng32 (f e1)
        have ar28 : (255 : Int32).toInt = 255 := by decide
        have ar29 := c_mask (f e1) (255 : Int32) 8 (by decide) (by decide)
        simp only [show (2 ^ 8 : Nat) = 256 from by decide, Int.cast_ofNat_Int] at ar29
        have ar30 := rng32 ((f e1) &&& (255 : Int32))
        have ar31 : (1 : Int32).toInt = 1 := by decide
        have ar32 : ¬ (((f e1) &&& (255 : Int32)).toInt < (1 : Int32).toInt) := fun qq_ => hc12_21 (Int32.lt_iff_toInt_lt.mpr qq_)
        have ar33 : (16 : Int32).toInt = 16 := by decide
        have ar34 : ¬ ((16 : Int32).toInt < ((f e1) &&& (255 : Int32)).toInt) := fun qq_ => hc18_24 (Int32.lt_iff_toInt_lt.mpr qq_)
        have ar35 := rng32 en
        have ar36 := rng32 (en - ((f e1) &&& (255 : Int32)))
        first | have ar37 : (en - ((f e1) &&& (255 : Int32))).toInt = en.toInt - ((f e1) &&& (255 : Int32)).toInt := (by have qw := c_isub en ((f e1) &&& (255 : Int32)); omega) | (have ar37 := c_isub en ((f e1) &&& (255 : Int32)); skip)
        omega
      have hloe : lo ≤ e1 := by
        have ar27 := rng32 (f e1)
        have ar28 : (255 : Int32).toInt = 255 := by decide
        have ar29 := c_mask (f e1) (255 : Int32) 8 (by decide) (by decide)
        simp only [show (2 ^ 8 : Nat) = 256 from by decide, Int.cast_ofNat_Int] at ar29
        have ar30 := rng32 ((f e1) &&& (255 : Int32))
        have ar31 : (1 : Int32).toInt = 1 := by decide
        have ar32 : ¬ (((f e1) &&& (255 : Int32)).toInt < (1 : Int32).toInt) := fun qq_ => hc12_21 (Int32.lt_iff_toInt_lt.mpr qq_)
        have ar33 : (16 : Int32).toInt = 16 := by decide
        have ar34 : ¬ ((16 : Int32).toInt < ((f e1) &&& (255 : Int32)).toInt) := fun qq_ => hc18_24 (Int32.lt_iff_toInt_lt.mpr qq_)
        have ar35 := rng32 en
        have ar36 := rng32 (en - ((f e1) &&& (255 : Int32)))
        first | have ar37 : (en - ((f e1) &&& (255 : Int32))).toInt = en.toInt - ((f e1) &&& (255 : Int32)).toInt := (by have qw := c_isub en ((f e1) &&& (255 : Int32)); omega) | (have ar37 := c_isub en ((f e1) &&& (255 : Int32)); skip)
        omega
      have lpA : ∀ (r j : Nat) (x : Int32), x.toInt = (j : Int) → j + r = e1 → (∀ i, i < e1 → ¬ i < j → f i = f e1) → ∃ y : Int32, ∀ tg_, Steps p.tables e below (s₁.setTop (mkF m 53 #[.val (.ref a), .val (.int en), .val (.int ((f e1) &&& (255 : Int32))), .val (.int y)] [])) tg_ → Steps p.tables e below (s₁.setTop (mkF m 27 #[.val (.ref a), .val (.int en), .val (.int ((f e1) &&& (255 : Int32))), .val (.int x)] [])) tg_ := by
        intro r
        induction r with
        | zero =>
          intro j x hxj hje hP
          have hxe : ¬ (x < (en - (1 : Int32))) := by
            have ar38 := rng32 x
            have ar39 := rng32 en
            have ar40 : (1 : Int32).toInt = 1 := by decide
            have ar41 := rng32 (en - (1 : Int32))
            first | have ar42 : (en - (1 : Int32)).toInt = en.toInt - 1 := (by have qw := c_isub en (1 : Int32); omega) | (have ar42 := c_isub en (1 : Int32); skip)
            exact fun qq_ => absurd (Int32.lt_iff_toInt_lt.mp qq_) (by omega)
          refine ⟨x, fun tg_ kt => ?_⟩
          have hc31_43 : ¬ (x < (en - (1 : Int32))) := hxe
          refine XS.iloadN X0.here hx rfl (hb hby d2_27) rfl ?_
          show Steps p.tables e below (s₁.setTop (mkF m 28 #[.val (.ref a), .val (.int en), .val (.int ((f e1) &&& (255 : Int32))), .val (.int x)] [(.int x)])) _
          refine XS.iloadN X0.here hx rfl (hb hby d2_28) rfl ?_
          show Steps p.tables e below (s₁.setTop (mkF m 29 #[.val (.ref a), .val (.int en), .val (.int ((f e1) &&& (255 : Int32))), .val (.int x)] [(.int en), (.int x)])) _
          refine XS.iconst X0.here hx rfl (hb hby d2_29) ?_
          show Steps p.tables e below (s₁.setTop (mkF m 30 #[.val (.ref a), .val (.int en), .val (.int ((f e1) &&& (255 : Int32))), .val (.int x)] [(.int (1 : Int32)), (.int en), (.int x)])) _
          refine XS.isub X0.here hx rfl (hb hby d2_30) rfl ?_
          show Steps p.tables e below (s₁.setTop (mkF m 31 #[.val (.ref a), .val (.int en), .val (.int ((f e1) &&& (255 : Int32))), .val (.int x)] [(.int (en - (1 : Int32))), (.int x)])) _
          refine XS.icmpYes X0.here hx rfl (pc0 := 31) (pc' := 53) rfl (hb hby d2_31) rfl (flt hc31_43).2.1 (by decide) (by decide) ?_
          show Steps p.tables e below (s₁.setTop (mkF m 53 #[.val (.ref a), .val (.int en), .val (.int ((f e1) &&& (255 : Int32))), .val (.int x)] [])) _
          exact kt
        | succ r ih =>
          intro j x hxj hje hP
          have hxe : x < (en - (1 : Int32)) := by
            have ar44 := rng32 x
            have ar45 := rng32 en
            have ar46 : (1 : Int32).toInt = 1 := by decide
            have ar47 := rng32 (en - (1 : Int32))
            first | have ar48 : (en - (1 : Int32)).toInt = en.toInt - 1 := (by have qw := c_isub en (1 : Int32); omega) | (have ar48 := c_isub en (1 : Int32); skip)
            exact Int32.lt_iff_toInt_lt.mpr (by omega)
          have hx1 : (x + (1 : Int32)).toInt = ((j + 1 : Nat) : Int) := by
            have ar49 := rng32 x
            have ar50 : (1 : Int32).toInt = 1 := by decide
            have ar51 := rng32 (x + (1 : Int32))
            first | have ar52 : (x + (1 : Int32)).toInt = x.toInt + 1 := (by have qw := c_iadd x (1 : Int32); omega) | (have ar52 := c_iadd x (1 : Int32); skip)
            omega
          have hq : f j = f e1 := hP j (by omega) (by omega)
          obtain ⟨y, ky⟩ := ih (j + 1) (x + (1 : Int32)) hx1 (by omega) (fun i h1 h2 => hP i h1 (by omega))
          refine ⟨y, fun tg_ kt => ?_⟩
          have hc31_53 : x < (en - (1 : Int32)) := hxe
          have hc42_54 : (f j) = (f e1) := hq
          refine XS.iloadN X0.here hx rfl (hb hby d2_27) rfl ?_
          show Steps p.tables e below (s₁.setTop (mkF m 28 #[.val (.ref a), .val (.int en), .val (.int ((f e1) &&& (255 : Int32))), .val (.int x)] [(.int x)])) _
          refine XS.iloadN X0.here hx rfl (hb hby d2_28) rfl ?_
          show Steps p.tables e below (s₁.setTop (mkF m 29 #[.val (.ref a), .val (.int en), .val (.int ((f e1) &&& (255 : Int32))), .val (.int x)] [(.int en), (.int x)])) _
          refine XS.iconst X0.here hx rfl (hb hby d2_29) ?_
          show Steps p.tables e below (s₁.setTop (mkF m 30 #[.val (.ref a), .val (.int en), .val (.int ((f e1) &&& (255 : Int32))), .val (.int x)] [(.int (1 : Int32)), (.int en), (.int x)])) _
          refine XS.isub X0.here hx rfl (hb hby d2_30) rfl ?_
          show Steps p.tables e below (s₁.setTop (mkF m 31 #[.val (.ref a), .val (.int en), .val (.int ((f e1) &&& (255 : Int32))), .val (.int x)] [(.int (en - (1 : Int32))), (.int x)])) _
          refine XS.icmpNo X0.here hx rfl (hb hby d2_31) rfl (tlt hc31_53).2.1 ?_
          show Steps p.tables e below (s₁.setTop (mkF m 34 #[.val (.ref a), .val (.int en), .val (.int ((f e1) &&& (255 : Int32))), .val (.int x)] [])) _
          refine XS.aloadN X0.here hx rfl (hb hby d2_34) rfl rfl ?_
          show Steps p.tables e below (s₁.setTop (mkF m 35 #[.val (.ref a), .val (.int en), .val (.int ((f e1) &&& (255 : Int32))), .val (.int x)] [(.ref a)])) _
          refine XS.iloadN X0.here hx rfl (hb hby d2_35) rfl ?_
          show Steps p.tables e below (s₁.setTop (mkF m 36 #[.val (.ref a), .val (.int en), .val (.int ((f e1) &&& (255 : Int32))), .val (.int x)] [(.int x), (.ref a)])) _
          refine own_ldB X0 hx hZ e0 V_a (i := j) hxj (by omega) rfl (g := (mkF m 36 #[.val (.ref a), .val (.int en), .val (.int ((f e1) &&& (255 : Int32))), .val (.int x)] [(.int x), (.ref a)])) rfl rfl (hb hby d2_36) _ ?_
          show Steps p.tables e below (s₁.setTop (mkF m 37 #[.val (.ref a), .val (.int en), .val (.int ((f e1) &&& (255 : Int32))), .val (.int x)] [(.int (f j))])) _
          refine XS.aloadN X0.here hx rfl (hb hby d2_37) rfl rfl ?_
          show Steps p.tables e below (s₁.setTop (mkF m 38 #[.val (.ref a), .val (.int en), .val (.int ((f e1) &&& (255 : Int32))), .val (.int x)] [(.ref a), (.int (f j))])) _
          refine XS.iloadN X0.here hx rfl (hb hby d2_38) rfl ?_
          show Steps p.tables e below (s₁.setTop (mkF m 39 #[.val (.ref a), .val (.int en), .val (.int ((f e1) &&& (255 : Int32))), .val (.int x)] [(.int en), (.ref a), (.int (f j))])) _
          refine XS.iconst X0.here hx rfl (hb hby d2_39) ?_
          show Steps p.tables e below (s₁.setTop (mkF m 40 #[.val (.ref a), .val (.int en), .val (.int ((f e1) &&& (255 : Int32))), .val (.int x)] [(.int (1 : Int32)), (.int en), (.ref a), (.int (f j))])) _
          refine XS.isub X0.here hx rfl (hb hby d2_40) rfl ?_
          show Steps p.tables e below (s₁.setTop (mkF m 41 #[.val (.ref a), .val (.int en), .val (.int ((f e1) &&& (255 : Int32))), .val (.int x)] [(.int (en - (1 : Int32))), (.ref a), (.int (f j))])) _
          refine own_ldB X0 hx hZ e0 V_a (i := e1) he1 (by omega) rfl (g := (mkF m 41 #[.val (.ref a), .val (.int en), .val (.int ((f e1) &&& (255 : Int32))), .val (.int x)] [(.int (en - (1 : Int32))), (.ref a), (.int (f j))])) rfl rfl (hb hby d2_41) _ ?_
          show Steps p.tables e below (s₁.setTop (mkF m 42 #[.val (.ref a), .val (.int en), .val (.int ((f e1) &&& (255 : Int32))), .val (.int x)] [(.int (f e1)), (.int (f j))])) _
          refine XS.icmpYes X0.here hx rfl (pc0 := 42) (pc' := 47) rfl (hb hby d2_42) rfl (teq hc42_54).1 (by decide) (by decide) ?_
          show Steps p.tables e below (s₁.setTop (mkF m 47 #[.val (.ref a), .val (.int en), .val (.int ((f e1) &&& (255 : Int32))), .val (.int x)] [])) _
          refine XS.iinc X0.here hx rfl (hb hby d2_47) rfl (l' := #[.val (.ref a), .val (.int en), .val (.int ((f e1) &&& (255 : Int32))), .val (.int (x + (1 : Int32)))]) rfl ?_
          show Steps p.tables e below (s₁.setTop (mkF m 50 #[.val (.ref a), .val (.int en), .val (.int ((f e1) &&& (255 : Int32))), .val (.int (x + (1 : Int32)))] [])) _
          refine XS.goto X0.here hx rfl (pc0 := 50) (pc' := 27) rfl (hb hby d2_50) (by decide) (by decide) ?_
          show Steps p.tables e below (s₁.setTop (mkF m 27 #[.val (.ref a), .val (.int en), .val (.int ((f e1) &&& (255 : Int32))), .val (.int (x + (1 : Int32)))] [])) _
          exact ky tg_ kt
      have lpB : ∀ (r j : Nat) (x : Int32), x.toInt = (j : Int) → j + r = e1 → ¬ (∀ i, i < e1 → ¬ i < j → f i = f e1) → ∃ y : Int32, ∀ tg_, Steps p.tables e below (s₁.setTop (mkF m 45 #[.val (.ref a), .val (.int en), .val (.int ((f e1) &&& (255 : Int32))), .val (.int y)] [])) tg_ → Steps p.tables e below (s₁.setTop (mkF m 27 #[.val (.ref a), .val (.int en), .val (.int ((f e1) &&& (255 : Int32))), .val (.int x)] [])) tg_ := by
        intro r
        induction r with
        | zero =>
          intro j x hxj hje hP
          exact absurd (fun i h1 h2 => absurd h1 (by omega)) hP
        | succ r ih =>
          intro j x hxj hje hP
          have hxe : x < (en - (1 : Int32)) := by
            have ar55 := rng32 x
            have ar56 := rng32 en
            have ar57 : (1 : Int32).toInt = 1 := by decide
            have ar58 := rng32 (en - (1 : Int32))
            first | have ar59 : (en - (1 : Int32)).toInt = en.toInt - 1 := (by have qw := c_isub en (1 : Int32); omega) | (have ar59 := c_isub en (1 : Int32); skip)
            exact Int32.lt_iff_toInt_lt.mpr (by omega)
          have hx1 : (x + (1 : Int32)).toInt = ((j + 1 : Nat) : Int) := by
            have ar60 := rng32 x
            have ar61 : (1 : Int32).toInt = 1 := by decide
            have ar62 := rng32 (x + (1 : Int32))
            first | have ar63 : (x + (1 : Int32)).toInt = x.toInt + 1 := (by have qw := c_iadd x (1 : Int32); omega) | (have ar63 := c_iadd x (1 : Int32); skip)
            omega
          by_cases hq : f j = f e1
          · obtain ⟨y, ky⟩ := ih (j + 1) (x + (1 : Int32)) hx1 (by omega) (fun hA => hP (fun i h1 h2 => by by_cases q : i = j; (subst q; exact hq); exact hA i h1 (by omega)))
            refine ⟨y, fun tg_ kt => ?_⟩
            have hc31_64 : x < (en - (1 : Int32)) := hxe
            have hc42_65 : (f j) = (f e1) := hq
            refine XS.iloadN X0.here hx rfl (hb hby d2_27) rfl ?_
            show Steps p.tables e below (s₁.setTop (mkF m 28 #[.val (.ref a), .val (.int en), .val (.int ((f e1) &&& (255 : Int32))), .val (.int x)] [(.int x)])) _
            refine XS.iloadN X0.here hx rfl (hb hby d2_28) rfl ?_
            show Steps p.tables e below (s₁.setTop (mkF m 29 #[.val (.ref a), .val (.int en), .val (.int ((f e1) &&& (255 : Int32))), .val (.int x)] [(.int en), (.int x)])) _
            refine XS.iconst X0.here hx rfl (hb hby d2_29) ?_
            show Steps p.tables e below (s₁.setTop (mkF m 30 #[.val (.ref a), .val (.int en), .val (.int ((f e1) &&& (255 : Int32))), .val (.int x)] [(.int (1 : Int32)), (.int en), (.int x)])) _
            refine XS.isub X0.here hx rfl (hb hby d2_30) rfl ?_
            show Steps p.tables e below (s₁.setTop (mkF m 31 #[.val (.ref a), .val (.int en), .val (.int ((f e1) &&& (255 : Int32))), .val (.int x)] [(.int (en - (1 : Int32))), (.int x)])) _
            refine XS.icmpNo X0.here hx rfl (hb hby d2_31) rfl (tlt hc31_64).2.1 ?_
            show Steps p.tables e below (s₁.setTop (mkF m 34 #[.val (.ref a), .val (.int en), .val (.int ((f e1) &&& (255 : Int32))), .val (.int x)] [])) _
            refine XS.aloadN X0.here hx rfl (hb hby d2_34) rfl rfl ?_
            show Steps p.tables e below (s₁.setTop (mkF m 35 #[.val (.ref a), .val (.int en), .val (.int ((f e1) &&& (255 : Int32))), .val (.int x)] [(.ref a)])) _
            refine XS.iloadN X0.here hx rfl (hb hby d2_35) rfl ?_
            show Steps p.tables e below (s₁.setTop (mkF m 36 #[.val (.ref a), .val (.int en), .val (.int ((f e1) &&& (255 : Int32))), .val (.int x)] [(.int x), (.ref a)])) _
            refine own_ldB X0 hx hZ e0 V_a (i := j) hxj (by omega) rfl (g := (mkF m 36 #[.val (.ref a), .val (.int en), .val (.int ((f e1) &&& (255 : Int32))), .val (.int x)] [(.int x), (.ref a)])) rfl rfl (hb hby d2_36) _ ?_
            show Steps p.tables e below (s₁.setTop (mkF m 37 #[.val (.ref a), .val (.int en), .val (.int ((f e1) &&& (255 : Int32))), .val (.int x)] [(.int (f j))])) _
            refine XS.aloadN X0.here hx rfl (hb hby d2_37) rfl rfl ?_
            show Steps p.tables e below (s₁.setTop (mkF m 38 #[.val (.ref a), .val (.int en), .val (.int ((f e1) &&& (255 : Int32))), .val (.int x)] [(.ref a), (.int (f j))])) _
            refine XS.iloadN X0.here hx rfl (hb hby d2_38) rfl ?_
            show Steps p.tables e below (s₁.setTop (mkF m 39 #[.val (.ref a), .val (.int en), .val (.int ((f e1) &&& (255 : Int32))), .val (.int x)] [(.int en), (.ref a), (.int (f j))])) _
            refine XS.iconst X0.here hx rfl (hb hby d2_39) ?_
            show Steps p.tables e below (s₁.setTop (mkF m 40 #[.val (.ref a), .val (.int en), .val (.int ((f e1) &&& (255 : Int32))), .val (.int x)] [(.int (1 : Int32)), (.int en), (.ref a), (.int (f j))])) _
            refine XS.isub X0.here hx rfl (hb hby d2_40) rfl ?_
            show Steps p.tables e below (s₁.setTop (mkF m 41 #[.val (.ref a), .val (.int en), .val (.int ((f e1) &&& (255 : Int32))), .val (.int x)] [(.int (en - (1 : Int32))), (.ref a), (.int (f j))])) _
            refine own_ldB X0 hx hZ e0 V_a (i := e1) he1 (by omega) rfl (g := (mkF m 41 #[.val (.ref a), .val (.int en), .val (.int ((f e1) &&& (255 : Int32))), .val (.int x)] [(.int (en - (1 : Int32))), (.ref a), (.int (f j))])) rfl rfl (hb hby d2_41) _ ?_
            show Steps p.tables e below (s₁.setTop (mkF m 42 #[.val (.ref a), .val (.int en), .val (.int ((f e1) &&& (255 : Int32))), .val (.int x)] [(.int (f e1)), (.int (f j))])) _
            refine XS.icmpYes X0.here hx rfl (pc0 := 42) (pc' := 47) rfl (hb hby d2_42) rfl (teq hc42_65).1 (by decide) (by decide) ?_
            show Steps p.tables e below (s₁.setTop (mkF m 47 #[.val (.ref a), .val (.int en), .val (.int ((f e1) &&& (255 : Int32))), .val (.int x)] [])) _
            refine XS.iinc X0.here hx rfl (hb hby d2_47) rfl (l' := #[.val (.ref a), .val (.int en), .val (.int ((f e1) &&& (255 : Int32))), .val (.int (x + (1 : Int32)))]) rfl ?_
            show Steps p.tables e below (s₁.setTop (mkF m 50 #[.val (.ref a), .val (.int en), .val (.int ((f e1) &&& (255 : Int32))), .val (.int (x + (1 : Int32)))] [])) _
            refine XS.goto X0.here hx rfl (pc0 := 50) (pc' := 27) rfl (hb hby d2_50) (by decide) (by decide) ?_
            show Steps p.tables e below (s₁.setTop (mkF m 27 #[.val (.ref a), .val (.int en), .val (.int ((f e1) &&& (255 : Int32))), .val (.int (x + (1 : Int32)))] [])) _
            exact ky tg_ kt
          · refine ⟨x, fun tg_ kt => ?_⟩
            have hc31_66 : x < (en - (1 : Int32)) := hxe
            have hc42_67 : ¬ ((f j) = (f e1)) := hq
            refine XS.iloadN X0.here hx rfl (hb hby d2_27) rfl ?_
            show Steps p.tables e below (s₁.setTop (mkF m 28 #[.val (.ref a), .val (.int en), .val (.int ((f e1) &&& (255 : Int32))), .val (.int x)] [(.int x)])) _
            refine XS.iloadN X0.here hx rfl (hb hby d2_28) rfl ?_
            show Steps p.tables e below (s₁.setTop (mkF m 29 #[.val (.ref a), .val (.int en), .val (.int ((f e1) &&& (255 : Int32))), .val (.int x)] [(.int en), (.int x)])) _
            refine XS.iconst X0.here hx rfl (hb hby d2_29) ?_
            show Steps p.tables e below (s₁.setTop (mkF m 30 #[.val (.ref a), .val (.int en), .val (.int ((f e1) &&& (255 : Int32))), .val (.int x)] [(.int (1 : Int32)), (.int en), (.int x)])) _
            refine XS.isub X0.here hx rfl (hb hby d2_30) rfl ?_
            show Steps p.tables e below (s₁.setTop (mkF m 31 #[.val (.ref a), .val (.int en), .val (.int ((f e1) &&& (255 : Int32))), .val (.int x)] [(.int (en - (1 : Int32))), (.int x)])) _
            refine XS.icmpNo X0.here hx rfl (hb hby d2_31) rfl (tlt hc31_66).2.1 ?_
            show Steps p.tables e below (s₁.setTop (mkF m 34 #[.val (.ref a), .val (.int en), .val (.int ((f e1) &&& (255 : Int32))), .val (.int x)] [])) _
            refine XS.aloadN X0.here hx rfl (hb hby d2_34) rfl rfl ?_
            show Steps p.tables e below (s₁.setTop (mkF m 35 #[.val (.ref a), .val (.int en), .val (.int ((f e1) &&& (255 : Int32))), .val (.int x)] [(.ref a)])) _
            refine XS.iloadN X0.here hx rfl (hb hby d2_35) rfl ?_
            show Steps p.tables e below (s₁.setTop (mkF m 36 #[.val (.ref a), .val (.int en), .val (.int ((f e1) &&& (255 : Int32))), .val (.int x)] [(.int x), (.ref a)])) _
            refine own_ldB X0 hx hZ e0 V_a (i := j) hxj (by omega) rfl (g := (mkF m 36 #[.val (.ref a), .val (.int en), .val (.int ((f e1) &&& (255 : Int32))), .val (.int x)] [(.int x), (.ref a)])) rfl rfl (hb hby d2_36) _ ?_
            show Steps p.tables e below (s₁.setTop (mkF m 37 #[.val (.ref a), .val (.int en), .val (.int ((f e1) &&& (255 : Int32))), .val (.int x)] [(.int (f j))])) _
            refine XS.aloadN X0.here hx rfl (hb hby d2_37) rfl rfl ?_
            show Steps p.tables e below (s₁.setTop (mkF m 38 #[.val (.ref a), .val (.int en), .val (.int ((f e1) &&& (255 : Int32))), .val (.int x)] [(.ref a), (.int (f j))])) _
            refine XS.iloadN X0.here hx rfl (hb hby d2_38) rfl ?_
            show Steps p.tables e below (s₁.setTop (mkF m 39 #[.val (.ref a), .val (.int en), .val (.int ((f e1) &&& (255 : Int32))), .val (.int x)] [(.int en), (.ref a), (.int (f j))])) _
            refine XS.iconst X0.here hx rfl (hb hby d2_39) ?_
            show Steps p.tables e below (s₁.setTop (mkF m 40 #[.val (.ref a), .val (.int en), .val (.int ((f e1) &&& (255 : Int32))), .val (.int x)] [(.int (1 : Int32)), (.int en), (.ref a), (.int (f j))])) _
            refine XS.isub X0.here hx rfl (hb hby d2_40) rfl ?_
            show Steps p.tables e below (s₁.setTop (mkF m 41 #[.val (.ref a), .val (.int en), .val (.int ((f e1) &&& (255 : Int32))), .val (.int x)] [(.int (en - (1 : Int32))), (.ref a), (.int (f j))])) _
            refine own_ldB X0 hx hZ e0 V_a (i := e1) he1 (by omega) rfl (g := (mkF m 41 #[.val (.ref a), .val (.int en), .val (.int ((f e1) &&& (255 : Int32))), .val (.int x)] [(.int (en - (1 : Int32))), (.ref a), (.int (f j))])) rfl rfl (hb hby d2_41) _ ?_
            show Steps p.tables e below (s₁.setTop (mkF m 42 #[.val (.ref a), .val (.int en), .val (.int ((f e1) &&& (255 : Int32))), .val (.int x)] [(.int (f e1)), (.int (f j))])) _
            refine XS.icmpNo X0.here hx rfl (hb hby d2_42) rfl (feq hc42_67).1 ?_
            show Steps p.tables e below (s₁.setTop (mkF m 45 #[.val (.ref a), .val (.int en), .val (.int ((f e1) &&& (255 : Int32))), .val (.int x)] [])) _
            exact kt
      by_cases hall : (∀ i, i < e1 → ¬ i < lo → f i = f e1)
      · obtain ⟨y68, ky68⟩ := lpA (e1 - lo) lo (en - ((f e1) &&& (255 : Int32))) hlo (by omega) hall
        have k69 : ∀ tg_, Steps p.tables e below (s₁.setTop (mkF m 54 #[.val (.ref a), .val (.int en), .val (.int ((f e1) &&& (255 : Int32))), .val (.int y68)] [(.int ((f e1) &&& (255 : Int32)))])) tg_ → Steps p.tables e below (s₁.setTop (entryFrame m #[(.ref a), (.int en)] 4)) tg_ := by
          intro tg_ kt
          refine k26 tg_ ?_
          refine ky68 tg_ ?_
          show Steps p.tables e below (s₁.setTop (mkF m 53 #[.val (.ref a), .val (.int en), .val (.int ((f e1) &&& (255 : Int32))), .val (.int y68)] [])) _
          refine XS.iloadN X0.here hx rfl (hb hby d2_53) rfl ?_
          show Steps p.tables e below (s₁.setTop (mkF m 54 #[.val (.ref a), .val (.int en), .val (.int ((f e1) &&& (255 : Int32))), .val (.int y68)] [(.int ((f e1) &&& (255 : Int32)))])) _
          exact kt
        obtain ⟨fs, hr, hrun, hended, hW, hsame⟩ := X0.leave (v := some (.int ((f e1) &&& (255 : Int32)))) (fun h => by rw [Bd.returns] at h; cases h)
        refine ⟨_, _, k69 _ (retI X0 hx Bd.returns (hb hby d2_54) hr), hrun, hended, _, _, rfl, ?_, ⟨_, rfl⟩, hW, hsame.mono (by decide) (by decide)⟩
        show Q2 Z a en e1 f b h0 n0 _ s₁.heap _
        rw [e0]
        exact ⟨(by rw [own_pad, if_neg hc12_21, if_neg hc18_24, if_pos (hbt.mpr (fun i h1 h2 => hall i h1 (by omega)))]), N0, rfl⟩
      · obtain ⟨y70, ky70⟩ := lpB (e1 - lo) lo (en - ((f e1) &&& (255 : Int32))) hlo (by omega) hall
        have k71 : ∀ tg_, Steps p.tables e below (s₁.setTop (mkF m 46 #[.val (.ref a), .val (.int en), .val (.int ((f e1) &&& (255 : Int32))), .val (.int y70)] [(.int (-1 : Int32))])) tg_ → Steps p.tables e below (s₁.setTop (entryFrame m #[(.ref a), (.int en)] 4)) tg_ := by
          intro tg_ kt
          refine k26 tg_ ?_
          refine ky70 tg_ ?_
          show Steps p.tables e below (s₁.setTop (mkF m 45 #[.val (.ref a), .val (.int en), .val (.int ((f e1) &&& (255 : Int32))), .val (.int y70)] [])) _
          refine XS.iconst X0.here hx rfl (hb hby d2_45) ?_
          show Steps p.tables e below (s₁.setTop (mkF m 46 #[.val (.ref a), .val (.int en), .val (.int ((f e1) &&& (255 : Int32))), .val (.int y70)] [(.int (-1 : Int32))])) _
          exact kt
        obtain ⟨fs, hr, hrun, hended, hW, hsame⟩ := X0.leave (v := some (.int (-1 : Int32))) (fun h => by rw [Bd.returns] at h; cases h)
        refine ⟨_, _, k71 _ (retI X0 hx Bd.returns (hb hby d2_46) hr), hrun, hended, _, _, rfl, ?_, ⟨_, rfl⟩, hW, hsame.mono (by decide) (by decide)⟩
        show Q2 Z a en e1 f b h0 n0 _ s₁.heap _
        rw [e0]
        exact ⟨(by rw [own_pad, if_neg hc12_21, if_neg hc18_24, if_neg (fun q => hall (fun i h1 h2 => hbt.mp q i h1 (by omega)))]), N0, rfl⟩

def own_g (en w pb kk vb fb gb : Int32) (j : Nat) : Int32 := (own_cell (Int32.ofNat j) en w pb kk vb fb gb).toInt8.toInt32
theorem own_bb (x : Int32) : x.toInt8.toInt32.toInt8.toInt32 = x.toInt8.toInt32 := by
  apply Int32.toInt_inj.mp
  have a := c_i2b x.toInt8.toInt32
  have b := c_i2b x
  omega
theorem own_gv {en w pb kk vb fb gb : Int32} {j e1 : Nat} (hp : pb.toInt8.toInt32 = pb) (hv : vb.toInt8.toInt32 = vb) (hen : en.toInt = ((e1 + 1 : Nat) : Int)) (h17 : e1 ≤ 17) (hj : j ≤ e1) (hw1 : ¬ w < 1) (hw2 : ¬ (16 : Int32) < w) (hlo : j = e1 ∨ ¬ (j : Int) < (e1 : Int) + 1 - w.toInt) (hk : 0 ≤ kk.toInt) :
    own_g en w pb kk vb fb gb j = if j = e1 then pb else if kk.toInt = (j : Int) then vb else pb := by
  have ej : (Int32.ofNat j).toInt = (j : Int) := Int32.toInt_ofNat_of_lt (by omega)
  have e1' : (en - (1 : Int32)).toInt = (e1 : Int) := by
    have a := c_isub en 1
    have r := rng32 (en - 1)
    have o : (1 : Int32).toInt = 1 := by decide
    omega
  rw [own_g, own_eq_own_cell]
  by_cases h1 : j = e1
  · rw [if_pos h1, if_pos (Int32.toInt_inj.mp (by rw [ej, e1']; omega))]
    show (pb.toInt8.toInt32).toInt8.toInt32 = pb
    rw [hp, hp]
  · rw [if_neg h1, if_neg (fun q => h1 (by have := congrArg Int32.toInt q; rw [ej, e1'] at this; omega))]
    by_cases h2 : kk.toInt = (j : Int)
    · rw [if_pos h2, if_pos (Int32.toInt_inj.mp (by rw [ej, h2]))]
      show (vb.toInt8.toInt32).toInt8.toInt32 = vb
      rw [hv, hv]
    · rw [if_neg h2, if_neg (fun q => h2 (by have := congrArg Int32.toInt q; rw [ej] at this; omega))]
      have h3 : Int32.ofNat j < en := Int32.lt_iff_toInt_lt.mpr (by rw [ej, hen]; omega)
      have ew : (en - w).toInt = (e1 : Int) + 1 - w.toInt := by
        have a := c_isub en w
        have r := rng32 (en - w)
        have o : (1 : Int32).toInt = 1 := by decide
        have o2 : (16 : Int32).toInt = 16 := by decide
        have q1 : ¬ w.toInt < 1 := fun q => hw1 (Int32.lt_iff_toInt_lt.mpr (by omega))
        have q2 : ¬ 16 < w.toInt := fun q => hw2 (Int32.lt_iff_toInt_lt.mpr (by omega))
        omega
      have h4 : ¬ Int32.ofNat j < en - w := fun q => by
        have := Int32.lt_iff_toInt_lt.mp q
        rw [ej, ew] at this
        rcases hlo with h | h
        · exact h1 h
        · exact h this
      rw [if_pos h3, if_neg hw1, if_neg hw2, if_neg h4]
      show (pb.toInt8.toInt32).toInt8.toInt32 = pb
      rw [hp, hp]

theorem pd_0 : parseMethodDescriptor "(IIIBIBBB)B" = some ⟨[.int, .int, .int, .byte, .int, .byte, .byte, .byte], some .byte⟩ := by decide +kernel
theorem pd_1 : parseMethodDescriptor "([BI)I" = some ⟨[(.array .byte), .int], some .int⟩ := by decide +kernel
theorem pn_0 : plainName "com/example/abak/abak/format/Aes256PaddingPinLaw" = true := by first | (simp [plainName, overriddenIn]; done) | decide +kernel
theorem ef_0 (m : MethodId) (x0 : Int32) (x1 : Int32) (x2 : Int32) (x3 : Int32) (x4 : Int32) (x5 : Int32) : entryFrame m #[(.int x0), (.int x1), (.int x2), (.int x3), (.int x4), (.int x5)] maxLocals = mkF m 0 #[.val (.int x0), .val (.int x1), .val (.int x2), .val (.int x3), .val (.int x4), .val (.int x5), .unset, .unset, .unset, .unset, .unset, .unset, .unset, .unset, .unset] [] := by first | (simp [entryFrame, mkF, argsToLocals, Value.category, maxLocals]; done) | rfl
def Q0 (Z : State) (p0 : Int32) (p1 : Int32) (p2 : Int32) (p3 : Int32) (p4 : Int32) (p5 : Int32) (h0 : Heap) (n0 : Nat) (rv_ : Option Value) (h : Heap) (LL_ : List Loc) : Prop := rv_ = some (.int 1) ∧ Fr n0 LL_
set_option maxRecDepth 65536 in
set_option maxHeartbeats 40000000 in
theorem rm0 (l : Launch) (Z : State) (a0 : Array Value) (hw : ∀ d ∈ tables_1, d.before a0 Z = true) (ws : List Jvm.Cond) (p0 : Int32) (p1 : Int32) (p2 : Int32) (p3 : Int32) (p4 : Int32) (p5 : Int32) (h0 : Heap) (n0 : Nat) (Z0 : n0 ≤ h0.size) :
    MetFree l x (head1 (Jvm.Cond.code x code maxLocals ret :: ws) room_1) (fun aa UU => aa = #[(.int p0), (.int p1), (.int p2), (.int p3), (.int p4), (.int p5)] ∧ Z.Warmed39 UU.vm ∧ UU.heap = h0) (fun _ _ _ _ _ => True) (fun _ UU oo UV => ∃ vv LL, oo = .returned vv ∧ Q0 Z p0 p1 p2 p3 p4 p5 h0 n0 vv UV.heap LL ∧ FrameEnd UU oo UV LL room_1.cells room_1.slots) := by
  refine MetFree.of_bodySF (plainFor_of_name pn_0) hisR ?_
  intro p e s m args below meth c s₁ Bd hml0 hP hK
  obtain ⟨rfl, hZ, hh⟩ := hP
  have hx := Bd.exec
  have hby := Bd.bytes
  have hml : c.maxLocals = 15 := hml0
  have hown : s.vm.findClass "com/example/abak/abak/format/Aes256PaddingPinLaw" = some m.cls := findClass_of_methodNamed Bd.named
  have hnm := (name_of_methodNamed Bd.named Bd.method).1
  have X0 : Stand p l e room_1 s m #[(.int p0), (.int p1), (.int p2), (.int p3), (.int p4), (.int p5)] below meth c s₁ [] 0 0 := Stand.of_body Bd
  have e0 : s₁.heap = h0 := by rw [← hh, Bd.state]; rfl
  have N0 := Fr.nil n0
  have k0 : ∀ tg_, Steps p.tables e below (s₁.setTop (mkF m 0 #[.val (.int p0), .val (.int p1), .val (.int p2), .val (.int p3), .val (.int p4), .val (.int p5), .unset, .unset, .unset, .unset, .unset, .unset, .unset, .unset, .unset] [])) tg_ → Steps p.tables e below (s₁.setTop (entryFrame m #[(.int p0), (.int p1), (.int p2), (.int p3), (.int p4), (.int p5)] maxLocals)) tg_ := fun tg_ k => castTop (ef_0 m p0 p1 p2 p3 p4 p5) k
  have k72 : ∀ tg_, Steps p.tables e below (s₁.setTop (mkF m 10 #[.val (.int p0), .val (.int p1), .val (.int p2), .val (.int p3), .val (.int p4), .val (.int p5), .unset, .unset, .unset, .unset, .unset, .unset, .unset, .unset, .unset] [(.int ((16 : Int32) + ((p4 &&& (2147483647 : Int32)) % (3 : Int32))))])) tg_ → Steps p.tables e below (s₁.setTop (entryFrame m #[(.int p0), (.int p1), (.int p2), (.int p3), (.int p4), (.int p5)] maxLocals)) tg_ := by
    intro tg_ kt
    refine k0 tg_ ?_
    refine XS.bipush X0.here hx rfl (hb hby at_0) ?_
    show Steps p.tables e below (s₁.setTop (mkF m 2 #[.val (.int p0), .val (.int p1), .val (.int p2), .val (.int p3), .val (.int p4), .val (.int p5), .unset, .unset, .unset, .unset, .unset, .unset, .unset, .unset, .unset] [(.int (16 : Int32))])) _
    refine XS.iload X0.here hx rfl (hb hby at_2) rfl ?_
    show Steps p.tables e below (s₁.setTop (mkF m 4 #[.val (.int p0), .val (.int p1), .val (.int p2), .val (.int p3), .val (.int p4), .val (.int p5), .unset, .unset, .unset, .unset, .unset, .unset, .unset, .unset, .unset] [(.int p4), (.int (16 : Int32))])) _
    refine X0.ldcInt hx hown (mvT hZ (hw _ (List.mem_of_getElem? (i := 0) rfl))) (g := (mkF m 4 #[.val (.int p0), .val (.int p1), .val (.int p2), .val (.int p3), .val (.int p4), .val (.int p5), .unset, .unset, .unset, .unset, .unset, .unset, .unset, .unset, .unset] [(.int p4), (.int (16 : Int32))])) rfl (hb hby at_4) _ ?_
    show Steps p.tables e below (s₁.setTop (mkF m 6 #[.val (.int p0), .val (.int p1), .val (.int p2), .val (.int p3), .val (.int p4), .val (.int p5), .unset, .unset, .unset, .unset, .unset, .unset, .unset, .unset, .unset] [(.int (2147483647 : Int32)), (.int p4), (.int (16 : Int32))])) _
    refine XS.iand X0.here hx rfl (hb hby at_6) rfl ?_
    show Steps p.tables e below (s₁.setTop (mkF m 7 #[.val (.int p0), .val (.int p1), .val (.int p2), .val (.int p3), .val (.int p4), .val (.int p5), .unset, .unset, .unset, .unset, .unset, .unset, .unset, .unset, .unset] [(.int (p4 &&& (2147483647 : Int32))), (.int (16 : Int32))])) _
    refine XS.iconst X0.here hx rfl (hb hby at_7) ?_
    show Steps p.tables e below (s₁.setTop (mkF m 8 #[.val (.int p0), .val (.int p1), .val (.int p2), .val (.int p3), .val (.int p4), .val (.int p5), .unset, .unset, .unset, .unset, .unset, .unset, .unset, .unset, .unset] [(.int (3 : Int32)), (.int (p4 &&& (2147483647 : Int32))), (.int (16 : Int32))])) _
    refine iremM X0 hx rfl (hb hby at_8) rfl (by decide) ?_
    show Steps p.tables e below (s₁.setTop (mkF m 9 #[.val (.int p0), .val (.int p1), .val (.int p2), .val (.int p3), .val (.int p4), .val (.int p5), .unset, .unset, .unset, .unset, .unset, .unset, .unset, .unset, .unset] [(.int ((p4 &&& (2147483647 : Int32)) % (3 : Int32))), (.int (16 : Int32))])) _
    refine XS.iadd X0.here hx rfl (hb hby at_9) rfl ?_
    show Steps p.tables e below (s₁.setTop (mkF m 10 #[.val (.int p0), .val (.int p1), .val (.int p2), .val (.int p3), .val (.int p4), .val (.int p5), .unset, .unset, .unset, .unset, .unset, .unset, .unset, .unset, .unset] [(.int ((16 : Int32) + ((p4 &&& (2147483647 : Int32)) % (3 : Int32))))])) _
    exact kt
  obtain ⟨v73, hv73⟩ : ∃ z : Int32, z = ((16 : Int32) + ((p4 &&& (2147483647 : Int32)) % (3 : Int32))) := ⟨_, rfl⟩
  rw [← hv73] at k72
  have k74 : ∀ tg_, Steps p.tables e below (s₁.setTop (mkF m 19 #[.val (.int p0), .val (.int p1), .val (.int p2), .val (.int p3), .val (.int p4), .val (.int p5), .val (.int v73), .unset, .unset, .unset, .unset, .unset, .unset, .unset, .unset] [(.int ((p2 &&& (2147483647 : Int32)) % (18 : Int32)))])) tg_ → Steps p.tables e below (s₁.setTop (entryFrame m #[(.int p0), (.int p1), (.int p2), (.int p3), (.int p4), (.int p5)] maxLocals)) tg_ := by
    intro tg_ kt
    refine k72 tg_ ?_
    refine XS.istore X0.here hx rfl (hb hby at_10) rfl (l' := #[.val (.int p0), .val (.int p1), .val (.int p2), .val (.int p3), .val (.int p4), .val (.int p5), .val (.int v73), .unset, .unset, .unset, .unset, .unset, .unset, .unset, .unset]) rfl ?_
    show Steps p.tables e below (s₁.setTop (mkF m 12 #[.val (.int p0), .val (.int p1), .val (.int p2), .val (.int p3), .val (.int p4), .val (.int p5), .val (.int v73), .unset, .unset, .unset, .unset, .unset, .unset, .unset, .unset] [])) _
    refine XS.iloadN X0.here hx rfl (hb hby at_12) rfl ?_
    show Steps p.tables e below (s₁.setTop (mkF m 13 #[.val (.int p0), .val (.int p1), .val (.int p2), .val (.int p3), .val (.int p4), .val (.int p5), .val (.int v73), .unset, .unset, .unset, .unset, .unset, .unset, .unset, .unset] [(.int p2)])) _
    refine X0.ldcInt hx hown (mvT hZ (hw _ (List.mem_of_getElem? (i := 0) rfl))) (g := (mkF m 13 #[.val (.int p0), .val (.int p1), .val (.int p2), .val (.int p3), .val (.int p4), .val (.int p5), .val (.int v73), .unset, .unset, .unset, .unset, .unset, .unset, .unset, .unset] [(.int p2)])) rfl (hb hby at_13) _ ?_
    show Steps p.tables e below (s₁.setTop (mkF m 15 #[.val (.int p0), .val (.int p1), .val (.int p2), .val (.int p3), .val (.int p4), .val (.int p5), .val (.int v73), .unset, .unset, .unset, .unset, .unset, .unset, .unset, .unset] [(.int (2147483647 : Int32)), (.int p2)])) _
    refine XS.iand X0.here hx rfl (hb hby at_15) rfl ?_
    show Steps p.tables e below (s₁.setTop (mkF m 16 #[.val (.int p0), .val (.int p1), .val (.int p2), .val (.int p3), .val (.int p4), .val (.int p5), .val (.int v73), .unset, .unset, .unset, .unset, .unset, .unset, .unset, .unset] [(.int (p2 &&& (2147483647 : Int32)))])) _
    refine XS.bipush X0.here hx rfl (hb hby at_16) ?_
    show Steps p.tables e below (s₁.setTop (mkF m 18 #[.val (.int p0), .val (.int p1), .val (.int p2), .val (.int p3), .val (.int p4), .val (.int p5), .val (.int v73), .unset, .unset, .unset, .unset, .unset, .unset, .unset, .unset] [(.int (18 : Int32)), (.int (p2 &&& (2147483647 : Int32)))])) _
    refine iremM X0 hx rfl (hb hby at_18) rfl (by decide) ?_
    show Steps p.tables e below (s₁.setTop (mkF m 19 #[.val (.int p0), .val (.int p1), .val (.int p2), .val (.int p3), .val (.int p4), .val (.int p5), .val (.int v73), .unset, .unset, .unset, .unset, .unset, .unset, .unset, .unset] [(.int ((p2 &&& (2147483647 : Int32)) % (18 : Int32)))])) _
    exact kt
  obtain ⟨v75, hv75⟩ : ∃ z : Int32, z = ((p2 &&& (2147483647 : Int32)) % (18 : Int32)) := ⟨_, rfl⟩
  rw [← hv75] at k74
  have k76 : ∀ tg_, Steps p.tables e below (s₁.setTop (mkF m 23 #[.val (.int p0), .val (.int p1), .val (.int p2), .val (.int p3), .val (.int p4), .val (.int p5), .val (.int v73), .val (.int v75), .unset, .unset, .unset, .unset, .unset, .unset, .unset] [(.int (p0.toInt8.toInt32))])) tg_ → Steps p.tables e below (s₁.setTop (entryFrame m #[(.int p0), (.int p1), (.int p2), (.int p3), (.int p4), (.int p5)] maxLocals)) tg_ := by
    intro tg_ kt
    refine k74 tg_ ?_
    refine XS.istore X0.here hx rfl (hb hby at_19) rfl (l' := #[.val (.int p0), .val (.int p1), .val (.int p2), .val (.int p3), .val (.int p4), .val (.int p5), .val (.int v73), .val (.int v75), .unset, .unset, .unset, .unset, .unset, .unset, .unset]) rfl ?_
    show Steps p.tables e below (s₁.setTop (mkF m 21 #[.val (.int p0), .val (.int p1), .val (.int p2), .val (.int p3), .val (.int p4), .val (.int p5), .val (.int v73), .val (.int v75), .unset, .unset, .unset, .unset, .unset, .unset, .unset] [])) _
    refine XS.iloadN X0.here hx rfl (hb hby at_21) rfl ?_
    show Steps p.tables e below (s₁.setTop (mkF m 22 #[.val (.int p0), .val (.int p1), .val (.int p2), .val (.int p3), .val (.int p4), .val (.int p5), .val (.int v73), .val (.int v75), .unset, .unset, .unset, .unset, .unset, .unset, .unset] [(.int p0)])) _
    refine XS.i2b X0.here hx rfl (hb hby at_22) rfl ?_
    show Steps p.tables e below (s₁.setTop (mkF m 23 #[.val (.int p0), .val (.int p1), .val (.int p2), .val (.int p3), .val (.int p4), .val (.int p5), .val (.int v73), .val (.int v75), .unset, .unset, .unset, .unset, .unset, .unset, .unset] [(.int (p0.toInt8.toInt32))])) _
    exact kt
  obtain ⟨v77, hv77⟩ : ∃ z : Int32, z = (p0.toInt8.toInt32) := ⟨_, rfl⟩
  rw [← hv77] at k76
  have k78 : ∀ tg_, Steps p.tables e below (s₁.setTop (mkF m 27 #[.val (.int p0), .val (.int p1), .val (.int p2), .val (.int p3), .val (.int p4), .val (.int p5), .val (.int v73), .val (.int v75), .val (.int v77), .unset, .unset, .unset, .unset, .unset, .unset] [(.int (p3.toInt8.toInt32))])) tg_ → Steps p.tables e below (s₁.setTop (entryFrame m #[(.int p0), (.int p1), (.int p2), (.int p3), (.int p4), (.int p5)] maxLocals)) tg_ := by
    intro tg_ kt
    refine k76 tg_ ?_
    refine XS.istore X0.here hx rfl (hb hby at_23) rfl (l' := #[.val (.int p0), .val (.int p1), .val (.int p2), .val (.int p3), .val (.int p4), .val (.int p5), .val (.int v73), .val (.int v75), .val (.int v77), .unset, .unset, .unset, .unset, .unset, .unset]) rfl ?_
    show Steps p.tables e below (s₁.setTop (mkF m 25 #[.val (.int p0), .val (.int p1), .val (.int p2), .val (.int p3), .val (.int p4), .val (.int p5), .val (.int v73), .val (.int v75), .val (.int v77), .unset, .unset, .unset, .unset, .unset, .unset] [])) _
    refine XS.iloadN X0.here hx rfl (hb hby at_25) rfl ?_
    show Steps p.tables e below (s₁.setTop (mkF m 26 #[.val (.int p0), .val (.int p1), .val (.int p2), .val (.int p3), .val (.int p4), .val (.int p5), .val (.int v73), .val (.int v75), .val (.int v77), .unset, .unset, .unset, .unset, .unset, .unset] [(.int p3)])) _
    refine XS.i2b X0.here hx rfl (hb hby at_26) rfl ?_
    show Steps p.tables e below (s₁.setTop (mkF m 27 #[.val (.int p0), .val (.int p1), .val (.int p2), .val (.int p3), .val (.int p4), .val (.int p5), .val (.int v73), .val (.int v75), .val (.int v77), .unset, .unset, .unset, .unset, .unset, .unset] [(.int (p3.toInt8.toInt32))])) _
    exact kt
  obtain ⟨v79, hv79⟩ : ∃ z : Int32, z = (p3.toInt8.toInt32) := ⟨_, rfl⟩
  rw [← hv79] at k78
  have k80 : ∀ tg_, Steps p.tables e below (s₁.setTop (mkF m 31 #[.val (.int p0), .val (.int p1), .val (.int p2), .val (.int p3), .val (.int p4), .val (.int p5), .val (.int v73), .val (.int v75), .val (.int v77), .val (.int v79), .unset, .unset, .unset, .unset, .unset] [(.int (p1.toInt8.toInt32))])) tg_ → Steps p.tables e below (s₁.setTop (entryFrame m #[(.int p0), (.int p1), (.int p2), (.int p3), (.int p4), (.int p5)] maxLocals)) tg_ := by
    intro tg_ kt
    refine k78 tg_ ?_
    refine XS.istore X0.here hx rfl (hb hby at_27) rfl (l' := #[.val (.int p0), .val (.int p1), .val (.int p2), .val (.int p3), .val (.int p4), .val (.int p5), .val (.int v73), .val (.int v75), .val (.int v77), .val (.int v79), .unset, .unset, .unset, .unset, .unset]) rfl ?_
    show Steps p.tables e below (s₁.setTop (mkF m 29 #[.val (.int p0), .val (.int p1), .val (.int p2), .val (.int p3), .val (.int p4), .val (.int p5), .val (.int v73), .val (.int v75), .val (.int v77), .val (.int v79), .unset, .unset, .unset, .unset, .unset] [])) _
    refine XS.iloadN X0.here hx rfl (hb hby at_29) rfl ?_
    show Steps p.tables e below (s₁.setTop (mkF m 30 #[.val (.int p0), .val (.int p1), .val (.int p2), .val (.int p3), .val (.int p4), .val (.int p5), .val (.int v73), .val (.int v75), .val (.int v77), .val (.int v79), .unset, .unset, .unset, .unset, .unset] [(.int p1)])) _
    refine XS.i2b X0.here hx rfl (hb hby at_30) rfl ?_
    show Steps p.tables e below (s₁.setTop (mkF m 31 #[.val (.int p0), .val (.int p1), .val (.int p2), .val (.int p3), .val (.int p4), .val (.int p5), .val (.int v73), .val (.int v75), .val (.int v77), .val (.int v79), .unset, .unset, .unset, .unset, .unset] [(.int (p1.toInt8.toInt32))])) _
    exact kt
  obtain ⟨v81, hv81⟩ : ∃ z : Int32, z = (p1.toInt8.toInt32) := ⟨_, rfl⟩
  rw [← hv81] at k80
  have k82 : ∀ tg_, Steps p.tables e below (s₁.setTop (mkF m 36 #[.val (.int p0), .val (.int p1), .val (.int p2), .val (.int p3), .val (.int p4), .val (.int p5), .val (.int v73), .val (.int v75), .val (.int v77), .val (.int v79), .val (.int v81), .unset, .unset, .unset, .unset] [(.int (p5.toInt8.toInt32))])) tg_ → Steps p.tables e below (s₁.setTop (entryFrame m #[(.int p0), (.int p1), (.int p2), (.int p3), (.int p4), (.int p5)] maxLocals)) tg_ := by
    intro tg_ kt
    refine k80 tg_ ?_
    refine XS.istore X0.here hx rfl (hb hby at_31) rfl (l' := #[.val (.int p0), .val (.int p1), .val (.int p2), .val (.int p3), .val (.int p4), .val (.int p5), .val (.int v73), .val (.int v75), .val (.int v77), .val (.int v79), .val (.int v81), .unset, .unset, .unset, .unset]) rfl ?_
    show Steps p.tables e below (s₁.setTop (mkF m 33 #[.val (.int p0), .val (.int p1), .val (.int p2), .val (.int p3), .val (.int p4), .val (.int p5), .val (.int v73), .val (.int v75), .val (.int v77), .val (.int v79), .val (.int v81), .unset, .unset, .unset, .unset] [])) _
    refine XS.iload X0.here hx rfl (hb hby at_33) rfl ?_
    show Steps p.tables e below (s₁.setTop (mkF m 35 #[.val (.int p0), .val (.int p1), .val (.int p2), .val (.int p3), .val (.int p4), .val (.int p5), .val (.int v73), .val (.int v75), .val (.int v77), .val (.int v79), .val (.int v81), .unset, .unset, .unset, .unset] [(.int p5)])) _
    refine XS.i2b X0.here hx rfl (hb hby at_35) rfl ?_
    show Steps p.tables e below (s₁.setTop (mkF m 36 #[.val (.int p0), .val (.int p1), .val (.int p2), .val (.int p3), .val (.int p4), .val (.int p5), .val (.int v73), .val (.int v75), .val (.int v77), .val (.int v79), .val (.int v81), .unset, .unset, .unset, .unset] [(.int (p5.toInt8.toInt32))])) _
    exact kt
  obtain ⟨v83, hv83⟩ : ∃ z : Int32, z = (p5.toInt8.toInt32) := ⟨_, rfl⟩
  rw [← hv83] at k82
  have k84 : ∀ tg_, Steps p.tables e below (s₁.setTop (mkF m 44 #[.val (.int p0), .val (.int p1), .val (.int p2), .val (.int p3), .val (.int p4), .val (.int p5), .val (.int v73), .val (.int v75), .val (.int v77), .val (.int v79), .val (.int v81), .val (.int v83), .unset, .unset, .unset] [(.int (v77 &&& (255 : Int32)))])) tg_ → Steps p.tables e below (s₁.setTop (entryFrame m #[(.int p0), (.int p1), (.int p2), (.int p3), (.int p4), (.int p5)] maxLocals)) tg_ := by
    intro tg_ kt
    refine k82 tg_ ?_
    refine XS.istore X0.here hx rfl (hb hby at_36) rfl (l' := #[.val (.int p0), .val (.int p1), .val (.int p2), .val (.int p3), .val (.int p4), .val (.int p5), .val (.int v73), .val (.int v75), .val (.int v77), .val (.int v79), .val (.int v81), .val (.int v83), .unset, .unset, .unset]) rfl ?_
    show Steps p.tables e below (s₁.setTop (mkF m 38 #[.val (.int p0), .val (.int p1), .val (.int p2), .val (.int p3), .val (.int p4), .val (.int p5), .val (.int v73), .val (.int v75), .val (.int v77), .val (.int v79), .val (.int v81), .val (.int v83), .unset, .unset, .unset] [])) _
    refine XS.iload X0.here hx rfl (hb hby at_38) rfl ?_
    show Steps p.tables e below (s₁.setTop (mkF m 40 #[.val (.int p0), .val (.int p1), .val (.int p2), .val (.int p3), .val (.int p4), .val (.int p5), .val (.int v73), .val (.int v75), .val (.int v77), .val (.int v79), .val (.int v81), .val (.int v83), .unset, .unset, .unset] [(.int v77)])) _
    refine XS.sipush X0.here hx rfl (hb hby at_40) ?_
    show Steps p.tables e below (s₁.setTop (mkF m 43 #[.val (.int p0), .val (.int p1), .val (.int p2), .val (.int p3), .val (.int p4), .val (.int p5), .val (.int v73), .val (.int v75), .val (.int v77), .val (.int v79), .val (.int v81), .val (.int v83), .unset, .unset, .unset] [(.int (255 : Int32)), (.int v77)])) _
    refine XS.iand X0.here hx rfl (hb hby at_43) rfl ?_
    show Steps p.tables e below (s₁.setTop (mkF m 44 #[.val (.int p0), .val (.int p1), .val (.int p2), .val (.int p3), .val (.int p4), .val (.int p5), .val (.int v73), .val (.int v75), .val (.int v77), .val (.int v79), .val (.int v81), .val (.int v83), .unset, .unset, .unset] [(.int (v77 &&& (255 : Int32)))])) _
    exact kt
  obtain ⟨v85, hv85⟩ : ∃ z : Int32, z = (v77 &&& (255 : Int32)) := ⟨_, rfl⟩
  rw [← hv85] at k84
  obtain ⟨T86, h86, kA86, X86, e86, E86, A86, st86⟩ := newP X0 hx hZ (hw _ (List.mem_of_getElem? (i := 1) rfl)) e0 (g := (mkF m 48 #[.val (.int p0), .val (.int p1), .val (.int p2), .val (.int p3), .val (.int p4), .val (.int p5), .val (.int v73), .val (.int v75), .val (.int v77), .val (.int v79), .val (.int v81), .val (.int v83), .val (.int v85), .unset, .unset] [(.int (18 : Int32))])) rfl (hb hby at_48) rfl (by decide) (cap := 18) (by decide) (by decide) (by decide) (by decide)
  obtain ⟨b86, g86⟩ : ∃ z, z = h0.size := ⟨_, rfl⟩
  rw [← g86] at A86 st86
  have ge_b86 : n0 ≤ b86 := Nat.le_trans Z0 (Nat.le_of_eq g86.symm)
  have V86 : own_AI Z h86 b86 .byte 18 (fun _ => 0) := own_newI (by decide : (18 : Int32).toInt = ((18 : Nat) : Int)) A86 rfl
  obtain ⟨_, _, ⟨T87, L87, kc87, nc87⟩, -, X87, ⟨Lc87, hQ87, l87, y87, z87⟩, st87⟩ := Jvm.LawKit.callS X86 hx (y := (⟨"com/example/abak/abak/format/Aes256PaddingPinLaw", "cell", "(IIIBIBBB)B"⟩ : MethodName)) hown (mvT hZ (hw _ (List.mem_of_getElem? (i := 2) rfl))) (mvT hZ (hw _ (List.mem_of_getElem? (i := 3) rfl))) (mvT hZ (hw _ (List.mem_of_getElem? (i := 4) rfl))) (mvT hZ (hw _ (List.mem_of_getElem? (i := 5) rfl))) (by decide) (backOf (W := 3) (rm1 l Z a0 hw [] (0 : Int32) v73 v85 v77 v75 v79 v81 v83 h86 n0 ) hZ (hw _ (List.mem_of_getElem? (i := 5) rfl)) (hw _ (List.mem_of_getElem? (i := 4) rfl)) (by decide) (by decide)) (g := (mkF m 67 #[.val (.int p0), .val (.int p1), .val (.int p2), .val (.int p3), .val (.int p4), .val (.int p5), .val (.int v73), .val (.int v75), .val (.int v77), .val (.int v79), .val (.int v81), .val (.int v83), .val (.int v85), .unset, .unset] [(.int v83), (.int v81), (.int v79), (.int v75), (.int v77), (.int v85), (.int v73), (.int (0 : Int32)), (.int (0 : Int32)), (.ref b86), (.ref b86)])) rfl (by rw [hml]; rfl) (argsL := [(.int (0 : Int32)), (.int v73), (.int v85), (.int v77), (.int v75), (.int v79), (.int v81), (.int v83)]) (rest := [(.int (0 : Int32)), (.ref b86), (.ref b86)]) (lenOf pd_0 rfl) rfl (by show 2 * 0 + _ ≤ _; exact Nat.le_of_eq rfl) (hb hby at_67) (fun _ _ => ⟨rfl, e86, (by decide : 1 + 0 ≤ _), (by decide : 18 + 0 ≤ _)⟩)
  dsimp only [Pt.U, Pt.locs, Pt.cells, Pt.slots] at X87 l87 y87 z87 st87 hQ87
  rw [l87, y87, z87] at X87
  replace X87 : Stand p l e room_1 s m #[(.int p0), (.int p1), (.int p2), (.int p3), (.int p4), (.int p5)] below meth c T87 _ 1 18 := X87
  obtain ⟨rfl, Nq87, eq87⟩ := hQ87
  have N87 := Fr.app N0 Nq87
  obtain ⟨T88, h88, X88, e88, W88, V88, st88⟩ := own_stB X87 hx hZ eq87 V86 (i := 0) (by decide : (0 : Int32).toInt = ((0 : Nat) : Int)) (by decide) (g := (mkF m 70 #[.val (.int p0), .val (.int p1), .val (.int p2), .val (.int p3), .val (.int p4), .val (.int p5), .val (.int v73), .val (.int v75), .val (.int v77), .val (.int v79), .val (.int v81), .val (.int v83), .val (.int v85), .unset, .unset] [(.int (own_cell (0 : Int32) v73 v85 v77 v75 v79 v81 v83)), (.int (0 : Int32)), (.ref b86), (.ref b86)])) rfl rfl (hb hby at_70)
  have N88 := Fr.snoc X88 N87 ge_b86
  obtain ⟨_, _, ⟨T89, L89, kc89, nc89⟩, -, X89, ⟨Lc89, hQ89, l89, y89, z89⟩, st89⟩ := Jvm.LawKit.callS X88 hx (y := (⟨"com/example/abak/abak/format/Aes256PaddingPinLaw", "cell", "(IIIBIBBB)B"⟩ : MethodName)) hown (mvT hZ (hw _ (List.mem_of_getElem? (i := 2) rfl))) (mvT hZ (hw _ (List.mem_of_getElem? (i := 3) rfl))) (mvT hZ (hw _ (List.mem_of_getElem? (i := 4) rfl))) (mvT hZ (hw _ (List.mem_of_getElem? (i := 5) rfl))) (by decide) (backOf (W := 3) (rm1 l Z a0 hw [] (1 : Int32) v73 v85 v77 v75 v79 v81 v83 h88 n0 ) hZ (hw _ (List.mem_of_getElem? (i := 5) rfl)) (hw _ (List.mem_of_getElem? (i := 4) rfl)) (by decide) (by decide)) (g := (mkF m 88 #[.val (.int p0), .val (.int p1), .val (.int p2), .val (.int p3), .val (.int p4), .val (.int p5), .val (.int v73), .val (.int v75), .val (.int v77), .val (.int v79), .val (.int v81), .val (.int v83), .val (.int v85), .unset, .unset] [(.int v83), (.int v81), (.int v79), (.int v75), (.int v77), (.int v85), (.int v73), (.int (1 : Int32)), (.int (1 : Int32)), (.ref b86), (.ref b86)])) rfl (by rw [hml]; rfl) (argsL := [(.int (1 : Int32)), (.int v73), (.int v85), (.int v77), (.int v75), (.int v79), (.int v81), (.int v83)]) (rest := [(.int (1 : Int32)), (.ref b86), (.ref b86)]) (lenOf pd_0 rfl) rfl (by show 2 * 0 + _ ≤ _; exact Nat.le_of_eq rfl) (hb hby at_88) (fun _ _ => ⟨rfl, e88, (by decide : 1 + 0 ≤ _), (by decide : 18 + 0 ≤ _)⟩)
  dsimp only [Pt.U, Pt.locs, Pt.cells, Pt.slots] at X89 l89 y89 z89 st89 hQ89
  rw [l89, y89, z89] at X89
  replace X89 : Stand p l e room_1 s m #[(.int p0), (.int p1), (.int p2), (.int p3), (.int p4), (.int p5)] below meth c T89 _ 1 18 := X89
  obtain ⟨rfl, Nq89, eq89⟩ := hQ89
  have N89 := Fr.app N88 Nq89
  have k90 : ∀ tg_, Steps p.tables e below (T89.setTop (mkF m 91 #[.val (.int p0), .val (.int p1), .val (.int p2), .val (.int p3), .val (.int p4), .val (.int p5), .val (.int v73), .val (.int v75), .val (.int v77), .val (.int v79), .val (.int v81), .val (.int v83), .val (.int v85), .unset, .unset] [(.int (own_cell (1 : Int32) v73 v85 v77 v75 v79 v81 v83)), (.int (1 : Int32)), (.ref b86), (.ref b86)])) tg_ → Steps p.tables e below (s₁.setTop (entryFrame m #[(.int p0), (.int p1), (.int p2), (.int p3), (.int p4), (.int p5)] maxLocals)) tg_ := by
    intro tg_ kt
    refine k84 tg_ ?_
    refine XS.istore X0.here hx rfl (hb hby at_44) rfl (l' := #[.val (.int p0), .val (.int p1), .val (.int p2), .val (.int p3), .val (.int p4), .val (.int p5), .val (.int v73), .val (.int v75), .val (.int v77), .val (.int v79), .val (.int v81), .val (.int v83), .val (.int v85), .unset, .unset]) rfl ?_
    show Steps p.tables e below (s₁.setTop (mkF m 46 #[.val (.int p0), .val (.int p1), .val (.int p2), .val (.int p3), .val (.int p4), .val (.int p5), .val (.int v73), .val (.int v75), .val (.int v77), .val (.int v79), .val (.int v81), .val (.int v83), .val (.int v85), .unset, .unset] [])) _
    refine XS.bipush X0.here hx rfl (hb hby at_46) ?_
    show Steps p.tables e below (s₁.setTop (mkF m 48 #[.val (.int p0), .val (.int p1), .val (.int p2), .val (.int p3), .val (.int p4), .val (.int p5), .val (.int v73), .val (.int v75), .val (.int v77), .val (.int v79), .val (.int v81), .val (.int v83), .val (.int v85), .unset, .unset] [(.int (18 : Int32))])) _
    refine st86 _ ?_
    show Steps p.tables e below (T86.setTop (mkF m 50 #[.val (.int p0), .val (.int p1), .val (.int p2), .val (.int p3), .val (.int p4), .val (.int p5), .val (.int v73), .val (.int v75), .val (.int v77), .val (.int v79), .val (.int v81), .val (.int v83), .val (.int v85), .unset, .unset] [(.ref b86)])) _
    refine XS.dup X86.here hx rfl (hb hby at_50) rfl rfl ?_
    show Steps p.tables e below (T86.setTop (mkF m 51 #[.val (.int p0), .val (.int p1), .val (.int p2), .val (.int p3), .val (.int p4), .val (.int p5), .val (.int v73), .val (.int v75), .val (.int v77), .val (.int v79), .val (.int v81), .val (.int v83), .val (.int v85), .unset, .unset] [(.ref b86), (.ref b86)])) _
    refine XS.iconst X86.here hx rfl (hb hby at_51) ?_
    show Steps p.tables e below (T86.setTop (mkF m 52 #[.val (.int p0), .val (.int p1), .val (.int p2), .val (.int p3), .val (.int p4), .val (.int p5), .val (.int v73), .val (.int v75), .val (.int v77), .val (.int v79), .val (.int v81), .val (.int v83), .val (.int v85), .unset, .unset] [(.int (0 : Int32)), (.ref b86), (.ref b86)])) _
    refine XS.iconst X86.here hx rfl (hb hby at_52) ?_
    show Steps p.tables e below (T86.setTop (mkF m 53 #[.val (.int p0), .val (.int p1), .val (.int p2), .val (.int p3), .val (.int p4), .val (.int p5), .val (.int v73), .val (.int v75), .val (.int v77), .val (.int v79), .val (.int v81), .val (.int v83), .val (.int v85), .unset, .unset] [(.int (0 : Int32)), (.int (0 : Int32)), (.ref b86), (.ref b86)])) _
    refine XS.iload X86.here hx rfl (hb hby at_53) rfl ?_
    show Steps p.tables e below (T86.setTop (mkF m 55 #[.val (.int p0), .val (.int p1), .val (.int p2), .val (.int p3), .val (.int p4), .val (.int p5), .val (.int v73), .val (.int v75), .val (.int v77), .val (.int v79), .val (.int v81), .val (.int v83), .val (.int v85), .unset, .unset] [(.int v73), (.int (0 : Int32)), (.int (0 : Int32)), (.ref b86), (.ref b86)])) _
    refine XS.iload X86.here hx rfl (hb hby at_55) rfl ?_
    show Steps p.tables e below (T86.setTop (mkF m 57 #[.val (.int p0), .val (.int p1), .val (.int p2), .val (.int p3), .val (.int p4), .val (.int p5), .val (.int v73), .val (.int v75), .val (.int v77), .val (.int v79), .val (.int v81), .val (.int v83), .val (.int v85), .unset, .unset] [(.int v85), (.int v73), (.int (0 : Int32)), (.int (0 : Int32)), (.ref b86), (.ref b86)])) _
    refine XS.iload X86.here hx rfl (hb hby at_57) rfl ?_
    show Steps p.tables e below (T86.setTop (mkF m 59 #[.val (.int p0), .val (.int p1), .val (.int p2), .val (.int p3), .val (.int p4), .val (.int p5), .val (.int v73), .val (.int v75), .val (.int v77), .val (.int v79), .val (.int v81), .val (.int v83), .val (.int v85), .unset, .unset] [(.int v77), (.int v85), (.int v73), (.int (0 : Int32)), (.int (0 : Int32)), (.ref b86), (.ref b86)])) _
    refine XS.iload X86.here hx rfl (hb hby at_59) rfl ?_
    show Steps p.tables e below (T86.setTop (mkF m 61 #[.val (.int p0), .val (.int p1), .val (.int p2), .val (.int p3), .val (.int p4), .val (.int p5), .val (.int v73), .val (.int v75), .val (.int v77), .val (.int v79), .val (.int v81), .val (.int v83), .val (.int v85), .unset, .unset] [(.int v75), (.int v77), (.int v85), (.int v73), (.int (0 : Int32)), (.int (0 : Int32)), (.ref b86), (.ref b86)])) _
    refine XS.iload X86.here hx rfl (hb hby at_61) rfl ?_
    show Steps p.tables e below (T86.setTop (mkF m 63 #[.val (.int p0), .val (.int p1), .val (.int p2), .val (.int p3), .val (.int p4), .val (.int p5), .val (.int v73), .val (.int v75), .val (.int v77), .val (.int v79), .val (.int v81), .val (.int v83), .val (.int v85), .unset, .unset] [(.int v79), (.int v75), (.int v77), (.int v85), (.int v73), (.int (0 : Int32)), (.int (0 : Int32)), (.ref b86), (.ref b86)])) _
    refine XS.iload X86.here hx rfl (hb hby at_63) rfl ?_
    show Steps p.tables e below (T86.setTop (mkF m 65 #[.val (.int p0), .val (.int p1), .val (.int p2), .val (.int p3), .val (.int p4), .val (.int p5), .val (.int v73), .val (.int v75), .val (.int v77), .val (.int v79), .val (.int v81), .val (.int v83), .val (.int v85), .unset, .unset] [(.int v81), (.int v79), (.int v75), (.int v77), (.int v85), (.int v73), (.int (0 : Int32)), (.int (0 : Int32)), (.ref b86), (.ref b86)])) _
    refine XS.iload X86.here hx rfl (hb hby at_65) rfl ?_
    show Steps p.tables e below (T86.setTop (mkF m 67 #[.val (.int p0), .val (.int p1), .val (.int p2), .val (.int p3), .val (.int p4), .val (.int p5), .val (.int v73), .val (.int v75), .val (.int v77), .val (.int v79), .val (.int v81), .val (.int v83), .val (.int v85), .unset, .unset] [(.int v83), (.int v81), (.int v79), (.int v75), (.int v77), (.int v85), (.int v73), (.int (0 : Int32)), (.int (0 : Int32)), (.ref b86), (.ref b86)])) _
    refine st87 _ ?_
    show Steps p.tables e below (T87.setTop (mkF m 70 #[.val (.int p0), .val (.int p1), .val (.int p2), .val (.int p3), .val (.int p4), .val (.int p5), .val (.int v73), .val (.int v75), .val (.int v77), .val (.int v79), .val (.int v81), .val (.int v83), .val (.int v85), .unset, .unset] [(.int (own_cell (0 : Int32) v73 v85 v77 v75 v79 v81 v83)), (.int (0 : Int32)), (.ref b86), (.ref b86)])) _
    refine st88 _ ?_
    show Steps p.tables e below (T88.setTop (mkF m 71 #[.val (.int p0), .val (.int p1), .val (.int p2), .val (.int p3), .val (.int p4), .val (.int p5), .val (.int v73), .val (.int v75), .val (.int v77), .val (.int v79), .val (.int v81), .val (.int v83), .val (.int v85), .unset, .unset] [(.ref b86)])) _
    refine XS.dup X88.here hx rfl (hb hby at_71) rfl rfl ?_
    show Steps p.tables e below (T88.setTop (mkF m 72 #[.val (.int p0), .val (.int p1), .val (.int p2), .val (.int p3), .val (.int p4), .val (.int p5), .val (.int v73), .val (.int v75), .val (.int v77), .val (.int v79), .val (.int v81), .val (.int v83), .val (.int v85), .unset, .unset] [(.ref b86), (.ref b86)])) _
    refine XS.iconst X88.here hx rfl (hb hby at_72) ?_
    show Steps p.tables e below (T88.setTop (mkF m 73 #[.val (.int p0), .val (.int p1), .val (.int p2), .val (.int p3), .val (.int p4), .val (.int p5), .val (.int v73), .val (.int v75), .val (.int v77), .val (.int v79), .val (.int v81), .val (.int v83), .val (.int v85), .unset, .unset] [(.int (1 : Int32)), (.ref b86), (.ref b86)])) _
    refine XS.iconst X88.here hx rfl (hb hby at_73) ?_
    show Steps p.tables e below (T88.setTop (mkF m 74 #[.val (.int p0), .val (.int p1), .val (.int p2), .val (.int p3), .val (.int p4), .val (.int p5), .val (.int v73), .val (.int v75), .val (.int v77), .val (.int v79), .val (.int v81), .val (.int v83), .val (.int v85), .unset, .unset] [(.int (1 : Int32)), (.int (1 : Int32)), (.ref b86), (.ref b86)])) _
    refine XS.iload X88.here hx rfl (hb hby at_74) rfl ?_
    show Steps p.tables e below (T88.setTop (mkF m 76 #[.val (.int p0), .val (.int p1), .val (.int p2), .val (.int p3), .val (.int p4), .val (.int p5), .val (.int v73), .val (.int v75), .val (.int v77), .val (.int v79), .val (.int v81), .val (.int v83), .val (.int v85), .unset, .unset] [(.int v73), (.int (1 : Int32)), (.int (1 : Int32)), (.ref b86), (.ref b86)])) _
    refine XS.iload X88.here hx rfl (hb hby at_76) rfl ?_
    show Steps p.tables e below (T88.setTop (mkF m 78 #[.val (.int p0), .val (.int p1), .val (.int p2), .val (.int p3), .val (.int p4), .val (.int p5), .val (.int v73), .val (.int v75), .val (.int v77), .val (.int v79), .val (.int v81), .val (.int v83), .val (.int v85), .unset, .unset] [(.int v85), (.int v73), (.int (1 : Int32)), (.int (1 : Int32)), (.ref b86), (.ref b86)])) _
    refine XS.iload X88.here hx rfl (hb hby at_78) rfl ?_
    show Steps p.tables e below (T88.setTop (mkF m 80 #[.val (.int p0), .val (.int p1), .val (.int p2), .val (.int p3), .val (.int p4), .val (.int p5), .val (.int v73), .val (.int v75), .val (.int v77), .val (.int v79), .val (.int v81), .val (.int v83), .val (.int v85), .unset, .unset] [(.int v77), (.int v85), (.int v73), (.int (1 : Int32)), (.int (1 : Int32)), (.ref b86), (.ref b86)])) _
    refine XS.iload X88.here hx rfl (hb hby at_80) rfl ?_
    show Steps p.tables e below (T88.setTop (mkF m 82 #[.val (.int p0), .val (.int p1), .val (.int p2), .val (.int p3), .val (.int p4), .val (.int p5), .val (.int v73), .val (.int v75), .val (.int v77), .val (.int v79), .val (.int v81), .val (.int v83), .val (.int v85), .unset, .unset] [(.int v75), (.int v77), (.int v85), (.int v73), (.int (1 : Int32)), (.int (1 : Int32)), (.ref b86), (.ref b86)])) _
    refine XS.iload X88.here hx rfl (hb hby at_82) rfl ?_
    show Steps p.tables e below (T88.setTop (mkF m 84 #[.val (.int p0), .val (.int p1), .val (.int p2), .val (.int p3), .val (.int p4), .val (.int p5), .val (.int v73), .val (.int v75), .val (.int v77), .val (.int v79), .val (.int v81), .val (.int v83), .val (.int v85), .unset, .unset] [(.int v79), (.int v75), (.int v77), (.int v85), (.int v73), (.int (1 : Int32)), (.int (1 : Int32)), (.ref b86), (.ref b86)])) _
    refine XS.iload X88.here hx rfl (hb hby at_84) rfl ?_
    show Steps p.tables e below (T88.setTop (mkF m 86 #[.val (.int p0), .val (.int p1), .val (.int p2), .val (.int p3), .val (.int p4), .val (.int p5), .val (.int v73), .val (.int v75), .val (.int v77), .val (.int v79), .val (.int v81), .val (.int v83), .val (.int v85), .unset, .unset] [(.int v81), (.int v79), (.int v75), (.int v77), (.int v85), (.int v73), (.int (1 : Int32)), (.int (1 : Int32)), (.ref b86), (.ref b86)])) _
    refine XS.iload X88.here hx rfl (hb hby at_86) rfl ?_
    show Steps p.tables e below (T88.setTop (mkF m 88 #[.val (.int p0), .val (.int p1), .val (.int p2), .val (.int p3), .val (.int p4), .val (.int p5), .val (.int v73), .val (.int v75), .val (.int v77), .val (.int v79), .val (.int v81), .val (.int v83), .val (.int v85), .unset, .unset] [(.int v83), (.int v81), (.int v79), (.int v75), (.int v77), (.int v85), (.int v73), (.int (1 : Int32)), (.int (1 : Int32)), (.ref b86), (.ref b86)])) _
    refine st89 _ ?_
    show Steps p.tables e below (T89.setTop (mkF m 91 #[.val (.int p0), .val (.int p1), .val (.int p2), .val (.int p3), .val (.int p4), .val (.int p5), .val (.int v73), .val (.int v75), .val (.int v77), .val (.int v79), .val (.int v81), .val (.int v83), .val (.int v85), .unset, .unset] [(.int (own_cell (1 : Int32) v73 v85 v77 v75 v79 v81 v83)), (.int (1 : Int32)), (.ref b86), (.ref b86)])) _
    exact kt
  obtain ⟨T91, h91, X91, e91, W91, V91, st91⟩ := own_stB X89 hx hZ eq89 V88 (i := 1) (by decide : (1 : Int32).toInt = ((1 : Nat) : Int)) (by decide) (g := (mkF m 91 #[.val (.int p0), .val (.int p1), .val (.int p2), .val (.int p3), .val (.int p4), .val (.int p5), .val (.int v73), .val (.int v75), .val (.int v77), .val (.int v79), .val (.int v81), .val (.int v83), .val (.int v85), .unset, .unset] [(.int (own_cell (1 : Int32) v73 v85 v77 v75 v79 v81 v83)), (.int (1 : Int32)), (.ref b86), (.ref b86)])) rfl rfl (hb hby at_91)
  have N91 := Fr.snoc X91 N89 ge_b86
  obtain ⟨_, _, ⟨T92, L92, kc92, nc92⟩, -, X92, ⟨Lc92, hQ92, l92, y92, z92⟩, st92⟩ := Jvm.LawKit.callS X91 hx (y := (⟨"com/example/abak/abak/format/Aes256PaddingPinLaw", "cell", "(IIIBIBBB)B"⟩ : MethodName)) hown (mvT hZ (hw _ (List.mem_of_getElem? (i := 2) rfl))) (mvT hZ (hw _ (List.mem_of_getElem? (i := 3) rfl))) (mvT hZ (hw _ (List.mem_of_getElem? (i := 4) rfl))) (mvT hZ (hw _ (List.mem_of_getElem? (i := 5) rfl))) (by decide) (backOf (W := 3) (rm1 l Z a0 hw [] (2 : Int32) v73 v85 v77 v75 v79 v81 v83 h91 n0 ) hZ (hw _ (List.mem_of_getElem? (i := 5) rfl)) (hw _ (List.mem_of_getElem? (i := 4) rfl)) (by decide) (by decide)) (g := (mkF m 109 #[.val (.int p0), .val (.int p1), .val (.int p2), .val (.int p3), .val (.int p4), .val (.int p5), .val (.int v73), .val (.int v75), .val (.int v77), .val (.int v79), .val (.int v81), .val (.int v83), .val (.int v85), .unset, .unset] [(.int v83), (.int v81), (.int v79), (.int v75), (.int v77), (.int v85), (.int v73), (.int (2 : Int32)), (.int (2 : Int32)), (.ref b86), (.ref b86)])) rfl (by rw [hml]; rfl) (argsL := [(.int (2 : Int32)), (.int v73), (.int v85), (.int v77), (.int v75), (.int v79), (.int v81), (.int v83)]) (rest := [(.int (2 : Int32)), (.ref b86), (.ref b86)]) (lenOf pd_0 rfl) rfl (by show 2 * 0 + _ ≤ _; exact Nat.le_of_eq rfl) (hb hby at_109) (fun _ _ => ⟨rfl, e91, (by decide : 1 + 0 ≤ _), (by decide : 18 + 0 ≤ _)⟩)
  dsimp only [Pt.U, Pt.locs, Pt.cells, Pt.slots] at X92 l92 y92 z92 st92 hQ92
  rw [l92, y92, z92] at X92
  replace X92 : Stand p l e room_1 s m #[(.int p0), (.int p1), (.int p2), (.int p3), (.int p4), (.int p5)] below meth c T92 _ 1 18 := X92
  obtain ⟨rfl, Nq92, eq92⟩ := hQ92
  have N92 := Fr.app N91 Nq92
  obtain ⟨T93, h93, X93, e93, W93, V93, st93⟩ := own_stB X92 hx hZ eq92 V91 (i := 2) (by decide : (2 : Int32).toInt = ((2 : Nat) : Int)) (by decide) (g := (mkF m 112 #[.val (.int p0), .val (.int p1), .val (.int p2), .val (.int p3), .val (.int p4), .val (.int p5), .val (.int v73), .val (.int v75), .val (.int v77), .val (.int v79), .val (.int v81), .val (.int v83), .val (.int v85), .unset, .unset] [(.int (own_cell (2 : Int32) v73 v85 v77 v75 v79 v81 v83)), (.int (2 : Int32)), (.ref b86), (.ref b86)])) rfl rfl (hb hby at_112)
  have N93 := Fr.snoc X93 N92 ge_b86
  obtain ⟨_, _, ⟨T94, L94, kc94, nc94⟩, -, X94, ⟨Lc94, hQ94, l94, y94, z94⟩, st94⟩ := Jvm.LawKit.callS X93 hx (y := (⟨"com/example/abak/abak/format/Aes256PaddingPinLaw", "cell", "(IIIBIBBB)B"⟩ : MethodName)) hown (mvT hZ (hw _ (List.mem_of_getElem? (i := 2) rfl))) (mvT hZ (hw _ (List.mem_of_getElem? (i := 3) rfl))) (mvT hZ (hw _ (List.mem_of_getElem? (i := 4) rfl))) (mvT hZ (hw _ (List.mem_of_getElem? (i := 5) rfl))) (by decide) (backOf (W := 3) (rm1 l Z a0 hw [] (3 : Int32) v73 v85 v77 v75 v79 v81 v83 h93 n0 ) hZ (hw _ (List.mem_of_getElem? (i := 5) rfl)) (hw _ (List.mem_of_getElem? (i := 4) rfl)) (by decide) (by decide)) (g := (mkF m 130 #[.val (.int p0), .val (.int p1), .val (.int p2), .val (.int p3), .val (.int p4), .val (.int p5), .val (.int v73), .val (.int v75), .val (.int v77), .val (.int v79), .val (.int v81), .val (.int v83), .val (.int v85), .unset, .unset] [(.int v83), (.int v81), (.int v79), (.int v75), (.int v77), (.int v85), (.int v73), (.int (3 : Int32)), (.int (3 : Int32)), (.ref b86), (.ref b86)])) rfl (by rw [hml]; rfl) (argsL := [(.int (3 : Int32)), (.int v73), (.int v85), (.int v77), (.int v75), (.int v79), (.int v81), (.int v83)]) (rest := [(.int (3 : Int32)), (.ref b86), (.ref b86)]) (lenOf pd_0 rfl) rfl (by show 2 * 0 + _ ≤ _; exact Nat.le_of_eq rfl) (hb hby at_130) (fun _ _ => ⟨rfl, e93, (by decide : 1 + 0 ≤ _), (by decide : 18 + 0 ≤ _)⟩)
  dsimp only [Pt.U, Pt.locs, Pt.cells, Pt.slots] at X94 l94 y94 z94 st94 hQ94
  rw [l94, y94, z94] at X94
  replace X94 : Stand p l e room_1 s m #[(.int p0), (.int p1), (.int p2), (.int p3), (.int p4), (.int p5)] below meth c T94 _ 1 18 := X94
  obtain ⟨rfl, Nq94, eq94⟩ := hQ94
  have N94 := Fr.app N93 Nq94
  obtain ⟨T95, h95, X95, e95, W95, V95, st95⟩ := own_stB X94 hx hZ eq94 V93 (i := 3) (by decide : (3 : Int32).toInt = ((3 : Nat) : Int)) (by decide) (g := (mkF m 133 #[.val (.int p0), .val (.int p1), .val (.int p2), .val (.int p3), .val (.int p4), .val (.int p5), .val (.int v73), .val (.int v75), .val (.int v77), .val (.int v79), .val (.int v81), .val (.int v83), .val (.int v85), .unset, .unset] [(.int (own_cell (3 : Int32) v73 v85 v77 v75 v79 v81 v83)), (.int (3 : Int32)), (.ref b86), (.ref b86)])) rfl rfl (hb hby at_133)
  have N95 := Fr.snoc X95 N94 ge_b86
  have k96 : ∀ tg_, Steps p.tables e below (T95.setTop (mkF m 135 #[.val (.int p0), .val (.int p1), .val (.int p2), .val (.int p3), .val (.int p4), .val (.int p5), .val (.int v73), .val (.int v75), .val (.int v77), .val (.int v79), .val (.int v81), .val (.int v83), .val (.int v85), .unset, .unset] [(.ref b86), (.ref b86)])) tg_ → Steps p.tables e below (s₁.setTop (entryFrame m #[(.int p0), (.int p1), (.int p2), (.int p3), (.int p4), (.int p5)] maxLocals)) tg_ := by
    intro tg_ kt
    refine k90 tg_ ?_
    refine st91 _ ?_
    show Steps p.tables e below (T91.setTop (mkF m 92 #[.val (.int p0), .val (.int p1), .val (.int p2), .val (.int p3), .val (.int p4), .val (.int p5), .val (.int v73), .val (.int v75), .val (.int v77), .val (.int v79), .val (.int v81), .val (.int v83), .val (.int v85), .unset, .unset] [(.ref b86)])) _
    refine XS.dup X91.here hx rfl (hb hby at_92) rfl rfl ?_
    show Steps p.tables e below (T91.setTop (mkF m 93 #[.val (.int p0), .val (.int p1), .val (.int p2), .val (.int p3), .val (.int p4), .val (.int p5), .val (.int v73), .val (.int v75), .val (.int v77), .val (.int v79), .val (.int v81), .val (.int v83), .val (.int v85), .unset, .unset] [(.ref b86), (.ref b86)])) _
    refine XS.iconst X91.here hx rfl (hb hby at_93) ?_
    show Steps p.tables e below (T91.setTop (mkF m 94 #[.val (.int p0), .val (.int p1), .val (.int p2), .val (.int p3), .val (.int p4), .val (.int p5), .val (.int v73), .val (.int v75), .val (.int v77), .val (.int v79), .val (.int v81), .val (.int v83), .val (.int v85), .unset, .unset] [(.int (2 : Int32)), (.ref b86), (.ref b86)])) _
    refine XS.iconst X91.here hx rfl (hb hby at_94) ?_
    show Steps p.tables e below (T91.setTop (mkF m 95 #[.val (.int p0), .val (.int p1), .val (.int p2), .val (.int p3), .val (.int p4), .val (.int p5), .val (.int v73), .val (.int v75), .val (.int v77), .val (.int v79), .val (.int v81), .val (.int v83), .val (.int v85), .unset, .unset] [(.int (2 : Int32)), (.int (2 : Int32)), (.ref b86), (.ref b86)])) _
    refine XS.iload X91.here hx rfl (hb hby at_95) rfl ?_
    show Steps p.tables e below (T91.setTop (mkF m 97 #[.val (.int p0), .val (.int p1), .val (.int p2), .val (.int p3), .val (.int p4), .val (.int p5), .val (.int v73), .val (.int v75), .val (.int v77), .val (.int v79), .val (.int v81), .val (.int v83), .val (.int v85), .unset, .unset] [(.int v73), (.int (2 : Int32)), (.int (2 : Int32)), (.ref b86), (.ref b86)])) _
    refine XS.iload X91.here hx rfl (hb hby at_97) rfl ?_
    show Steps p.tables e below (T91.setTop (mkF m 99 #[.val (.int p0), .val (.int p1), .val (.int p2), .val (.int p3), .val (.int p4), .val (.int p5), .val (.int v73), .val (.int v75), .val (.int v77), .val (.int v79), .val (.int v81), .val (.int v83), .val (.int v85), .unset, .unset] [(.int v85), (.int v73), (.int (2 : Int32)), (.int (2 : Int32)), (.ref b86), (.ref b86)])) _
    refine XS.iload X91.here hx rfl (hb hby at_99) rfl ?_
    show Steps p.tables e below (T91.setTop (mkF m 101 #[.val (.int p0), .val (.int p1), .val (.int p2), .val (.int p3), .val (.int p4), .val (.int p5), .val (.int v73), .val (.int v75), .val (.int v77), .val (.int v79), .val (.int v81), .val (.int v83), .val (.int v85), .unset, .unset] [(.int v77), (.int v85), (.int v73), (.int (2 : Int32)), (.int (2 : Int32)), (.ref b86), (.ref b86)])) _
    refine XS.iload X91.here hx rfl (hb hby at_101) rfl ?_
    show Steps p.tables e below (T91.setTop (mkF m 103 #[.val (.int p0), .val (.int p1), .val (.int p2), .val (.int p3), .val (.int p4), .val (.int p5), .val (.int v73), .val (.int v75), .val (.int v77), .val (.int v79), .val (.int v81), .val (.int v83), .val (.int v85), .unset, .unset] [(.int v75), (.int v77), (.int v85), (.int v73), (.int (2 : Int32)), (.int (2 : Int32)), (.ref b86), (.ref b86)])) _
    refine XS.iload X91.here hx rfl (hb hby at_103) rfl ?_
    show Steps p.tables e below (T91.setTop (mkF m 105 #[.val (.int p0), .val (.int p1), .val (.int p2), .val (.int p3), .val (.int p4), .val (.int p5), .val (.int v73), .val (.int v75), .val (.int v77), .val (.int v79), .val (.int v81), .val (.int v83), .val (.int v85), .unset, .unset] [(.int v79), (.int v75), (.int v77), (.int v85), (.int v73), (.int (2 : Int32)), (.int (2 : Int32)), (.ref b86), (.ref b86)])) _
    refine XS.iload X91.here hx rfl (hb hby at_105) rfl ?_
    show Steps p.tables e below (T91.setTop (mkF m 107 #[.val (.int p0), .val (.int p1), .val (.int p2), .val (.int p3), .val (.int p4), .val (.int p5), .val (.int v73), .val (.int v75), .val (.int v77), .val (.int v79), .val (.int v81), .val (.int v83), .val (.int v85), .unset, .unset] [(.int v81), (.int v79), (.int v75), (.int v77), (.int v85), (.int v73), (.int (2 : Int32)), (.int (2 : Int32)), (.ref b86), (.ref b86)])) _
    refine XS.iload X91.here hx rfl (hb hby at_107) rfl ?_
    show Steps p.tables e below (T91.setTop (mkF m 109 #[.val (.int p0), .val (.int p1), .val (.int p2), .val (.int p3), .val (.int p4), .val (.int p5), .val (.int v73), .val (.int v75), .val (.int v77), .val (.int v79), .val (.int v81), .val (.int v83), .val (.int v85), .unset, .unset] [(.int v83), (.int v81), (.int v79), (.int v75), (.int v77), (.int v85), (.int v73), (.int (2 : Int32)), (.int (2 : Int32)), (.ref b86), (.ref b86)])) _
    refine st92 _ ?_
    show Steps p.tables e below (T92.setTop (mkF m 112 #[.val (.int p0), .val (.int p1), .val (.int p2), .val (.int p3), .val (.int p4), .val (.int p5), .val (.int v73), .val (.int v75), .val (.int v77), .val (.int v79), .val (.int v81), .val (.int v83), .val (.int v85), .unset, .unset] [(.int (own_cell (2 : Int32) v73 v85 v77 v75 v79 v81 v83)), (.int (2 : Int32)), (.ref b86), (.ref b86)])) _
    refine st93 _ ?_
    show Steps p.tables e below (T93.setTop (mkF m 113 #[.val (.int p0), .val (.int p1), .val (.int p2), .val (.int p3), .val (.int p4), .val (.int p5), .val (.int v73), .val (.int v75), .val (.int v77), .val (.int v79), .val (.int v81), .val (.int v83), .val (.int v85), .unset, .unset] [(.ref b86)])) _
    refine XS.dup X93.here hx rfl (hb hby at_113) rfl rfl ?_
    show Steps p.tables e below (T93.setTop (mkF m 114 #[.val (.int p0), .val (.int p1), .val (.int p2), .val (.int p3), .val (.int p4), .val (.int p5), .val (.int v73), .val (.int v75), .val (.int v77), .val (.int v79), .val (.int v81), .val (.int v83), .val (.int v85), .unset, .unset] [(.ref b86), (.ref b86)])) _
    refine XS.iconst X93.here hx rfl (hb hby at_114) ?_
    show Steps p.tables e below (T93.setTop (mkF m 115 #[.val (.int p0), .val (.int p1), .val (.int p2), .val (.int p3), .val (.int p4), .val (.int p5), .val (.int v73), .val (.int v75), .val (.int v77), .val (.int v79), .val (.int v81), .val (.int v83), .val (.int v85), .unset, .unset] [(.int (3 : Int32)), (.ref b86), (.ref b86)])) _
    refine XS.iconst X93.here hx rfl (hb hby at_115) ?_
    show Steps p.tables e below (T93.setTop (mkF m 116 #[.val (.int p0), .val (.int p1), .val (.int p2), .val (.int p3), .val (.int p4), .val (.int p5), .val (.int v73), .val (.int v75), .val (.int v77), .val (.int v79), .val (.int v81), .val (.int v83), .val (.int v85), .unset, .unset] [(.int (3 : Int32)), (.int (3 : Int32)), (.ref b86), (.ref b86)])) _
    refine XS.iload X93.here hx rfl (hb hby at_116) rfl ?_
    show Steps p.tables e below (T93.setTop (mkF m 118 #[.val (.int p0), .val (.int p1), .val (.int p2), .val (.int p3), .val (.int p4), .val (.int p5), .val (.int v73), .val (.int v75), .val (.int v77), .val (.int v79), .val (.int v81), .val (.int v83), .val (.int v85), .unset, .unset] [(.int v73), (.int (3 : Int32)), (.int (3 : Int32)), (.ref b86), (.ref b86)])) _
    refine XS.iload X93.here hx rfl (hb hby at_118) rfl ?_
    show Steps p.tables e below (T93.setTop (mkF m 120 #[.val (.int p0), .val (.int p1), .val (.int p2), .val (.int p3), .val (.int p4), .val (.int p5), .val (.int v73), .val (.int v75), .val (.int v77), .val (.int v79), .val (.int v81), .val (.int v83), .val (.int v85), .unset, .unset] [(.int v85), (.int v73), (.int (3 : Int32)), (.int (3 : Int32)), (.ref b86), (.ref b86)])) _
    refine XS.iload X93.here hx rfl (hb hby at_120) rfl ?_
    show Steps p.tables e below (T93.setTop (mkF m 122 #[.val (.int p0), .val (.int p1), .val (.int p2), .val (.int p3), .val (.int p4), .val (.int p5), .val (.int v73), .val (.int v75), .val (.int v77), .val (.int v79), .val (.int v81), .val (.int v83), .val (.int v85), .unset, .unset] [(.int v77), (.int v85), (.int v73), (.int (3 : Int32)), (.int (3 : Int32)), (.ref b86), (.ref b86)])) _
    refine XS.iload X93.here hx rfl (hb hby at_122) rfl ?_
    show Steps p.tables e below (T93.setTop (mkF m 124 #[.val (.int p0), .val (.int p1), .val (.int p2), .val (.int p3), .val (.int p4), .val (.int p5), .val (.int v73), .val (.int v75), .val (.int v77), .val (.int v79), .val (.int v81), .val (.int v83), .val (.int v85), .unset, .unset] [(.int v75), (.int v77), (.int v85), (.int v73), (.int (3 : Int32)), (.int (3 : Int32)), (.ref b86), (.ref b86)])) _
    refine XS.iload X93.here hx rfl (hb hby at_124) rfl ?_
    show Steps p.tables e below (T93.setTop (mkF m 126 #[.val (.int p0), .val (.int p1), .val (.int p2), .val (.int p3), .val (.int p4), .val (.int p5), .val (.int v73), .val (.int v75), .val (.int v77), .val (.int v79), .val (.int v81), .val (.int v83), .val (.int v85), .unset, .unset] [(.int v79), (.int v75), (.int v77), (.int v85), (.int v73), (.int (3 : Int32)), (.int (3 : Int32)), (.ref b86), (.ref b86)])) _
    refine XS.iload X93.here hx rfl (hb hby at_126) rfl ?_
    show Steps p.tables e below (T93.setTop (mkF m 128 #[.val (.int p0), .val (.int p1), .val (.int p2), .val (.int p3), .val (.int p4), .val (.int p5), .val (.int v73), .val (.int v75), .val (.int v77), .val (.int v79), .val (.int v81), .val (.int v83), .val (.int v85), .unset, .unset] [(.int v81), (.int v79), (.int v75), (.int v77), (.int v85), (.int v73), (.int (3 : Int32)), (.int (3 : Int32)), (.ref b86), (.ref b86)])) _
    refine XS.iload X93.here hx rfl (hb hby at_128) rfl ?_
    show Steps p.tables e below (T93.setTop (mkF m 130 #[.val (.int p0), .val (.int p1), .val (.int p2), .val (.int p3), .val (.int p4), .val (.int p5), .val (.int v73), .val (.int v75), .val (.int v77), .val (.int v79), .val (.int v81), .val (.int v83), .val (.int v85), .unset, .unset] [(.int v83), (.int v81), (.int v79), (.int v75), (.int v77), (.int v85), (.int v73), (.int (3 : Int32)), (.int (3 : Int32)), (.ref b86), (.ref b86)])) _
    refine st94 _ ?_
    show Steps p.tables e below (T94.setTop (mkF m 133 #[.val (.int p0), .val (.int p1), .val (.int p2), .val (.int p3), .val (.int p4), .val (.int p5), .val (.int v73), .val (.int v75), .val (.int v77), .val (.int v79), .val (.int v81), .val (.int v83), .val (.int v85), .unset, .unset] [(.int (own_cell (3 : Int32) v73 v85 v77 v75 v79 v81 v83)), (.int (3 : Int32)), (.ref b86), (.ref b86)])) _
    refine st95 _ ?_
    show Steps p.tables e below (T95.setTop (mkF m 134 #[.val (.int p0), .val (.int p1), .val (.int p2), .val (.int p3), .val (.int p4), .val (.int p5), .val (.int v73), .val (.int v75), .val (.int v77), .val (.int v79), .val (.int v81), .val (.int v83), .val (.int v85), .unset, .unset] [(.ref b86)])) _
    refine XS.dup X95.here hx rfl (hb hby at_134) rfl rfl ?_
    show Steps p.tables e below (T95.setTop (mkF m 135 #[.val (.int p0), .val (.int p1), .val (.int p2), .val (.int p3), .val (.int p4), .val (.int p5), .val (.int v73), .val (.int v75), .val (.int v77), .val (.int v79), .val (.int v81), .val (.int v83), .val (.int v85), .unset, .unset] [(.ref b86), (.ref b86)])) _
    exact kt
  obtain ⟨_, _, ⟨T97, L97, kc97, nc97⟩, -, X97, ⟨Lc97, hQ97, l97, y97, z97⟩, st97⟩ := Jvm.LawKit.callS X95 hx (y := (⟨"com/example/abak/abak/format/Aes256PaddingPinLaw", "cell", "(IIIBIBBB)B"⟩ : MethodName)) hown (mvT hZ (hw _ (List.mem_of_getElem? (i := 2) rfl))) (mvT hZ (hw _ (List.mem_of_getElem? (i := 3) rfl))) (mvT hZ (hw _ (List.mem_of_getElem? (i := 4) rfl))) (mvT hZ (hw _ (List.mem_of_getElem? (i := 5) rfl))) (by decide) (backOf (W := 3) (rm1 l Z a0 hw [] (4 : Int32) v73 v85 v77 v75 v79 v81 v83 h95 n0 ) hZ (hw _ (List.mem_of_getElem? (i := 5) rfl)) (hw _ (List.mem_of_getElem? (i := 4) rfl)) (by decide) (by decide)) (g := (mkF m 151 #[.val (.int p0), .val (.int p1), .val (.int p2), .val (.int p3), .val (.int p4), .val (.int p5), .val (.int v73), .val (.int v75), .val (.int v77), .val (.int v79), .val (.int v81), .val (.int v83), .val (.int v85), .unset, .unset] [(.int v83), (.int v81), (.int v79), (.int v75), (.int v77), (.int v85), (.int v73), (.int (4 : Int32)), (.int (4 : Int32)), (.ref b86), (.ref b86)])) rfl (by rw [hml]; rfl) (argsL := [(.int (4 : Int32)), (.int v73), (.int v85), (.int v77), (.int v75), (.int v79), (.int v81), (.int v83)]) (rest := [(.int (4 : Int32)), (.ref b86), (.ref b86)]) (lenOf pd_0 rfl) rfl (by show 2 * 0 + _ ≤ _; exact Nat.le_of_eq rfl) (hb hby at_151) (fun _ _ => ⟨rfl, e95, (by decide : 1 + 0 ≤ _), (by decide : 18 + 0 ≤ _)⟩)
  dsimp only [Pt.U, Pt.locs, Pt.cells, Pt.slots] at X97 l97 y97 z97 st97 hQ97
  rw [l97, y97, z97] at X97
  replace X97 : Stand p l e room_1 s m #[(.int p0), (.int p1), (.int p2), (.int p3), (.int p4), (.int p5)] below meth c T97 _ 1 18 := X97
  obtain ⟨rfl, Nq97, eq97⟩ := hQ97
  have N97 := Fr.app N95 Nq97
  obtain ⟨T98, h98, X98, e98, W98, V98, st98⟩ := own_stB X97 hx hZ eq97 V95 (i := 4) (by decide : (4 : Int32).toInt = ((4 : Nat) : Int)) (by decide) (g := (mkF m 154 #[.val (.int p0), .val (.int p1), .val (.int p2), .val (.int p3), .val (.int p4), .val (.int p5), .val (.int v73), .val (.int v75), .val (.int v77), .val (.int v79), .val (.int v81), .val (.int v83), .val (.int v85), .unset, .unset] [(.int (own_cell (4 : Int32) v73 v85 v77 v75 v79 v81 v83)), (.int (4 : Int32)), (.ref b86), (.ref b86)])) rfl rfl (hb hby at_154)
  have N98 := Fr.snoc X98 N97 ge_b86
  obtain ⟨_, _, ⟨T99, L99, kc99, nc99⟩, -, X99, ⟨Lc99, hQ99, l99, y99, z99⟩, st99⟩ := Jvm.LawKit.callS X98 hx (y := (⟨"com/example/abak/abak/format/Aes256PaddingPinLaw", "cell", "(IIIBIBBB)B"⟩ : MethodName)) hown (mvT hZ (hw _ (List.mem_of_getElem? (i := 2) rfl))) (mvT hZ (hw _ (List.mem_of_getElem? (i := 3) rfl))) (mvT hZ (hw _ (List.mem_of_getElem? (i := 4) rfl))) (mvT hZ (hw _ (List.mem_of_getElem? (i := 5) rfl))) (by decide) (backOf (W := 3) (rm1 l Z a0 hw [] (5 : Int32) v73 v85 v77 v75 v79 v81 v83 h98 n0 ) hZ (hw _ (List.mem_of_getElem? (i := 5) rfl)) (hw _ (List.mem_of_getElem? (i := 4) rfl)) (by decide) (by decide)) (g := (mkF m 172 #[.val (.int p0), .val (.int p1), .val (.int p2), .val (.int p3), .val (.int p4), .val (.int p5), .val (.int v73), .val (.int v75), .val (.int v77), .val (.int v79), .val (.int v81), .val (.int v83), .val (.int v85), .unset, .unset] [(.int v83), (.int v81), (.int v79), (.int v75), (.int v77), (.int v85), (.int v73), (.int (5 : Int32)), (.int (5 : Int32)), (.ref b86), (.ref b86)])) rfl (by rw [hml]; rfl) (argsL := [(.int (5 : Int32)), (.int v73), (.int v85), (.int v77), (.int v75), (.int v79), (.int v81), (.int v83)]) (rest := [(.int (5 : Int32)), (.ref b86), (.ref b86)]) (lenOf pd_0 rfl) rfl (by show 2 * 0 + _ ≤ _; exact Nat.le_of_eq rfl) (hb hby at_172) (fun _ _ => ⟨rfl, e98, (by decide : 1 + 0 ≤ _), (by decide : 18 + 0 ≤ _)⟩)
  dsimp only [Pt.U, Pt.locs, Pt.cells, Pt.slots] at X99 l99 y99 z99 st99 hQ99
  rw [l99, y99, z99] at X99
  replace X99 : Stand p l e room_1 s m #[(.int p0), (.int p1), (.int p2), (.int p3), (.int p4), (.int p5)] below meth c T99 _ 1 18 := X99
  obtain ⟨rfl, Nq99, eq99⟩ := hQ99
  have N99 := Fr.app N98 Nq99
  obtain ⟨T100, h100, X100, e100, W100, V100, st100⟩ := own_stB X99 hx hZ eq99 V98 (i := 5) (by decide : (5 : Int32).toInt = ((5 : Nat) : Int)) (by decide) (g := (mkF m 175 #[.val (.int p0), .val (.int p1), .val (.int p2), .val (.int p3), .val (.int p4), .val (.int p5), .val (.int v73), .val (.int v75), .val (.int v77), .val (.int v79), .val (.int v81), .val (.int v83), .val (.int v85), .unset, .unset] [(.int (own_cell (5 : Int32) v73 v85 v77 v75 v79 v81 v83)), (.int (5 : Int32)), (.ref b86), (.ref b86)])) rfl rfl (hb hby at_175)
  have N100 := Fr.snoc X100 N99 ge_b86
  have k101 : ∀ tg_, Steps p.tables e below (T100.setTop (mkF m 181 #[.val (.int p0), .val (.int p1), .val (.int p2), .val (.int p3), .val (.int p4), .val (.int p5), .val (.int v73), .val (.int v75), .val (.int v77), .val (.int v79), .val (.int v81), .val (.int v83), .val (.int v85), .unset, .unset] [(.int (6 : Int32)), (.int (6 : Int32)), (.ref b86), (.ref b86)])) tg_ → Steps p.tables e below (s₁.setTop (entryFrame m #[(.int p0), (.int p1), (.int p2), (.int p3), (.int p4), (.int p5)] maxLocals)) tg_ := by
    intro tg_ kt
    refine k96 tg_ ?_
    refine XS.iconst X95.here hx rfl (hb hby at_135) ?_
    show Steps p.tables e below (T95.setTop (mkF m 136 #[.val (.int p0), .val (.int p1), .val (.int p2), .val (.int p3), .val (.int p4), .val (.int p5), .val (.int v73), .val (.int v75), .val (.int v77), .val (.int v79), .val (.int v81), .val (.int v83), .val (.int v85), .unset, .unset] [(.int (4 : Int32)), (.ref b86), (.ref b86)])) _
    refine XS.iconst X95.here hx rfl (hb hby at_136) ?_
    show Steps p.tables e below (T95.setTop (mkF m 137 #[.val (.int p0), .val (.int p1), .val (.int p2), .val (.int p3), .val (.int p4), .val (.int p5), .val (.int v73), .val (.int v75), .val (.int v77), .val (.int v79), .val (.int v81), .val (.int v83), .val (.int v85), .unset, .unset] [(.int (4 : Int32)), (.int (4 : Int32)), (.ref b86), (.ref b86)])) _
    refine XS.iload X95.here hx rfl (hb hby at_137) rfl ?_
    show Steps p.tables e below (T95.setTop (mkF m 139 #[.val (.int p0), .val (.int p1), .val (.int p2), .val (.int p3), .val (.int p4), .val (.int p5), .val (.int v73), .val (.int v75), .val (.int v77), .val (.int v79), .val (.int v81), .val (.int v83), .val (.int v85), .unset, .unset] [(.int v73), (.int (4 : Int32)), (.int (4 : Int32)), (.ref b86), (.ref b86)])) _
    refine XS.iload X95.here hx rfl (hb hby at_139) rfl ?_
    show Steps p.tables e below (T95.setTop (mkF m 141 #[.val (.int p0), .val (.int p1), .val (.int p2), .val (.int p3), .val (.int p4), .val (.int p5), .val (.int v73), .val (.int v75), .val (.int v77), .val (.int v79), .val (.int v81), .val (.int v83), .val (.int v85), .unset, .unset] [(.int v85), (.int v73), (.int (4 : Int32)), (.int (4 : Int32)), (.ref b86), (.ref b86)])) _
    refine XS.iload X95.here hx rfl (hb hby at_141) rfl ?_
    show Steps p.tables e below (T95.setTop (mkF m 143 #[.val (.int p0), .val (.int p1), .val (.int p2), .val (.int p3), .val (.int p4), .val (.int p5), .val (.int v73), .val (.int v75), .val (.int v77), .val (.int v79), .val (.int v81), .val (.int v83), .val (.int v85), .unset, .unset] [(.int v77), (.int v85), (.int v73), (.int (4 : Int32)), (.int (4 : Int32)), (.ref b86), (.ref b86)])) _
    refine XS.iload X95.here hx rfl (hb hby at_143) rfl ?_
    show Steps p.tables e below (T95.setTop (mkF m 145 #[.val (.int p0), .val (.int p1), .val (.int p2), .val (.int p3), .val (.int p4), .val (.int p5), .val (.int v73), .val (.int v75), .val (.int v77), .val (.int v79), .val (.int v81), .val (.int v83), .val (.int v85), .unset, .unset] [(.int v75), (.int v77), (.int v85), (.int v73), (.int (4 : Int32)), (.int (4 : Int32)), (.ref b86), (.ref b86)])) _
    refine XS.iload X95.here hx rfl (hb hby at_145) rfl ?_
    show Steps p.tables e below (T95.setTop (mkF m 147 #[.val (.int p0), .val (.int p1), .val (.int p2), .val (.int p3), .val (.int p4), .val (.int p5), .val (.int v73), .val (.int v75), .val (.int v77), .val (.int v79), .val (.int v81), .val (.int v83), .val (.int v85), .unset, .unset] [(.int v79), (.int v75), (.int v77), (.int v85), (.int v73), (.int (4 : Int32)), (.int (4 : Int32)), (.ref b86), (.ref b86)])) _
    refine XS.iload X95.here hx rfl (hb hby at_147) rfl ?_
    show Steps p.tables e below (T95.setTop (mkF m 149 #[.val (.int p0), .val (.int p1), .val (.int p2), .val (.int p3), .val (.int p4), .val (.int p5), .val (.int v73), .val (.int v75), .val (.int v77), .val (.int v79), .val (.int v81), .val (.int v83), .val (.int v85), .unset, .unset] [(.int v81), (.int v79), (.int v75), (.int v77), (.int v85), (.int v73), (.int (4 : Int32)), (.int (4 : Int32)), (.ref b86), (.ref b86)])) _
    refine XS.iload X95.here hx rfl (hb hby at_149) rfl ?_
    show Steps p.tables e below (T95.setTop (mkF m 151 #[.val (.int p0), .val (.int p1), .val (.int p2), .val (.int p3), .val (.int p4), .val (.int p5), .val (.int v73), .val (.int v75), .val (.int v77), .val (.int v79), .val (.int v81), .val (.int v83), .val (.int v85), .unset, .unset] [(.int v83), (.int v81), (.int v79), (.int v75), (.int v77), (.int v85), (.int v73), (.int (4 : Int32)), (.int (4 : Int32)), (.ref b86), (.ref b86)])) _
    refine st97 _ ?_
    show Steps p.tables e below (T97.setTop (mkF m 154 #[.val (.int p0), .val (.int p1), .val (.int p2), .val (.int p3), .val (.int p4), .val (.int p5), .val (.int v73), .val (.int v75), .val (.int v77), .val (.int v79), .val (.int v81), .val (.int v83), .val (.int v85), .unset, .unset] [(.int (own_cell (4 : Int32) v73 v85 v77 v75 v79 v81 v83)), (.int (4 : Int32)), (.ref b86), (.ref b86)])) _
    refine st98 _ ?_
    show Steps p.tables e below (T98.setTop (mkF m 155 #[.val (.int p0), .val (.int p1), .val (.int p2), .val (.int p3), .val (.int p4), .val (.int p5), .val (.int v73), .val (.int v75), .val (.int v77), .val (.int v79), .val (.int v81), .val (.int v83), .val (.int v85), .unset, .unset] [(.ref b86)])) _
    refine XS.dup X98.here hx rfl (hb hby at_155) rfl rfl ?_
    show Steps p.tables e below (T98.setTop (mkF m 156 #[.val (.int p0), .val (.int p1), .val (.int p2), .val (.int p3), .val (.int p4), .val (.int p5), .val (.int v73), .val (.int v75), .val (.int v77), .val (.int v79), .val (.int v81), .val (.int v83), .val (.int v85), .unset, .unset] [(.ref b86), (.ref b86)])) _
    refine XS.iconst X98.here hx rfl (hb hby at_156) ?_
    show Steps p.tables e below (T98.setTop (mkF m 157 #[.val (.int p0), .val (.int p1), .val (.int p2), .val (.int p3), .val (.int p4), .val (.int p5), .val (.int v73), .val (.int v75), .val (.int v77), .val (.int v79), .val (.int v81), .val (.int v83), .val (.int v85), .unset, .unset] [(.int (5 : Int32)), (.ref b86), (.ref b86)])) _
    refine XS.iconst X98.here hx rfl (hb hby at_157) ?_
    show Steps p.tables e below (T98.setTop (mkF m 158 #[.val (.int p0), .val (.int p1), .val (.int p2), .val (.int p3), .val (.int p4), .val (.int p5), .val (.int v73), .val (.int v75), .val (.int v77), .val (.int v79), .val (.int v81), .val (.int v83), .val (.int v85), .unset, .unset] [(.int (5 : Int32)), (.int (5 : Int32)), (.ref b86), (.ref b86)])) _
    refine XS.iload X98.here hx rfl (hb hby at_158) rfl ?_
    show Steps p.tables e below (T98.setTop (mkF m 160 #[.val (.int p0), .val (.int p1), .val (.int p2), .val (.int p3), .val (.int p4), .val (.int p5), .val (.int v73), .val (.int v75), .val (.int v77), .val (.int v79), .val (.int v81), .val (.int v83), .val (.int v85), .unset, .unset] [(.int v73), (.int (5 : Int32)), (.int (5 : Int32)), (.ref b86), (.ref b86)])) _
    refine XS.iload X98.here hx rfl (hb hby at_160) rfl ?_
    show Steps p.tables e below (T98.setTop (mkF m 162 #[.val (.int p0), .val (.int p1), .val (.int p2), .val (.int p3), .val (.int p4), .val (.int p5), .val (.int v73), .val (.int v75), .val (.int v77), .val (.int v79), .val (.int v81), .val (.int v83), .val (.int v85), .unset, .unset] [(.int v85), (.int v73), (.int (5 : Int32)), (.int (5 : Int32)), (.ref b86), (.ref b86)])) _
    refine XS.iload X98.here hx rfl (hb hby at_162) rfl ?_
    show Steps p.tables e below (T98.setTop (mkF m 164 #[.val (.int p0), .val (.int p1), .val (.int p2), .val (.int p3), .val (.int p4), .val (.int p5), .val (.int v73), .val (.int v75), .val (.int v77), .val (.int v79), .val (.int v81), .val (.int v83), .val (.int v85), .unset, .unset] [(.int v77), (.int v85), (.int v73), (.int (5 : Int32)), (.int (5 : Int32)), (.ref b86), (.ref b86)])) _
    refine XS.iload X98.here hx rfl (hb hby at_164) rfl ?_
    show Steps p.tables e below (T98.setTop (mkF m 166 #[.val (.int p0), .val (.int p1), .val (.int p2), .val (.int p3), .val (.int p4), .val (.int p5), .val (.int v73), .val (.int v75), .val (.int v77), .val (.int v79), .val (.int v81), .val (.int v83), .val (.int v85), .unset, .unset] [(.int v75), (.int v77), (.int v85), (.int v73), (.int (5 : Int32)), (.int (5 : Int32)), (.ref b86), (.ref b86)])) _
    refine XS.iload X98.here hx rfl (hb hby at_166) rfl ?_
    show Steps p.tables e below (T98.setTop (mkF m 168 #[.val (.int p0), .val (.int p1), .val (.int p2), .val (.int p3), .val (.int p4), .val (.int p5), .val (.int v73), .val (.int v75), .val (.int v77), .val (.int v79), .val (.int v81), .val (.int v83), .val (.int v85), .unset, .unset] [(.int v79), (.int v75), (.int v77), (.int v85), (.int v73), (.int (5 : Int32)), (.int (5 : Int32)), (.ref b86), (.ref b86)])) _
    refine XS.iload X98.here hx rfl (hb hby at_168) rfl ?_
    show Steps p.tables e below (T98.setTop (mkF m 170 #[.val (.int p0), .val (.int p1), .val (.int p2), .val (.int p3), .val (.int p4), .val (.int p5), .val (.int v73), .val (.int v75), .val (.int v77), .val (.int v79), .val (.int v81), .val (.int v83), .val (.int v85), .unset, .unset] [(.int v81), (.int v79), (.int v75), (.int v77), (.int v85), (.int v73), (.int (5 : Int32)), (.int (5 : Int32)), (.ref b86), (.ref b86)])) _
    refine XS.iload X98.here hx rfl (hb hby at_170) rfl ?_
    show Steps p.tables e below (T98.setTop (mkF m 172 #[.val (.int p0), .val (.int p1), .val (.int p2), .val (.int p3), .val (.int p4), .val (.int p5), .val (.int v73), .val (.int v75), .val (.int v77), .val (.int v79), .val (.int v81), .val (.int v83), .val (.int v85), .unset, .unset] [(.int v83), (.int v81), (.int v79), (.int v75), (.int v77), (.int v85), (.int v73), (.int (5 : Int32)), (.int (5 : Int32)), (.ref b86), (.ref b86)])) _
    refine st99 _ ?_
    show Steps p.tables e below (T99.setTop (mkF m 175 #[.val (.int p0), .val (.int p1), .val (.int p2), .val (.int p3), .val (.int p4), .val (.int p5), .val (.int v73), .val (.int v75), .val (.int v77), .val (.int v79), .val (.int v81), .val (.int v83), .val (.int v85), .unset, .unset] [(.int (own_cell (5 : Int32) v73 v85 v77 v75 v79 v81 v83)), (.int (5 : Int32)), (.ref b86), (.ref b86)])) _
    refine st100 _ ?_
    show Steps p.tables e below (T100.setTop (mkF m 176 #[.val (.int p0), .val (.int p1), .val (.int p2), .val (.int p3), .val (.int p4), .val (.int p5), .val (.int v73), .val (.int v75), .val (.int v77), .val (.int v79), .val (.int v81), .val (.int v83), .val (.int v85), .unset, .unset] [(.ref b86)])) _
    refine XS.dup X100.here hx rfl (hb hby at_176) rfl rfl ?_
    show Steps p.tables e below (T100.setTop (mkF m 177 #[.val (.int p0), .val (.int p1), .val (.int p2), .val (.int p3), .val (.int p4), .val (.int p5), .val (.int v73), .val (.int v75), .val (.int v77), .val (.int v79), .val (.int v81), .val (.int v83), .val (.int v85), .unset, .unset] [(.ref b86), (.ref b86)])) _
    refine XS.bipush X100.here hx rfl (hb hby at_177) ?_
    show Steps p.tables e below (T100.setTop (mkF m 179 #[.val (.int p0), .val (.int p1), .val (.int p2), .val (.int p3), .val (.int p4), .val (.int p5), .val (.int v73), .val (.int v75), .val (.int v77), .val (.int v79), .val (.int v81), .val (.int v83), .val (.int v85), .unset, .unset] [(.int (6 : Int32)), (.ref b86), (.ref b86)])) _
    refine XS.bipush X100.here hx rfl (hb hby at_179) ?_
    show Steps p.tables e below (T100.setTop (mkF m 181 #[.val (.int p0), .val (.int p1), .val (.int p2), .val (.int p3), .val (.int p4), .val (.int p5), .val (.int v73), .val (.int v75), .val (.int v77), .val (.int v79), .val (.int v81), .val (.int v83), .val (.int v85), .unset, .unset] [(.int (6 : Int32)), (.int (6 : Int32)), (.ref b86), (.ref b86)])) _
    exact kt
  obtain ⟨_, _, ⟨T102, L102, kc102, nc102⟩, -, X102, ⟨Lc102, hQ102, l102, y102, z102⟩, st102⟩ := Jvm.LawKit.callS X100 hx (y := (⟨"com/example/abak/abak/format/Aes256PaddingPinLaw", "cell", "(IIIBIBBB)B"⟩ : MethodName)) hown (mvT hZ (hw _ (List.mem_of_getElem? (i := 2) rfl))) (mvT hZ (hw _ (List.mem_of_getElem? (i := 3) rfl))) (mvT hZ (hw _ (List.mem_of_getElem? (i := 4) rfl))) (mvT hZ (hw _ (List.mem_of_getElem? (i := 5) rfl))) (by decide) (backOf (W := 3) (rm1 l Z a0 hw [] (6 : Int32) v73 v85 v77 v75 v79 v81 v83 h100 n0 ) hZ (hw _ (List.mem_of_getElem? (i := 5) rfl)) (hw _ (List.mem_of_getElem? (i := 4) rfl)) (by decide) (by decide)) (g := (mkF m 195 #[.val (.int p0), .val (.int p1), .val (.int p2), .val (.int p3), .val (.int p4), .val (.int p5), .val (.int v73), .val (.int v75), .val (.int v77), .val (.int v79), .val (.int v81), .val (.int v83), .val (.int v85), .unset, .unset] [(.int v83), (.int v81), (.int v79), (.int v75), (.int v77), (.int v85), (.int v73), (.int (6 : Int32)), (.int (6 : Int32)), (.ref b86), (.ref b86)])) rfl (by rw [hml]; rfl) (argsL := [(.int (6 : Int32)), (.int v73), (.int v85), (.int v77), (.int v75), (.int v79), (.int v81), (.int v83)]) (rest := [(.int (6 : Int32)), (.ref b86), (.ref b86)]) (lenOf pd_0 rfl) rfl (by show 2 * 0 + _ ≤ _; exact Nat.le_of_eq rfl) (hb hby at_195) (fun _ _ => ⟨rfl, e100, (by decide : 1 + 0 ≤ _), (by decide : 18 + 0 ≤ _)⟩)
  dsimp only [Pt.U, Pt.locs, Pt.cells, Pt.slots] at X102 l102 y102 z102 st102 hQ102
  rw [l102, y102, z102] at X102
  replace X102 : Stand p l e room_1 s m #[(.int p0), (.int p1), (.int p2), (.int p3), (.int p4), (.int p5)] below meth c T102 _ 1 18 := X102
  obtain ⟨rfl, Nq102, eq102⟩ := hQ102
  have N102 := Fr.app N100 Nq102
  obtain ⟨T103, h103, X103, e103, W103, V103, st103⟩ := own_stB X102 hx hZ eq102 V100 (i := 6) (by decide : (6 : Int32).toInt = ((6 : Nat) : Int)) (by decide) (g := (mkF m 198 #[.val (.int p0), .val (.int p1), .val (.int p2), .val (.int p3), .val (.int p4), .val (.int p5), .val (.int v73), .val (.int v75), .val (.int v77), .val (.int v79), .val (.int v81), .val (.int v83), .val (.int v85), .unset, .unset] [(.int (own_cell (6 : Int32) v73 v85 v77 v75 v79 v81 v83)), (.int (6 : Int32)), (.ref b86), (.ref b86)])) rfl rfl (hb hby at_198)
  have N103 := Fr.snoc X103 N102 ge_b86
  obtain ⟨_, _, ⟨T104, L104, kc104, nc104⟩, -, X104, ⟨Lc104, hQ104, l104, y104, z104⟩, st104⟩ := Jvm.LawKit.callS X103 hx (y := (⟨"com/example/abak/abak/format/Aes256PaddingPinLaw", "cell", "(IIIBIBBB)B"⟩ : MethodName)) hown (mvT hZ (hw _ (List.mem_of_getElem? (i := 2) rfl))) (mvT hZ (hw _ (List.mem_of_getElem? (i := 3) rfl))) (mvT hZ (hw _ (List.mem_of_getElem? (i := 4) rfl))) (mvT hZ (hw _ (List.mem_of_getElem? (i := 5) rfl))) (by decide) (backOf (W := 3) (rm1 l Z a0 hw [] (7 : Int32) v73 v85 v77 v75 v79 v81 v83 h103 n0 ) hZ (hw _ (List.mem_of_getElem? (i := 5) rfl)) (hw _ (List.mem_of_getElem? (i := 4) rfl)) (by decide) (by decide)) (g := (mkF m 218 #[.val (.int p0), .val (.int p1), .val (.int p2), .val (.int p3), .val (.int p4), .val (.int p5), .val (.int v73), .val (.int v75), .val (.int v77), .val (.int v79), .val (.int v81), .val (.int v83), .val (.int v85), .unset, .unset] [(.int v83), (.int v81), (.int v79), (.int v75), (.int v77), (.int v85), (.int v73), (.int (7 : Int32)), (.int (7 : Int32)), (.ref b86), (.ref b86)])) rfl (by rw [hml]; rfl) (argsL := [(.int (7 : Int32)), (.int v73), (.int v85), (.int v77), (.int v75), (.int v79), (.int v81), (.int v83)]) (rest := [(.int (7 : Int32)), (.ref b86), (.ref b86)]) (lenOf pd_0 rfl) rfl (by show 2 * 0 + _ ≤ _; exact Nat.le_of_eq rfl) (hb hby at_218) (fun _ _ => ⟨rfl, e103, (by decide : 1 + 0 ≤ _), (by decide : 18 + 0 ≤ _)⟩)
  dsimp only [Pt.U, Pt.locs, Pt.cells, Pt.slots] at X104 l104 y104 z104 st104 hQ104
  rw [l104, y104, z104] at X104
  replace X104 : Stand p l e room_1 s m #[(.int p0), (.int p1), (.int p2), (.int p3), (.int p4), (.int p5)] below meth c T104 _ 1 18 := X104
  obtain ⟨rfl, Nq104, eq104⟩ := hQ104
  have N104 := Fr.app N103 Nq104
  obtain ⟨T105, h105, X105, e105, W105, V105, st105⟩ := own_stB X104 hx hZ eq104 V103 (i := 7) (by decide : (7 : Int32).toInt = ((7 : Nat) : Int)) (by decide) (g := (mkF m 221 #[.val (.int p0), .val (.int p1), .val (.int p2), .val (.int p3), .val (.int p4), .val (.int p5), .val (.int v73), .val (.int v75), .val (.int v77), .val (.int v79), .val (.int v81), .val (.int v83), .val (.int v85), .unset, .unset] [(.int (own_cell (7 : Int32) v73 v85 v77 v75 v79 v81 v83)), (.int (7 : Int32)), (.ref b86), (.ref b86)])) rfl rfl (hb hby at_221)
  have N105 := Fr.snoc X105 N104 ge_b86
  have k106 : ∀ tg_, Steps p.tables e below (T105.setTop (mkF m 231 #[.val (.int p0), .val (.int p1), .val (.int p2), .val (.int p3), .val (.int p4), .val (.int p5), .val (.int v73), .val (.int v75), .val (.int v77), .val (.int v79), .val (.int v81), .val (.int v83), .val (.int v85), .unset, .unset] [(.int v85), (.int v73), (.int (8 : Int32)), (.int (8 : Int32)), (.ref b86), (.ref b86)])) tg_ → Steps p.tables e below (s₁.setTop (entryFrame m #[(.int p0), (.int p1), (.int p2), (.int p3), (.int p4), (.int p5)] maxLocals)) tg_ := by
    intro tg_ kt
    refine k101 tg_ ?_
    refine XS.iload X100.here hx rfl (hb hby at_181) rfl ?_
    show Steps p.tables e below (T100.setTop (mkF m 183 #[.val (.int p0), .val (.int p1), .val (.int p2), .val (.int p3), .val (.int p4), .val (.int p5), .val (.int v73), .val (.int v75), .val (.int v77), .val (.int v79), .val (.int v81), .val (.int v83), .val (.int v85), .unset, .unset] [(.int v73), (.int (6 : Int32)), (.int (6 : Int32)), (.ref b86), (.ref b86)])) _
    refine XS.iload X100.here hx rfl (hb hby at_183) rfl ?_
    show Steps p.tables e below (T100.setTop (mkF m 185 #[.val (.int p0), .val (.int p1), .val (.int p2), .val (.int p3), .val (.int p4), .val (.int p5), .val (.int v73), .val (.int v75), .val (.int v77), .val (.int v79), .val (.int v81), .val (.int v83), .val (.int v85), .unset, .unset] [(.int v85), (.int v73), (.int (6 : Int32)), (.int (6 : Int32)), (.ref b86), (.ref b86)])) _
    refine XS.iload X100.here hx rfl (hb hby at_185) rfl ?_
    show Steps p.tables e below (T100.setTop (mkF m 187 #[.val (.int p0), .val (.int p1), .val (.int p2), .val (.int p3), .val (.int p4), .val (.int p5), .val (.int v73), .val (.int v75), .val (.int v77), .val (.int v79), .val (.int v81), .val (.int v83), .val (.int v85), .unset, .unset] [(.int v77), (.int v85), (.int v73), (.int (6 : Int32)), (.int (6 : Int32)), (.ref b86), (.ref b86)])) _
    refine XS.iload X100.here hx rfl (hb hby at_187) rfl ?_
    show Steps p.tables e below (T100.setTop (mkF m 189 #[.val (.int p0), .val (.int p1), .val (.int p2), .val (.int p3), .val (.int p4), .val (.int p5), .val (.int v73), .val (.int v75), .val (.int v77), .val (.int v79), .val (.int v81), .val (.int v83), .val (.int v85), .unset, .unset] [(.int v75), (.int v77), (.int v85), (.int v73), (.int (6 : Int32)), (.int (6 : Int32)), (.ref b86), (.ref b86)])) _
    refine XS.iload X100.here hx rfl (hb hby at_189) rfl ?_
    show Steps p.tables e below (T100.setTop (mkF m 191 #[.val (.int p0), .val (.int p1), .val (.int p2), .val (.int p3), .val (.int p4), .val (.int p5), .val (.int v73), .val (.int v75), .val (.int v77), .val (.int v79), .val (.int v81), .val (.int v83), .val (.int v85), .unset, .unset] [(.int v79), (.int v75), (.int v77), (.int v85), (.int v73), (.int (6 : Int32)), (.int (6 : Int32)), (.ref b86), (.ref b86)])) _
    refine XS.iload X100.here hx rfl (hb hby at_191) rfl ?_
    show Steps p.tables e below (T100.setTop (mkF m 193 #[.val (.int p0), .val (.int p1), .val (.int p2), .val (.int p3), .val (.int p4), .val (.int p5), .val (.int v73), .val (.int v75), .val (.int v77), .val (.int v79), .val (.int v81), .val (.int v83), .val (.int v85), .unset, .unset] [(.int v81), (.int v79), (.int v75), (.int v77), (.int v85), (.int v73), (.int (6 : Int32)), (.int (6 : Int32)), (.ref b86), (.ref b86)])) _
    refine XS.iload X100.here hx rfl (hb hby at_193) rfl ?_
    show Steps p.tables e below (T100.setTop (mkF m 195 #[.val (.int p0), .val (.int p1), .val (.int p2), .val (.int p3), .val (.int p4), .val (.int p5), .val (.int v73), .val (.int v75), .val (.int v77), .val (.int v79), .val (.int v81), .val (.int v83), .val (.int v85), .unset, .unset] [(.int v83), (.int v81), (.int v79), (.int v75), (.int v77), (.int v85), (.int v73), (.int (6 : Int32)), (.int (6 : Int32)), (.ref b86), (.ref b86)])) _
    refine st102 _ ?_
    show Steps p.tables e below (T102.setTop (mkF m 198 #[.val (.int p0), .val (.int p1), .val (.int p2), .val (.int p3), .val (.int p4), .val (.int p5), .val (.int v73), .val (.int v75), .val (.int v77), .val (.int v79), .val (.int v81), .val (.int v83), .val (.int v85), .unset, .unset] [(.int (own_cell (6 : Int32) v73 v85 v77 v75 v79 v81 v83)), (.int (6 : Int32)), (.ref b86), (.ref b86)])) _
    refine st103 _ ?_
    show Steps p.tables e below (T103.setTop (mkF m 199 #[.val (.int p0), .val (.int p1), .val (.int p2), .val (.int p3), .val (.int p4), .val (.int p5), .val (.int v73), .val (.int v75), .val (.int v77), .val (.int v79), .val (.int v81), .val (.int v83), .val (.int v85), .unset, .unset] [(.ref b86)])) _
    refine XS.dup X103.here hx rfl (hb hby at_199) rfl rfl ?_
    show Steps p.tables e below (T103.setTop (mkF m 200 #[.val (.int p0), .val (.int p1), .val (.int p2), .val (.int p3), .val (.int p4), .val (.int p5), .val (.int v73), .val (.int v75), .val (.int v77), .val (.int v79), .val (.int v81), .val (.int v83), .val (.int v85), .unset, .unset] [(.ref b86), (.ref b86)])) _
    refine XS.bipush X103.here hx rfl (hb hby at_200) ?_
    show Steps p.tables e below (T103.setTop (mkF m 202 #[.val (.int p0), .val (.int p1), .val (.int p2), .val (.int p3), .val (.int p4), .val (.int p5), .val (.int v73), .val (.int v75), .val (.int v77), .val (.int v79), .val (.int v81), .val (.int v83), .val (.int v85), .unset, .unset] [(.int (7 : Int32)), (.ref b86), (.ref b86)])) _
    refine XS.bipush X103.here hx rfl (hb hby at_202) ?_
    show Steps p.tables e below (T103.setTop (mkF m 204 #[.val (.int p0), .val (.int p1), .val (.int p2), .val (.int p3), .val (.int p4), .val (.int p5), .val (.int v73), .val (.int v75), .val (.int v77), .val (.int v79), .val (.int v81), .val (.int v83), .val (.int v85), .unset, .unset] [(.int (7 : Int32)), (.int (7 : Int32)), (.ref b86), (.ref b86)])) _
    refine XS.iload X103.here hx rfl (hb hby at_204) rfl ?_
    show Steps p.tables e below (T103.setTop (mkF m 206 #[.val (.int p0), .val (.int p1), .val (.int p2), .val (.int p3), .val (.int p4), .val (.int p5), .val (.int v73), .val (.int v75), .val (.int v77), .val (.int v79), .val (.int v81), .val (.int v83), .val (.int v85), .unset, .unset] [(.int v73), (.int (7 : Int32)), (.int (7 : Int32)), (.ref b86), (.ref b86)])) _
    refine XS.iload X103.here hx rfl (hb hby at_206) rfl ?_
    show Steps p.tables e below (T103.setTop (mkF m 208 #[.val (.int p0), .val (.int p1), .val (.int p2), .val (.int p3), .val (.int p4), .val (.int p5), .val (.int v73), .val (.int v75), .val (.int v77), .val (.int v79), .val (.int v81), .val (.int v83), .val (.int v85), .unset, .unset] [(.int v85), (.int v73), (.int (7 : Int32)), (.int (7 : Int32)), (.ref b86), (.ref b86)])) _
    refine XS.iload X103.here hx rfl (hb hby at_208) rfl ?_
    show Steps p.tables e below (T103.setTop (mkF m 210 #[.val (.int p0), .val (.int p1), .val (.int p2), .val (.int p3), .val (.int p4), .val (.int p5), .val (.int v73), .val (.int v75), .val (.int v77), .val (.int v79), .val (.int v81), .val (.int v83), .val (.int v85), .unset, .unset] [(.int v77), (.int v85), (.int v73), (.int (7 : Int32)), (.int (7 : Int32)), (.ref b86), (.ref b86)])) _
    refine XS.iload X103.here hx rfl (hb hby at_210) rfl ?_
    show Steps p.tables e below (T103.setTop (mkF m 212 #[.val (.int p0), .val (.int p1), .val (.int p2), .val (.int p3), .val (.int p4), .val (.int p5), .val (.int v73), .val (.int v75), .val (.int v77), .val (.int v79), .val (.int v81), .val (.int v83), .val (.int v85), .unset, .unset] [(.int v75), (.int v77), (.int v85), (.int v73), (.int (7 : Int32)), (.int (7 : Int32)), (.ref b86), (.ref b86)])) _
    refine XS.iload X103.here hx rfl (hb hby at_212) rfl ?_
    show Steps p.tables e below (T103.setTop (mkF m 214 #[.val (.int p0), .val (.int p1), .val (.int p2), .val (.int p3), .val (.int p4), .val (.int p5), .val (.int v73), .val (.int v75), .val (.int v77), .val (.int v79), .val (.int v81), .val (.int v83), .val (.int v85), .unset, .unset] [(.int v79), (.int v75), (.int v77), (.int v85), (.int v73), (.int (7 : Int32)), (.int (7 : Int32)), (.ref b86), (.ref b86)])) _
    refine XS.iload X103.here hx rfl (hb hby at_214) rfl ?_
    show Steps p.tables e below (T103.setTop (mkF m 216 #[.val (.int p0), .val (.int p1), .val (.int p2), .val (.int p3), .val (.int p4), .val (.int p5), .val (.int v73), .val (.int v75), .val (.int v77), .val (.int v79), .val (.int v81), .val (.int v83), .val (.int v85), .unset, .unset] [(.int v81), (.int v79), (.int v75), (.int v77), (.int v85), (.int v73), (.int (7 : Int32)), (.int (7 : Int32)), (.ref b86), (.ref b86)])) _
    refine XS.iload X103.here hx rfl (hb hby at_216) rfl ?_
    show Steps p.tables e below (T103.setTop (mkF m 218 #[.val (.int p0), .val (.int p1), .val (.int p2), .val (.int p3), .val (.int p4), .val (.int p5), .val (.int v73), .val (.int v75), .val (.int v77), .val (.int v79), .val (.int v81), .val (.int v83), .val (.int v85), .unset, .unset] [(.int v83), (.int v81), (.int v79), (.int v75), (.int v77), (.int v85), (.int v73), (.int (7 : Int32)), (.int (7 : Int32)), (.ref b86), (.ref b86)])) _
    refine st104 _ ?_
    show Steps p.tables e below (T104.setTop (mkF m 221 #[.val (.int p0), .val (.int p1), .val (.int p2), .val (.int p3), .val (.int p4), .val (.int p5), .val (.int v73), .val (.int v75), .val (.int v77), .val (.int v79), .val (.int v81), .val (.int v83), .val (.int v85), .unset, .unset] [(.int (own_cell (7 : Int32) v73 v85 v77 v75 v79 v81 v83)), (.int (7 : Int32)), (.ref b86), (.ref b86)])) _
    refine st105 _ ?_
    show Steps p.tables e below (T105.setTop (mkF m 222 #[.val (.int p0), .val (.int p1), .val (.int p2), .val (.int p3), .val (.int p4), .val (.int p5), .val (.int v73), .val (.int v75), .val (.int v77), .val (.int v79), .val (.int v81), .val (.int v83), .val (.int v85), .unset, .unset] [(.ref b86)])) _
    refine XS.dup X105.here hx rfl (hb hby at_222) rfl rfl ?_
    show Steps p.tables e below (T105.setTop (mkF m 223 #[.val (.int p0), .val (.int p1), .val (.int p2), .val (.int p3), .val (.int p4), .val (.int p5), .val (.int v73), .val (.int v75), .val (.int v77), .val (.int v79), .val (.int v81), .val (.int v83), .val (.int v85), .unset, .unset] [(.ref b86), (.ref b86)])) _
    refine XS.bipush X105.here hx rfl (hb hby at_223) ?_
    show Steps p.tables e below (T105.setTop (mkF m 225 #[.val (.int p0), .val (.int p1), .val (.int p2), .val (.int p3), .val (.int p4), .val (.int p5), .val (.int v73), .val (.int v75), .val (.int v77), .val (.int v79), .val (.int v81), .val (.int v83), .val (.int v85), .unset, .unset] [(.int (8 : Int32)), (.ref b86), (.ref b86)])) _
    refine XS.bipush X105.here hx rfl (hb hby at_225) ?_
    show Steps p.tables e below (T105.setTop (mkF m 227 #[.val (.int p0), .val (.int p1), .val (.int p2), .val (.int p3), .val (.int p4), .val (.int p5), .val (.int v73), .val (.int v75), .val (.int v77), .val (.int v79), .val (.int v81), .val (.int v83), .val (.int v85), .unset, .unset] [(.int (8 : Int32)), (.int (8 : Int32)), (.ref b86), (.ref b86)])) _
    refine XS.iload X105.here hx rfl (hb hby at_227) rfl ?_
    show Steps p.tables e below (T105.setTop (mkF m 229 #[.val (.int p0), .val (.int p1), .val (.int p2), .val (.int p3), .val (.int p4), .val (.int p5), .val (.int v73), .val (.int v75), .val (.int v77), .val (.int v79), .val (.int v81), .val (.int v83), .val (.int v85), .unset, .unset] [(.int v73), (.int (8 : Int32)), (.int (8 : Int32)), (.ref b86), (.ref b86)])) _
    refine XS.iload X105.here hx rfl (hb hby at_229) rfl ?_
    show Steps p.tables e below (T105.setTop (mkF m 231 #[.val (.int p0), .val (.int p1), .val (.int p2), .val (.int p3), .val (.int p4), .val (.int p5), .val (.int v73), .val (.int v75), .val (.int v77), .val (.int v79), .val (.int v81), .val (.int v83), .val (.int v85), .unset, .unset] [(.int v85), (.int v73), (.int (8 : Int32)), (.int (8 : Int32)), (.ref b86), (.ref b86)])) _
    exact kt
  obtain ⟨_, _, ⟨T107, L107, kc107, nc107⟩, -, X107, ⟨Lc107, hQ107, l107, y107, z107⟩, st107⟩ := Jvm.LawKit.callS X105 hx (y := (⟨"com/example/abak/abak/format/Aes256PaddingPinLaw", "cell", "(IIIBIBBB)B"⟩ : MethodName)) hown (mvT hZ (hw _ (List.mem_of_getElem? (i := 2) rfl))) (mvT hZ (hw _ (List.mem_of_getElem? (i := 3) rfl))) (mvT hZ (hw _ (List.mem_of_getElem? (i := 4) rfl))) (mvT hZ (hw _ (List.mem_of_getElem? (i := 5) rfl))) (by decide) (backOf (W := 3) (rm1 l Z a0 hw [] (8 : Int32) v73 v85 v77 v75 v79 v81 v83 h105 n0 ) hZ (hw _ (List.mem_of_getElem? (i := 5) rfl)) (hw _ (List.mem_of_getElem? (i := 4) rfl)) (by decide) (by decide)) (g := (mkF m 241 #[.val (.int p0), .val (.int p1), .val (.int p2), .val (.int p3), .val (.int p4), .val (.int p5), .val (.int v73), .val (.int v75), .val (.int v77), .val (.int v79), .val (.int v81), .val (.int v83), .val (.int v85), .unset, .unset] [(.int v83), (.int v81), (.int v79), (.int v75), (.int v77), (.int v85), (.int v73), (.int (8 : Int32)), (.int (8 : Int32)), (.ref b86), (.ref b86)])) rfl (by rw [hml]; rfl) (argsL := [(.int (8 : Int32)), (.int v73), (.int v85), (.int v77), (.int v75), (.int v79), (.int v81), (.int v83)]) (rest := [(.int (8 : Int32)), (.ref b86), (.ref b86)]) (lenOf pd_0 rfl) rfl (by show 2 * 0 + _ ≤ _; exact Nat.le_of_eq rfl) (hb hby at_241) (fun _ _ => ⟨rfl, e105, (by decide : 1 + 0 ≤ _), (by decide : 18 + 0 ≤ _)⟩)
  dsimp only [Pt.U, Pt.locs, Pt.cells, Pt.slots] at X107 l107 y107 z107 st107 hQ107
  rw [l107, y107, z107] at X107
  replace X107 : Stand p l e room_1 s m #[(.int p0), (.int p1), (.int p2), (.int p3), (.int p4), (.int p5)] below meth c T107 _ 1 18 := X107
  obtain ⟨rfl, Nq107, eq107⟩ := hQ107
  have N107 := Fr.app N105 Nq107
  obtain ⟨T108, h108, X108, e108, W108, V108, st108⟩ := own_stB X107 hx hZ eq107 V105 (i := 8) (by decide : (8 : Int32).toInt = ((8 : Nat) : Int)) (by decide) (g := (mkF m 244 #[.val (.int p0), .val (.int p1), .val (.int p2), .val (.int p3), .val (.int p4), .val (.int p5), .val (.int v73), .val (.int v75), .val (.int v77), .val (.int v79), .val (.int v81), .val (.int v83), .val (.int v85), .unset, .unset] [(.int (own_cell (8 : Int32) v73 v85 v77 v75 v79 v81 v83)), (.int (8 : Int32)), (.ref b86), (.ref b86)])) rfl rfl (hb hby at_244)
  have N108 := Fr.snoc X108 N107 ge_b86
  obtain ⟨_, _, ⟨T109, L109, kc109, nc109⟩, -, X109, ⟨Lc109, hQ109, l109, y109, z109⟩, st109⟩ := Jvm.LawKit.callS X108 hx (y := (⟨"com/example/abak/abak/format/Aes256PaddingPinLaw", "cell", "(IIIBIBBB)B"⟩ : MethodName)) hown (mvT hZ (hw _ (List.mem_of_getElem? (i := 2) rfl))) (mvT hZ (hw _ (List.mem_of_getElem? (i := 3) rfl))) (mvT hZ (hw _ (List.mem_of_getElem? (i := 4) rfl))) (mvT hZ (hw _ (List.mem_of_getElem? (i := 5) rfl))) (by decide) (backOf (W := 3) (rm1 l Z a0 hw [] (9 : Int32) v73 v85 v77 v75 v79 v81 v83 h108 n0 ) hZ (hw _ (List.mem_of_getElem? (i := 5) rfl)) (hw _ (List.mem_of_getElem? (i := 4) rfl)) (by decide) (by decide)) (g := (mkF m 264 #[.val (.int p0), .val (.int p1), .val (.int p2), .val (.int p3), .val (.int p4), .val (.int p5), .val (.int v73), .val (.int v75), .val (.int v77), .val (.int v79), .val (.int v81), .val (.int v83), .val (.int v85), .unset, .unset] [(.int v83), (.int v81), (.int v79), (.int v75), (.int v77), (.int v85), (.int v73), (.int (9 : Int32)), (.int (9 : Int32)), (.ref b86), (.ref b86)])) rfl (by rw [hml]; rfl) (argsL := [(.int (9 : Int32)), (.int v73), (.int v85), (.int v77), (.int v75), (.int v79), (.int v81), (.int v83)]) (rest := [(.int (9 : Int32)), (.ref b86), (.ref b86)]) (lenOf pd_0 rfl) rfl (by show 2 * 0 + _ ≤ _; exact Nat.le_of_eq rfl) (hb hby at_264) (fun _ _ => ⟨rfl, e108, (by decide : 1 + 0 ≤ _), (by decide : 18 + 0 ≤ _)⟩)
  dsimp only [Pt.U, Pt.locs, Pt.cells, Pt.slots] at X109 l109 y109 z109 st109 hQ109
  rw [l109, y109, z109] at X109
  replace X109 : Stand p l e room_1 s m #[(.int p0), (.int p1), (.int p2), (.int p3), (.int p4), (.int p5)] below meth c T109 _ 1 18 := X109
  obtain ⟨rfl, Nq109, eq109⟩ := hQ109
  have N109 := Fr.app N108 Nq109
  obtain ⟨T110, h110, X110, e110, W110, V110, st110⟩ := own_stB X109 hx hZ eq109 V108 (i := 9) (by decide : (9 : Int32).toInt = ((9 : Nat) : Int)) (by decide) (g := (mkF m 267 #[.val (.int p0), .val (.int p1), .val (.int p2), .val (.int p3), .val (.int p4), .val (.int p5), .val (.int v73), .val (.int v75), .val (.int v77), .val (.int v79), .val (.int v81), .val (.int v83), .val (.int v85), .unset, .unset] [(.int (own_cell (9 : Int32) v73 v85 v77 v75 v79 v81 v83)), (.int (9 : Int32)), (.ref b86), (.ref b86)])) rfl rfl (hb hby at_267)
  have N110 := Fr.snoc X110 N109 ge_b86
  have k111 : ∀ tg_, Steps p.tables e below (T110.setTop (mkF m 281 #[.val (.int p0), .val (.int p1), .val (.int p2), .val (.int p3), .val (.int p4), .val (.int p5), .val (.int v73), .val (.int v75), .val (.int v77), .val (.int v79), .val (.int v81), .val (.int v83), .val (.int v85), .unset, .unset] [(.int v75), (.int v77), (.int v85), (.int v73), (.int (10 : Int32)), (.int (10 : Int32)), (.ref b86), (.ref b86)])) tg_ → Steps p.tables e below (s₁.setTop (entryFrame m #[(.int p0), (.int p1), (.int p2), (.int p3), (.int p4), (.int p5)] maxLocals)) tg_ := by
    intro tg_ kt
    refine k106 tg_ ?_
    refine XS.iload X105.here hx rfl (hb hby at_231) rfl ?_
    show Steps p.tables e below (T105.setTop (mkF m 233 #[.val (.int p0), .val (.int p1), .val (.int p2), .val (.int p3), .val (.int p4), .val (.int p5), .val (.int v73), .val (.int v75), .val (.int v77), .val (.int v79), .val (.int v81), .val (.int v83), .val (.int v85), .unset, .unset] [(.int v77), (.int v85), (.int v73), (.int (8 : Int32)), (.int (8 : Int32)), (.ref b86), (.ref b86)])) _
    refine XS.iload X105.here hx rfl (hb hby at_233) rfl ?_
    show Steps p.tables e below (T105.setTop (mkF m 235 #[.val (.int p0), .val (.int p1), .val (.int p2), .val (.int p3), .val (.int p4), .val (.int p5), .val (.int v73), .val (.int v75), .val (.int v77), .val (.int v79), .val (.int v81), .val (.int v83), .val (.int v85), .unset, .unset] [(.int v75), (.int v77), (.int v85), (.int v73), (.int (8 : Int32)), (.int (8 : Int32)), (.ref b86), (.ref b86)])) _
    refine XS.iload X105.here hx rfl (hb hby at_235) rfl ?_
    show Steps p.tables e below (T105.setTop (mkF m 237 #[.val (.int p0), .val (.int p1), .val (.int p2), .val (.int p3), .val (.int p4), .val (.int p5), .val (.int v73), .val (.int v75), .val (.int v77), .val (.int v79), .val (.int v81), .val (.int v83), .val (.int v85), .unset, .unset] [(.int v79), (.int v75), (.int v77), (.int v85), (.int v73), (.int (8 : Int32)), (.int (8 : Int32)), (.ref b86), (.ref b86)])) _
    refine XS.iload X105.here hx rfl (hb hby at_237) rfl ?_
    show Steps p.tables e below (T105.setTop (mkF m 239 #[.val (.int p0), .val (.int p1), .val (.int p2), .val (.int p3), .val (.int p4), .val (.int p5), .val (.int v73), .val (.int v75), .val (.int v77), .val (.int v79), .val (.int v81), .val (.int v83), .val (.int v85), .unset, .unset] [(.int v81), (.int v79), (.int v75), (.int v77), (.int v85), (.int v73), (.int (8 : Int32)), (.int (8 : Int32)), (.ref b86), (.ref b86)])) _
    refine XS.iload X105.here hx rfl (hb hby at_239) rfl ?_
    show Steps p.tables e below (T105.setTop (mkF m 241 #[.val (.int p0), .val (.int p1), .val (.int p2), .val (.int p3), .val (.int p4), .val (.int p5), .val (.int v73), .val (.int v75), .val (.int v77), .val (.int v79), .val (.int v81), .val (.int v83), .val (.int v85), .unset, .unset] [(.int v83), (.int v81), (.int v79), (.int v75), (.int v77), (.int v85), (.int v73), (.int (8 : Int32)), (.int (8 : Int32)), (.ref b86), (.ref b86)])) _
    refine st107 _ ?_
    show Steps p.tables e below (T107.setTop (mkF m 244 #[.val (.int p0), .val (.int p1), .val (.int p2), .val (.int p3), .val (.int p4), .val (.int p5), .val (.int v73), .val (.int v75), .val (.int v77), .val (.int v79), .val (.int v81), .val (.int v83), .val (.int v85), .unset, .unset] [(.int (own_cell (8 : Int32) v73 v85 v77 v75 v79 v81 v83)), (.int (8 : Int32)), (.ref b86), (.ref b86)])) _
    refine st108 _ ?_
    show Steps p.tables e below (T108.setTop (mkF m 245 #[.val (.int p0), .val (.int p1), .val (.int p2), .val (.int p3), .val (.int p4), .val (.int p5), .val (.int v73), .val (.int v75), .val (.int v77), .val (.int v79), .val (.int v81), .val (.int v83), .val (.int v85), .unset, .unset] [(.ref b86)])) _
    refine XS.dup X108.here hx rfl (hb hby at_245) rfl rfl ?_
    show Steps p.tables e below (T108.setTop (mkF m 246 #[.val (.int p0), .val (.int p1), .val (.int p2), .val (.int p3), .val (.int p4), .val (.int p5), .val (.int v73), .val (.int v75), .val (.int v77), .val (.int v79), .val (.int v81), .val (.int v83), .val (.int v85), .unset, .unset] [(.ref b86), (.ref b86)])) _
    refine XS.bipush X108.here hx rfl (hb hby at_246) ?_
    show Steps p.tables e below (T108.setTop (mkF m 248 #[.val (.int p0), .val (.int p1), .val (.int p2), .val (.int p3), .val (.int p4), .val (.int p5), .val (.int v73), .val (.int v75), .val (.int v77), .val (.int v79), .val (.int v81), .val (.int v83), .val (.int v85), .unset, .unset] [(.int (9 : Int32)), (.ref b86), (.ref b86)])) _
    refine XS.bipush X108.here hx rfl (hb hby at_248) ?_
    show Steps p.tables e below (T108.setTop (mkF m 250 #[.val (.int p0), .val (.int p1), .val (.int p2), .val (.int p3), .val (.int p4), .val (.int p5), .val (.int v73), .val (.int v75), .val (.int v77), .val (.int v79), .val (.int v81), .val (.int v83), .val (.int v85), .unset, .unset] [(.int (9 : Int32)), (.int (9 : Int32)), (.ref b86), (.ref b86)])) _
    refine XS.iload X108.here hx rfl (hb hby at_250) rfl ?_
    show Steps p.tables e below (T108.setTop (mkF m 252 #[.val (.int p0), .val (.int p1), .val (.int p2), .val (.int p3), .val (.int p4), .val (.int p5), .val (.int v73), .val (.int v75), .val (.int v77), .val (.int v79), .val (.int v81), .val (.int v83), .val (.int v85), .unset, .unset] [(.int v73), (.int (9 : Int32)), (.int (9 : Int32)), (.ref b86), (.ref b86)])) _
    refine XS.iload X108.here hx rfl (hb hby at_252) rfl ?_
    show Steps p.tables e below (T108.setTop (mkF m 254 #[.val (.int p0), .val (.int p1), .val (.int p2), .val (.int p3), .val (.int p4), .val (.int p5), .val (.int v73), .val (.int v75), .val (.int v77), .val (.int v79), .val (.int v81), .val (.int v83), .val (.int v85), .unset, .unset] [(.int v85), (.int v73), (.int (9 : Int32)), (.int (9 : Int32)), (.ref b86), (.ref b86)])) _
    refine XS.iload X108.here hx rfl (hb hby at_254) rfl ?_
    show Steps p.tables e below (T108.setTop (mkF m 256 #[.val (.int p0), .val (.int p1), .val (.int p2), .val (.int p3), .val (.int p4), .val (.int p5), .val (.int v73), .val (.int v75), .val (.int v77), .val (.int v79), .val (.int v81), .val (.int v83), .val (.int v85), .unset, .unset] [(.int v77), (.int v85), (.int v73), (.int (9 : Int32)), (.int (9 : Int32)), (.ref b86), (.ref b86)])) _
    refine XS.iload X108.here hx rfl (hb hby at_256) rfl ?_
    show Steps p.tables e below (T108.setTop (mkF m 258 #[.val (.int p0), .val (.int p1), .val (.int p2), .val (.int p3), .val (.int p4), .val (.int p5), .val (.int v73), .val (.int v75), .val (.int v77), .val (.int v79), .val (.int v81), .val (.int v83), .val (.int v85), .unset, .unset] [(.int v75), (.int v77), (.int v85), (.int v73), (.int (9 : Int32)), (.int (9 : Int32)), (.ref b86), (.ref b86)])) _
    refine XS.iload X108.here hx rfl (hb hby at_258) rfl ?_
    show Steps p.tables e below (T108.setTop (mkF m 260 #[.val (.int p0), .val (.int p1), .val (.int p2), .val (.int p3), .val (.int p4), .val (.int p5), .val (.int v73), .val (.int v75), .val (.int v77), .val (.int v79), .val (.int v81), .val (.int v83), .val (.int v85), .unset, .unset] [(.int v79), (.int v75), (.int v77), (.int v85), (.int v73), (.int (9 : Int32)), (.int (9 : Int32)), (.ref b86), (.ref b86)])) _
    refine XS.iload X108.here hx rfl (hb hby at_260) rfl ?_
    show Steps p.tables e below (T108.setTop (mkF m 262 #[.val (.int p0), .val (.int p1), .val (.int p2), .val (.int p3), .val (.int p4), .val (.int p5), .val (.int v73), .val (.int v75), .val (.int v77), .val (.int v79), .val (.int v81), .val (.int v83), .val (.int v85), .unset, .unset] [(.int v81), (.int v79), (.int v75), (.int v77), (.int v85), (.int v73), (.int (9 : Int32)), (.int (9 : Int32)), (.ref b86), (.ref b86)])) _
    refine XS.iload X108.here hx rfl (hb hby at_262) rfl ?_
    show Steps p.tables e below (T108.setTop (mkF m 264 #[.val (.int p0), .val (.int p1), .val (.int p2), .val (.int p3), .val (.int p4), .val (.int p5), .val (.int v73), .val (.int v75), .val (.int v77), .val (.int v79), .val (.int v81), .val (.int v83), .val (.int v85), .unset, .unset] [(.int v83), (.int v81), (.int v79), (.int v75), (.int v77), (.int v85), (.int v73), (.int (9 : Int32)), (.int (9 : Int32)), (.ref b86), (.ref b86)])) _
    refine st109 _ ?_
    show Steps p.tables e below (T109.setTop (mkF m 267 #[.val (.int p0), .val (.int p1), .val (.int p2), .val (.int p3), .val (.int p4), .val (.int p5), .val (.int v73), .val (.int v75), .val (.int v77), .val (.int v79), .val (.int v81), .val (.int v83), .val (.int v85), .unset, .unset] [(.int (own_cell (9 : Int32) v73 v85 v77 v75 v79 v81 v83)), (.int (9 : Int32)), (.ref b86), (.ref b86)])) _
    refine st110 _ ?_
    show Steps p.tables e below (T110.setTop (mkF m 268 #[.val (.int p0), .val (.int p1), .val (.int p2), .val (.int p3), .val (.int p4), .val (.int p5), .val (.int v73), .val (.int v75), .val (.int v77), .val (.int v79), .val (.int v81), .val (.int v83), .val (.int v85), .unset, .unset] [(.ref b86)])) _
    refine XS.dup X110.here hx rfl (hb hby at_268) rfl rfl ?_
    show Steps p.tables e below (T110.setTop (mkF m 269 #[.val (.int p0), .val (.int p1), .val (.int p2), .val (.int p3), .val (.int p4), .val (.int p5), .val (.int v73), .val (.int v75), .val (.int v77), .val (.int v79), .val (.int v81), .val (.int v83), .val (.int v85), .unset, .unset] [(.ref b86), (.ref b86)])) _
    refine XS.bipush X110.here hx rfl (hb hby at_269) ?_
    show Steps p.tables e below (T110.setTop (mkF m 271 #[.val (.int p0), .val (.int p1), .val (.int p2), .val (.int p3), .val (.int p4), .val (.int p5), .val (.int v73), .val (.int v75), .val (.int v77), .val (.int v79), .val (.int v81), .val (.int v83), .val (.int v85), .unset, .unset] [(.int (10 : Int32)), (.ref b86), (.ref b86)])) _
    refine XS.bipush X110.here hx rfl (hb hby at_271) ?_
    show Steps p.tables e below (T110.setTop (mkF m 273 #[.val (.int p0), .val (.int p1), .val (.int p2), .val (.int p3), .val (.int p4), .val (.int p5), .val (.int v73), .val (.int v75), .val (.int v77), .val (.int v79), .val (.int v81), .val (.int v83), .val (.int v85), .unset, .unset] [(.int (10 : Int32)), (.int (10 : Int32)), (.ref b86), (.ref b86)])) _
    refine XS.iload X110.here hx rfl (hb hby at_273) rfl ?_
    show Steps p.tables e below (T110.setTop (mkF m 275 #[.val (.int p0), .val (.int p1), .val (.int p2), .val (.int p3), .val (.int p4), .val (.int p5), .val (.int v73), .val (.int v75), .val (.int v77), .val (.int v79), .val (.int v81), .val (.int v83), .val (.int v85), .unset, .unset] [(.int v73), (.int (10 : Int32)), (.int (10 : Int32)), (.ref b86), (.ref b86)])) _
    refine XS.iload X110.here hx rfl (hb hby at_275) rfl ?_
    show Steps p.tables e below (T110.setTop (mkF m 277 #[.val (.int p0), .val (.int p1), .val (.int p2), .val (.int p3), .val (.int p4), .val (.int p5), .val (.int v73), .val (.int v75), .val (.int v77), .val (.int v79), .val (.int v81), .val (.int v83), .val (.int v85), .unset, .unset] [(.int v85), (.int v73), (.int (10 : Int32)), (.int (10 : Int32)), (.ref b86), (.ref b86)])) _
    refine XS.iload X110.here hx rfl (hb hby at_277) rfl ?_
    show Steps p.tables e below (T110.setTop (mkF m 279 #[.val (.int p0), .val (.int p1), .val (.int p2), .val (.int p3), .val (.int p4), .val (.int p5), .val (.int v73), .val (.int v75), .val (.int v77), .val (.int v79), .val (.int v81), .val (.int v83), .val (.int v85), .unset, .unset] [(.int v77), (.int v85), (.int v73), (.int (10 : Int32)), (.int (10 : Int32)), (.ref b86), (.ref b86)])) _
    refine XS.iload X110.here hx rfl (hb hby at_279) rfl ?_
    show Steps p.tables e below (T110.setTop (mkF m 281 #[.val (.int p0), .val (.int p1), .val (.int p2), .val (.int p3), .val (.int p4), .val (.int p5), .val (.int v73), .val (.int v75), .val (.int v77), .val (.int v79), .val (.int v81), .val (.int v83), .val (.int v85), .unset, .unset] [(.int v75), (.int v77), (.int v85), (.int v73), (.int (10 : Int32)), (.int (10 : Int32)), (.ref b86), (.ref b86)])) _
    exact kt
  obtain ⟨_, _, ⟨T112, L112, kc112, nc112⟩, -, X112, ⟨Lc112, hQ112, l112, y112, z112⟩, st112⟩ := Jvm.LawKit.callS X110 hx (y := (⟨"com/example/abak/abak/format/Aes256PaddingPinLaw", "cell", "(IIIBIBBB)B"⟩ : MethodName)) hown (mvT hZ (hw _ (List.mem_of_getElem? (i := 2) rfl))) (mvT hZ (hw _ (List.mem_of_getElem? (i := 3) rfl))) (mvT hZ (hw _ (List.mem_of_getElem? (i := 4) rfl))) (mvT hZ (hw _ (List.mem_of_getElem? (i := 5) rfl))) (by decide) (backOf (W := 3) (rm1 l Z a0 hw [] (10 : Int32) v73 v85 v77 v75 v79 v81 v83 h110 n0 ) hZ (hw _ (List.mem_of_getElem? (i := 5) rfl)) (hw _ (List.mem_of_getElem? (i := 4) rfl)) (by decide) (by decide)) (g := (mkF m 287 #[.val (.int p0), .val (.int p1), .val (.int p2), .val (.int p3), .val (.int p4), .val (.int p5), .val (.int v73), .val (.int v75), .val (.int v77), .val (.int v79), .val (.int v81), .val (.int v83), .val (.int v85), .unset, .unset] [(.int v83), (.int v81), (.int v79), (.int v75), (.int v77), (.int v85), (.int v73), (.int (10 : Int32)), (.int (10 : Int32)), (.ref b86), (.ref b86)])) rfl (by rw [hml]; rfl) (argsL := [(.int (10 : Int32)), (.int v73), (.int v85), (.int v77), (.int v75), (.int v79), (.int v81), (.int v83)]) (rest := [(.int (10 : Int32)), (.ref b86), (.ref b86)]) (lenOf pd_0 rfl) rfl (by show 2 * 0 + _ ≤ _; exact Nat.le_of_eq rfl) (hb hby at_287) (fun _ _ => ⟨rfl, e110, (by decide : 1 + 0 ≤ _), (by decide : 18 + 0 ≤ _)⟩)
  dsimp only [Pt.U, Pt.locs, Pt.cells, Pt.slots] at X112 l112 y112 z112 st112 hQ112
  rw [l112, y112, z112] at X112
  replace X112 : Stand p l e room_1 s m #[(.int p0), (.int p1), (.int p2), (.int p3), (.int p4), (.int p5)] below meth c T112 _ 1 18 := X112
  obtain ⟨rfl, Nq112, eq112⟩ := hQ112
  have N112 := Fr.app N110 Nq112
  obtain ⟨T113, h113, X113, e113, W113, V113, st113⟩ := own_stB X112 hx hZ eq112 V110 (i := 10) (by decide : (10 : Int32).toInt = ((10 : Nat) : Int)) (by decide) (g := (mkF m 290 #[.val (.int p0), .val (.int p1), .val (.int p2), .val (.int p3), .val (.int p4), .val (.int p5), .val (.int v73), .val (.int v75), .val (.int v77), .val (.int v79), .val (.int v81), .val (.int v83), .val (.int v85), .unset, .unset] [(.int (own_cell (10 : Int32) v73 v85 v77 v75 v79 v81 v83)), (.int (10 : Int32)), (.ref b86), (.ref b86)])) rfl rfl (hb hby at_290)
  have N113 := Fr.snoc X113 N112 ge_b86
  obtain ⟨_, _, ⟨T114, L114, kc114, nc114⟩, -, X114, ⟨Lc114, hQ114, l114, y114, z114⟩, st114⟩ := Jvm.LawKit.callS X113 hx (y := (⟨"com/example/abak/abak/format/Aes256PaddingPinLaw", "cell", "(IIIBIBBB)B"⟩ : MethodName)) hown (mvT hZ (hw _ (List.mem_of_getElem? (i := 2) rfl))) (mvT hZ (hw _ (List.mem_of_getElem? (i := 3) rfl))) (mvT hZ (hw _ (List.mem_of_getElem? (i := 4) rfl))) (mvT hZ (hw _ (List.mem_of_getElem? (i := 5) rfl))) (by decide) (backOf (W := 3) (rm1 l Z a0 hw [] (11 : Int32) v73 v85 v77 v75 v79 v81 v83 h113 n0 ) hZ (hw _ (List.mem_of_getElem? (i := 5) rfl)) (hw _ (List.mem_of_getElem? (i := 4) rfl)) (by decide) (by decide)) (g := (mkF m 310 #[.val (.int p0), .val (.int p1), .val (.int p2), .val (.int p3), .val (.int p4), .val (.int p5), .val (.int v73), .val (.int v75), .val (.int v77), .val (.int v79), .val (.int v81), .val (.int v83), .val (.int v85), .unset, .unset] [(.int v83), (.int v81), (.int v79), (.int v75), (.int v77), (.int v85), (.int v73), (.int (11 : Int32)), (.int (11 : Int32)), (.ref b86), (.ref b86)])) rfl (by rw [hml]; rfl) (argsL := [(.int (11 : Int32)), (.int v73), (.int v85), (.int v77), (.int v75), (.int v79), (.int v81), (.int v83)]) (rest := [(.int (11 : Int32)), (.ref b86), (.ref b86)]) (lenOf pd_0 rfl) rfl (by show 2 * 0 + _ ≤ _; exact Nat.le_of_eq rfl) (hb hby at_310) (fun _ _ => ⟨rfl, e113, (by decide : 1 + 0 ≤ _), (by decide : 18 + 0 ≤ _)⟩)
  dsimp only [Pt.U, Pt.locs, Pt.cells, Pt.slots] at X114 l114 y114 z114 st114 hQ114
  rw [l114, y114, z114] at X114
  replace X114 : Stand p l e room_1 s m #[(.int p0), (.int p1), (.int p2), (.int p3), (.int p4), (.int p5)] below meth c T114 _ 1 18 := X114
  obtain ⟨rfl, Nq114, eq114⟩ := hQ114
  have N114 := Fr.app N113 Nq114
  obtain ⟨T115, h115, X115, e115, W115, V115, st115⟩ := own_stB X114 hx hZ eq114 V113 (i := 11) (by decide : (11 : Int32).toInt = ((11 : Nat) : Int)) (by decide) (g := (mkF m 313 #[.val (.int p0), .val (.int p1), .val (.int p2), .val (.int p3), .val (.int p4), .val (.int p5), .val (.int v73), .val (.int v75), .val (.int v77), .val (.int v79), .val (.int v81), .val (.int v83), .val (.int v85), .unset, .unset] [(.int (own_cell (11 : Int32) v73 v85 v77 v75 v79 v81 v83)), (.int (11 : Int32)), (.ref b86), (.ref b86)])) rfl rfl (hb hby at_313)
  have N115 := Fr.snoc X115 N114 ge_b86
  have k116 : ∀ tg_, Steps p.tables e below (T115.setTop (mkF m 331 #[.val (.int p0), .val (.int p1), .val (.int p2), .val (.int p3), .val (.int p4), .val (.int p5), .val (.int v73), .val (.int v75), .val (.int v77), .val (.int v79), .val (.int v81), .val (.int v83), .val (.int v85), .unset, .unset] [(.int v81), (.int v79), (.int v75), (.int v77), (.int v85), (.int v73), (.int (12 : Int32)), (.int (12 : Int32)), (.ref b86), (.ref b86)])) tg_ → Steps p.tables e below (s₁.setTop (entryFrame m #[(.int p0), (.int p1), (.int p2), (.int p3), (.int p4), (.int p5)] maxLocals)) tg_ := by
    intro tg_ kt
    refine k111 tg_ ?_
    refine XS.iload X110.here hx rfl (hb hby at_281) rfl ?_
    show Steps p.tables e below (T110.setTop (mkF m 283 #[.val (.int p0), .val (.int p1), .val (.int p2), .val (.int p3), .val (.int p4), .val (.int p5), .val (.int v73), .val (.int v75), .val (.int v77), .val (.int v79), .val (.int v81), .val (.int v83), .val (.int v85), .unset, .unset] [(.int v79), (.int v75), (.int v77), (.int v85), (.int v73), (.int (10 : Int32)), (.int (10 : Int32)), (.ref b86), (.ref b86)])) _
    refine XS.iload X110.here hx rfl (hb hby at_283) rfl ?_
    show Steps p.tables e below (T110.setTop (mkF m 285 #[.val (.int p0), .val (.int p1), .val (.int p2), .val (.int p3), .val (.int p4), .val (.int p5), .val (.int v73), .val (.int v75), .val (.int v77), .val (.int v79), .val (.int v81), .val (.int v83), .val (.int v85), .unset, .unset] [(.int v81), (.int v79), (.int v75), (.int v77), (.int v85), (.int v73), (.int (10 : Int32)), (.int (10 : Int32)), (.ref b86), (.ref b86)])) _
    refine XS.iload X110.here hx rfl (hb hby at_285) rfl ?_
    show Steps p.tables e below (T110.setTop (mkF m 287 #[.val (.int p0), .val (.int p1), .val (.int p2), .val (.int p3), .val (.int p4), .val (.int p5), .val (.int v73), .val (.int v75), .val (.int v77), .val (.int v79), .val (.int v81), .val (.int v83), .val (.int v85), .unset, .unset] [(.int v83), (.int v81), (.int v79), (.int v75), (.int v77), (.int v85), (.int v73), (.int (10 : Int32)), (.int (10 : Int32)), (.ref b86), (.ref b86)])) _
    refine st112 _ ?_
    show Steps p.tables e below (T112.setTop (mkF m 290 #[.val (.int p0), .val (.int p1), .val (.int p2), .val (.int p3), .val (.int p4), .val (.int p5), .val (.int v73), .val (.int v75), .val (.int v77), .val (.int v79), .val (.int v81), .val (.int v83), .val (.int v85), .unset, .unset] [(.int (own_cell (10 : Int32) v73 v85 v77 v75 v79 v81 v83)), (.int (10 : Int32)), (.ref b86), (.ref b86)])) _
    refine st113 _ ?_
    show Steps p.tables e below (T113.setTop (mkF m 291 #[.val (.int p0), .val (.int p1), .val (.int p2), .val (.int p3), .val (.int p4), .val (.int p5), .val (.int v73), .val (.int v75), .val (.int v77), .val (.int v79), .val (.int v81), .val (.int v83), .val (.int v85), .unset, .unset] [(.ref b86)])) _
    refine XS.dup X113.here hx rfl (hb hby at_291) rfl rfl ?_
    show Steps p.tables e below (T113.setTop (mkF m 292 #[.val (.int p0), .val (.int p1), .val (.int p2), .val (.int p3), .val (.int p4), .val (.int p5), .val (.int v73), .val (.int v75), .val (.int v77), .val (.int v79), .val (.int v81), .val (.int v83), .val (.int v85), .unset, .unset] [(.ref b86), (.ref b86)])) _
    refine XS.bipush X113.here hx rfl (hb hby at_292) ?_
    show Steps p.tables e below (T113.setTop (mkF m 294 #[.val (.int p0), .val (.int p1), .val (.int p2), .val (.int p3), .val (.int p4), .val (.int p5), .val (.int v73), .val (.int v75), .val (.int v77), .val (.int v79), .val (.int v81), .val (.int v83), .val (.int v85), .unset, .unset] [(.int (11 : Int32)), (.ref b86), (.ref b86)])) _
    refine XS.bipush X113.here hx rfl (hb hby at_294) ?_
    show Steps p.tables e below (T113.setTop (mkF m 296 #[.val (.int p0), .val (.int p1), .val (.int p2), .val (.int p3), .val (.int p4), .val (.int p5), .val (.int v73), .val (.int v75), .val (.int v77), .val (.int v79), .val (.int v81), .val (.int v83), .val (.int v85), .unset, .unset] [(.int (11 : Int32)), (.int (11 : Int32)), (.ref b86), (.ref b86)])) _
    refine XS.iload X113.here hx rfl (hb hby at_296) rfl ?_
    show Steps p.tables e below (T113.setTop (mkF m 298 #[.val (.int p0), .val (.int p1), .val (.int p2), .val (.int p3), .val (.int p4), .val (.int p5), .val (.int v73), .val (.int v75), .val (.int v77), .val (.int v79), .val (.int v81), .val (.int v83), .val (.int v85), .unset, .unset] [(.int v73), (.int (11 : Int32)), (.int (11 : Int32)), (.ref b86), (.ref b86)])) _
    refine XS.iload X113.here hx rfl (hb hby at_298) rfl ?_
    show Steps p.tables e below (T113.setTop (mkF m 300 #[.val (.int p0), .val (.int p1), .val (.int p2), .val (.int p3), .val (.int p4), .val (.int p5), .val (.int v73), .val (.int v75), .val (.int v77), .val (.int v79), .val (.int v81), .val (.int v83), .val (.int v85), .unset, .unset] [(.int v85), (.int v73), (.int (11 : Int32)), (.int (11 : Int32)), (.ref b86), (.ref b86)])) _
    refine XS.iload X113.here hx rfl (hb hby at_300) rfl ?_
    show Steps p.tables e below (T113.setTop (mkF m 302 #[.val (.int p0), .val (.int p1), .val (.int p2), .val (.int p3), .val (.int p4), .val (.int p5), .val (.int v73), .val (.int v75), .val (.int v77), .val (.int v79), .val (.int v81), .val (.int v83), .val (.int v85), .unset, .unset] [(.int v77), (.int v85), (.int v73), (.int (11 : Int32)), (.int (11 : Int32)), (.ref b86), (.ref b86)])) _
    refine XS.iload X113.here hx rfl (hb hby at_302) rfl ?_
    show Steps p.tables e below (T113.setTop (mkF m 304 #[.val (.int p0), .val (.int p1), .val (.int p2), .val (.int p3), .val (.int p4), .val (.int p5), .val (.int v73), .val (.int v75), .val (.int v77), .val (.int v79), .val (.int v81), .val (.int v83), .val (.int v85), .unset, .unset] [(.int v75), (.int v77), (.int v85), (.int v73), (.int (11 : Int32)), (.int (11 : Int32)), (.ref b86), (.ref b86)])) _
    refine XS.iload X113.here hx rfl (hb hby at_304) rfl ?_
    show Steps p.tables e below (T113.setTop (mkF m 306 #[.val (.int p0), .val (.int p1), .val (.int p2), .val (.int p3), .val (.int p4), .val (.int p5), .val (.int v73), .val (.int v75), .val (.int v77), .val (.int v79), .val (.int v81), .val (.int v83), .val (.int v85), .unset, .unset] [(.int v79), (.int v75), (.int v77), (.int v85), (.int v73), (.int (11 : Int32)), (.int (11 : Int32)), (.ref b86), (.ref b86)])) _
    refine XS.iload X113.here hx rfl (hb hby at_306) rfl ?_
    show Steps p.tables e below (T113.setTop (mkF m 308 #[.val (.int p0), .val (.int p1), .val (.int p2), .val (.int p3), .val (.int p4), .val (.int p5), .val (.int v73), .val (.int v75), .val (.int v77), .val (.int v79), .val (.int v81), .val (.int v83), .val (.int v85), .unset, .unset] [(.int v81), (.int v79), (.int v75), (.int v77), (.int v85), (.int v73), (.int (11 : Int32)), (.int (11 : Int32)), (.ref b86), (.ref b86)])) _
    refine XS.iload X113.here hx rfl (hb hby at_308) rfl ?_
    show Steps p.tables e below (T113.setTop (mkF m 310 #[.val (.int p0), .val (.int p1), .val (.int p2), .val (.int p3), .val (.int p4), .val (.int p5), .val (.int v73), .val (.int v75), .val (.int v77), .val (.int v79), .val (.int v81), .val (.int v83), .val (.int v85), .unset, .unset] [(.int v83), (.int v81), (.int v79), (.int v75), (.int v77), (.int v85), (.int v73), (.int (11 : Int32)), (.int (11 : Int32)), (.ref b86), (.ref b86)])) _
    refine st114 _ ?_
    show Steps p.tables e below (T114.setTop (mkF m 313 #[.val (.int p0), .val (.int p1), .val (.int p2), .val (.int p3), .val (.int p4), .val (.int p5), .val (.int v73), .val (.int v75), .val (.int v77), .val (.int v79), .val (.int v81), .val (.int v83), .val (.int v85), .unset, .unset] [(.int (own_cell (11 : Int32) v73 v85 v77 v75 v79 v81 v83)), (.int (11 : Int32)), (.ref b86), (.ref b86)])) _
    refine st115 _ ?_
    show Steps p.tables e below (T115.setTop (mkF m 314 #[.val (.int p0), .val (.int p1), .val (.int p2), .val (.int p3), .val (.int p4), .val (.int p5), .val (.int v73), .val (.int v75), .val (.int v77), .val (.int v79), .val (.int v81), .val (.int v83), .val (.int v85), .unset, .unset] [(.ref b86)])) _
    refine XS.dup X115.here hx rfl (hb hby at_314) rfl rfl ?_
    show Steps p.tables e below (T115.setTop (mkF m 315 #[.val (.int p0), .val (.int p1), .val (.int p2), .val (.int p3), .val (.int p4), .val (.int p5), .val (.int v73), .val (.int v75), .val (.int v77), .val (.int v79), .val (.int v81), .val (.int v83), .val (.int v85), .unset, .unset] [(.ref b86), (.ref b86)])) _
    refine XS.bipush X115.here hx rfl (hb hby at_315) ?_
    show Steps p.tables e below (T115.setTop (mkF m 317 #[.val (.int p0), .val (.int p1), .val (.int p2), .val (.int p3), .val (.int p4), .val (.int p5), .val (.int v73), .val (.int v75), .val (.int v77), .val (.int v79), .val (.int v81), .val (.int v83), .val (.int v85), .unset, .unset] [(.int (12 : Int32)), (.ref b86), (.ref b86)])) _
    refine XS.bipush X115.here hx rfl (hb hby at_317) ?_
    show Steps p.tables e below (T115.setTop (mkF m 319 #[.val (.int p0), .val (.int p1), .val (.int p2), .val (.int p3), .val (.int p4), .val (.int p5), .val (.int v73), .val (.int v75), .val (.int v77), .val (.int v79), .val (.int v81), .val (.int v83), .val (.int v85), .unset, .unset] [(.int (12 : Int32)), (.int (12 : Int32)), (.ref b86), (.ref b86)])) _
    refine XS.iload X115.here hx rfl (hb hby at_319) rfl ?_
    show Steps p.tables e below (T115.setTop (mkF m 321 #[.val (.int p0), .val (.int p1), .val (.int p2), .val (.int p3), .val (.int p4), .val (.int p5), .val (.int v73), .val (.int v75), .val (.int v77), .val (.int v79), .val (.int v81), .val (.int v83), .val (.int v85), .unset, .unset] [(.int v73), (.int (12 : Int32)), (.int (12 : Int32)), (.ref b86), (.ref b86)])) _
    refine XS.iload X115.here hx rfl (hb hby at_321) rfl ?_
    show Steps p.tables e below (T115.setTop (mkF m 323 #[.val (.int p0), .val (.int p1), .val (.int p2), .val (.int p3), .val (.int p4), .val (.int p5), .val (.int v73), .val (.int v75), .val (.int v77), .val (.int v79), .val (.int v81), .val (.int v83), .val (.int v85), .unset, .unset] [(.int v85), (.int v73), (.int (12 : Int32)), (.int (12 : Int32)), (.ref b86), (.ref b86)])) _
    refine XS.iload X115.here hx rfl (hb hby at_323) rfl ?_
    show Steps p.tables e below (T115.setTop (mkF m 325 #[.val (.int p0), .val (.int p1), .val (.int p2), .val (.int p3), .val (.int p4), .val (.int p5), .val (.int v73), .val (.int v75), .val (.int v77), .val (.int v79), .val (.int v81), .val (.int v83), .val (.int v85), .unset, .unset] [(.int v77), (.int v85), (.int v73), (.int (12 : Int32)), (.int (12 : Int32)), (.ref b86), (.ref b86)])) _
    refine XS.iload X115.here hx rfl (hb hby at_325) rfl ?_
    show Steps p.tables e below (T115.setTop (mkF m 327 #[.val (.int p0), .val (.int p1), .val (.int p2), .val (.int p3), .val (.int p4), .val (.int p5), .val (.int v73), .val (.int v75), .val (.int v77), .val (.int v79), .val (.int v81), .val (.int v83), .val (.int v85), .unset, .unset] [(.int v75), (.int v77), (.int v85), (.int v73), (.int (12 : Int32)), (.int (12 : Int32)), (.ref b86), (.ref b86)])) _
    refine XS.iload X115.here hx rfl (hb hby at_327) rfl ?_
    show Steps p.tables e below (T115.setTop (mkF m 329 #[.val (.int p0), .val (.int p1), .val (.int p2), .val (.int p3), .val (.int p4), .val (.int p5), .val (.int v73), .val (.int v75), .val (.int v77), .val (.int v79), .val (.int v81), .val (.int v83), .val (.int v85), .unset, .unset] [(.int v79), (.int v75), (.int v77), (.int v85), (.int v73), (.int (12 : Int32)), (.int (12 : Int32)), (.ref b86), (.ref b86)])) _
    refine XS.iload X115.here hx rfl (hb hby at_329) rfl ?_
    show Steps p.tables e below (T115.setTop (mkF m 331 #[.val (.int p0), .val (.int p1), .val (.int p2), .val (.int p3), .val (.int p4), .val (.int p5), .val (.int v73), .val (.int v75), .val (.int v77), .val (.int v79), .val (.int v81), .val (.int v83), .val (.int v85), .unset, .unset] [(.int v81), (.int v79), (.int v75), (.int v77), (.int v85), (.int v73), (.int (12 : Int32)), (.int (12 : Int32)), (.ref b86), (.ref b86)])) _
    exact kt
  obtain ⟨_, _, ⟨T117, L117, kc117, nc117⟩, -, X117, ⟨Lc117, hQ117, l117, y117, z117⟩, st117⟩ := Jvm.LawKit.callS X115 hx (y := (⟨"com/example/abak/abak/format/Aes256PaddingPinLaw", "cell", "(IIIBIBBB)B"⟩ : MethodName)) hown (mvT hZ (hw _ (List.mem_of_getElem? (i := 2) rfl))) (mvT hZ (hw _ (List.mem_of_getElem? (i := 3) rfl))) (mvT hZ (hw _ (List.mem_of_getElem? (i := 4) rfl))) (mvT hZ (hw _ (List.mem_of_getElem? (i := 5) rfl))) (by decide) (backOf (W := 3) (rm1 l Z a0 hw [] (12 : Int32) v73 v85 v77 v75 v79 v81 v83 h115 n0 ) hZ (hw _ (List.mem_of_getElem? (i := 5) rfl)) (hw _ (List.mem_of_getElem? (i := 4) rfl)) (by decide) (by decide)) (g := (mkF m 333 #[.val (.int p0), .val (.int p1), .val (.int p2), .val (.int p3), .val (.int p4), .val (.int p5), .val (.int v73), .val (.int v75), .val (.int v77), .val (.int v79), .val (.int v81), .val (.int v83), .val (.int v85), .unset, .unset] [(.int v83), (.int v81), (.int v79), (.int v75), (.int v77), (.int v85), (.int v73), (.int (12 : Int32)), (.int (12 : Int32)), (.ref b86), (.ref b86)])) rfl (by rw [hml]; rfl) (argsL := [(.int (12 : Int32)), (.int v73), (.int v85), (.int v77), (.int v75), (.int v79), (.int v81), (.int v83)]) (rest := [(.int (12 : Int32)), (.ref b86), (.ref b86)]) (lenOf pd_0 rfl) rfl (by show 2 * 0 + _ ≤ _; exact Nat.le_of_eq rfl) (hb hby at_333) (fun _ _ => ⟨rfl, e115, (by decide : 1 + 0 ≤ _), (by decide : 18 + 0 ≤ _)⟩)
  dsimp only [Pt.U, Pt.locs, Pt.cells, Pt.slots] at X117 l117 y117 z117 st117 hQ117
  rw [l117, y117, z117] at X117
  replace X117 : Stand p l e room_1 s m #[(.int p0), (.int p1), (.int p2), (.int p3), (.int p4), (.int p5)] below meth c T117 _ 1 18 := X117
  obtain ⟨rfl, Nq117, eq117⟩ := hQ117
  have N117 := Fr.app N115 Nq117
  obtain ⟨T118, h118, X118, e118, W118, V118, st118⟩ := own_stB X117 hx hZ eq117 V115 (i := 12) (by decide : (12 : Int32).toInt = ((12 : Nat) : Int)) (by decide) (g := (mkF m 336 #[.val (.int p0), .val (.int p1), .val (.int p2), .val (.int p3), .val (.int p4), .val (.int p5), .val (.int v73), .val (.int v75), .val (.int v77), .val (.int v79), .val (.int v81), .val (.int v83), .val (.int v85), .unset, .unset] [(.int (own_cell (12 : Int32) v73 v85 v77 v75 v79 v81 v83)), (.int (12 : Int32)), (.ref b86), (.ref b86)])) rfl rfl (hb hby at_336)
  have N118 := Fr.snoc X118 N117 ge_b86
  obtain ⟨_, _, ⟨T119, L119, kc119, nc119⟩, -, X119, ⟨Lc119, hQ119, l119, y119, z119⟩, st119⟩ := Jvm.LawKit.callS X118 hx (y := (⟨"com/example/abak/abak/format/Aes256PaddingPinLaw", "cell", "(IIIBIBBB)B"⟩ : MethodName)) hown (mvT hZ (hw _ (List.mem_of_getElem? (i := 2) rfl))) (mvT hZ (hw _ (List.mem_of_getElem? (i := 3) rfl))) (mvT hZ (hw _ (List.mem_of_getElem? (i := 4) rfl))) (mvT hZ (hw _ (List.mem_of_getElem? (i := 5) rfl))) (by decide) (backOf (W := 3) (rm1 l Z a0 hw [] (13 : Int32) v73 v85 v77 v75 v79 v81 v83 h118 n0 ) hZ (hw _ (List.mem_of_getElem? (i := 5) rfl)) (hw _ (List.mem_of_getElem? (i := 4) rfl)) (by decide) (by decide)) (g := (mkF m 356 #[.val (.int p0), .val (.int p1), .val (.int p2), .val (.int p3), .val (.int p4), .val (.int p5), .val (.int v73), .val (.int v75), .val (.int v77), .val (.int v79), .val (.int v81), .val (.int v83), .val (.int v85), .unset, .unset] [(.int v83), (.int v81), (.int v79), (.int v75), (.int v77), (.int v85), (.int v73), (.int (13 : Int32)), (.int (13 : Int32)), (.ref b86), (.ref b86)])) rfl (by rw [hml]; rfl) (argsL := [(.int (13 : Int32)), (.int v73), (.int v85), (.int v77), (.int v75), (.int v79), (.int v81), (.int v83)]) (rest := [(.int (13 : Int32)), (.ref b86), (.ref b86)]) (lenOf pd_0 rfl) rfl (by show 2 * 0 + _ ≤ _; exact Nat.le_of_eq rfl) (hb hby at_356) (fun _ _ => ⟨rfl, e118, (by decide : 1 + 0 ≤ _), (by decide : 18 + 0 ≤ _)⟩)
  dsimp only [Pt.U, Pt.locs, Pt.cells, Pt.slots] at X119 l119 y119 z119 st119 hQ119
  rw [l119, y119, z119] at X119
  replace X119 : Stand p l e room_1 s m #[(.int p0), (.int p1), (.int p2), (.int p3), (.int p4), (.int p5)] below meth c T119 _ 1 18 := X119
  obtain ⟨rfl, Nq119, eq119⟩ := hQ119
  have N119 := Fr.app N118 Nq119
  obtain ⟨T120, h120, X120, e120, W120, V120, st120⟩ := own_stB X119 hx hZ eq119 V118 (i := 13) (by decide : (13 : Int32).toInt = ((13 : Nat) : Int)) (by decide) (g := (mkF m 359 #[.val (.int p0), .val (.int p1), .val (.int p2), .val (.int p3), .val (.int p4), .val (.int p5), .val (.int v73), .val (.int v75), .val (.int v77), .val (.int v79), .val (.int v81), .val (.int v83), .val (.int v85), .unset, .unset] [(.int (own_cell (13 : Int32) v73 v85 v77 v75 v79 v81 v83)), (.int (13 : Int32)), (.ref b86), (.ref b86)])) rfl rfl (hb hby at_359)
  have N120 := Fr.snoc X120 N119 ge_b86
  obtain ⟨_, _, ⟨T121, L121, kc121, nc121⟩, -, X121, ⟨Lc121, hQ121, l121, y121, z121⟩, st121⟩ := Jvm.LawKit.callS X120 hx (y := (⟨"com/example/abak/abak/format/Aes256PaddingPinLaw", "cell", "(IIIBIBBB)B"⟩ : MethodName)) hown (mvT hZ (hw _ (List.mem_of_getElem? (i := 2) rfl))) (mvT hZ (hw _ (List.mem_of_getElem? (i := 3) rfl))) (mvT hZ (hw _ (List.mem_of_getElem? (i := 4) rfl))) (mvT hZ (hw _ (List.mem_of_getElem? (i := 5) rfl))) (by decide) (backOf (W := 3) (rm1 l Z a0 hw [] (14 : Int32) v73 v85 v77 v75 v79 v81 v83 h120 n0 ) hZ (hw _ (List.mem_of_getElem? (i := 5) rfl)) (hw _ (List.mem_of_getElem? (i := 4) rfl)) (by decide) (by decide)) (g := (mkF m 379 #[.val (.int p0), .val (.int p1), .val (.int p2), .val (.int p3), .val (.int p4), .val (.int p5), .val (.int v73), .val (.int v75), .val (.int v77), .val (.int v79), .val (.int v81), .val (.int v83), .val (.int v85), .unset, .unset] [(.int v83), (.int v81), (.int v79), (.int v75), (.int v77), (.int v85), (.int v73), (.int (14 : Int32)), (.int (14 : Int32)), (.ref b86), (.ref b86)])) rfl (by rw [hml]; rfl) (argsL := [(.int (14 : Int32)), (.int v73), (.int v85), (.int v77), (.int v75), (.int v79), (.int v81), (.int v83)]) (rest := [(.int (14 : Int32)), (.ref b86), (.ref b86)]) (lenOf pd_0 rfl) rfl (by show 2 * 0 + _ ≤ _; exact Nat.le_of_eq rfl) (hb hby at_379) (fun _ _ => ⟨rfl, e120, (by decide : 1 + 0 ≤ _), (by decide : 18 + 0 ≤ _)⟩)
  dsimp only [Pt.U, Pt.locs, Pt.cells, Pt.slots] at X121 l121 y121 z121 st121 hQ121
  rw [l121, y121, z121] at X121
  replace X121 : Stand p l e room_1 s m #[(.int p0), (.int p1), (.int p2), (.int p3), (.int p4), (.int p5)] below meth c T121 _ 1 18 := X121
  obtain ⟨rfl, Nq121, eq121⟩ := hQ121
  have N121 := Fr.app N120 Nq121
  have k122 : ∀ tg_, Steps p.tables e below (T121.setTop (mkF m 382 #[.val (.int p0), .val (.int p1), .val (.int p2), .val (.int p3), .val (.int p4), .val (.int p5), .val (.int v73), .val (.int v75), .val (.int v77), .val (.int v79), .val (.int v81), .val (.int v83), .val (.int v85), .unset, .unset] [(.int (own_cell (14 : Int32) v73 v85 v77 v75 v79 v81 v83)), (.int (14 : Int32)), (.ref b86), (.ref b86)])) tg_ → Steps p.tables e below (s₁.setTop (entryFrame m #[(.int p0), (.int p1), (.int p2), (.int p3), (.int p4), (.int p5)] maxLocals)) tg_ := by
    intro tg_ kt
    refine k116 tg_ ?_
    refine XS.iload X115.here hx rfl (hb hby at_331) rfl ?_
    show Steps p.tables e below (T115.setTop (mkF m 333 #[.val (.int p0), .val (.int p1), .val (.int p2), .val (.int p3), .val (.int p4), .val (.int p5), .val (.int v73), .val (.int v75), .val (.int v77), .val (.int v79), .val (.int v81), .val (.int v83), .val (.int v85), .unset, .unset] [(.int v83), (.int v81), (.int v79), (.int v75), (.int v77), (.int v85), (.int v73), (.int (12 : Int32)), (.int (12 : Int32)), (.ref b86), (.ref b86)])) _
    refine st117 _ ?_
    show Steps p.tables e below (T117.setTop (mkF m 336 #[.val (.int p0), .val (.int p1), .val (.int p2), .val (.int p3), .val (.int p4), .val (.int p5), .val (.int v73), .val (.int v75), .val (.int v77), .val (.int v79), .val (.int v81), .val (.int v83), .val (.int v85), .unset, .unset] [(.int (own_cell (12 : Int32) v73 v85 v77 v75 v79 v81 v83)), (.int (12 : Int32)), (.ref b86), (.ref b86)])) _
    refine st118 _ ?_
    show Steps p.tables e below (T118.setTop (mkF m 337 #[.val (.int p0), .val (.int p1), .val (.int p2), .val (.int p3), .val (.int p4), .val (.int p5), .val (.int v73), .val (.int v75), .val (.int v77), .val (.int v79), .val (.int v81), .val (.int v83), .val (.int v85), .unset, .unset] [(.ref b86)])) _
    refine XS.dup X118.here hx rfl (hb hby at_337) rfl rfl ?_
    show Steps p.tables e below (T118.setTop (mkF m 338 #[.val (.int p0), .val (.int p1), .val (.int p2), .val (.int p3), .val (.int p4), .val (.int p5), .val (.int v73), .val (.int v75), .val (.int v77), .val (.int v79), .val (.int v81), .val (.int v83), .val (.int v85), .unset, .unset] [(.ref b86), (.ref b86)])) _
    refine XS.bipush X118.here hx rfl (hb hby at_338) ?_
    show Steps p.tables e below (T118.setTop (mkF m 340 #[.val (.int p0), .val (.int p1), .val (.int p2), .val (.int p3), .val (.int p4), .val (.int p5), .val (.int v73), .val (.int v75), .val (.int v77), .val (.int v79), .val (.int v81), .val (.int v83), .val (.int v85), .unset, .unset] [(.int (13 : Int32)), (.ref b86), (.ref b86)])) _
    refine XS.bipush X118.here hx rfl (hb hby at_340) ?_
    show Steps p.tables e below (T118.setTop (mkF m 342 #[.val (.int p0), .val (.int p1), .val (.int p2), .val (.int p3), .val (.int p4), .val (.int p5), .val (.int v73), .val (.int v75), .val (.int v77), .val (.int v79), .val (.int v81), .val (.int v83), .val (.int v85), .unset, .unset] [(.int (13 : Int32)), (.int (13 : Int32)), (.ref b86), (.ref b86)])) _
    refine XS.iload X118.here hx rfl (hb hby at_342) rfl ?_
    show Steps p.tables e below (T118.setTop (mkF m 344 #[.val (.int p0), .val (.int p1), .val (.int p2), .val (.int p3), .val (.int p4), .val (.int p5), .val (.int v73), .val (.int v75), .val (.int v77), .val (.int v79), .val (.int v81), .val (.int v83), .val (.int v85), .unset, .unset] [(.int v73), (.int (13 : Int32)), (.int (13 : Int32)), (.ref b86), (.ref b86)])) _
    refine XS.iload X118.here hx rfl (hb hby at_344) rfl ?_
    show Steps p.tables e below (T118.setTop (mkF m 346 #[.val (.int p0), .val (.int p1), .val (.int p2), .val (.int p3), .val (.int p4), .val (.int p5), .val (.int v73), .val (.int v75), .val (.int v77), .val (.int v79), .val (.int v81), .val (.int v83), .val (.int v85), .unset, .unset] [(.int v85), (.int v73), (.int (13 : Int32)), (.int (13 : Int32)), (.ref b86), (.ref b86)])) _
    refine XS.iload X118.here hx rfl (hb hby at_346) rfl ?_
    show Steps p.tables e below (T118.setTop (mkF m 348 #[.val (.int p0), .val (.int p1), .val (.int p2), .val (.int p3), .val (.int p4), .val (.int p5), .val (.int v73), .val (.int v75), .val (.int v77), .val (.int v79), .val (.int v81), .val (.int v83), .val (.int v85), .unset, .unset] [(.int v77), (.int v85), (.int v73), (.int (13 : Int32)), (.int (13 : Int32)), (.ref b86), (.ref b86)])) _
    refine XS.iload X118.here hx rfl (hb hby at_348) rfl ?_
    show Steps p.tables e below (T118.setTop (mkF m 350 #[.val (.int p0), .val (.int p1), .val (.int p2), .val (.int p3), .val (.int p4), .val (.int p5), .val (.int v73), .val (.int v75), .val (.int v77), .val (.int v79), .val (.int v81), .val (.int v83), .val (.int v85), .unset, .unset] [(.int v75), (.int v77), (.int v85), (.int v73), (.int (13 : Int32)), (.int (13 : Int32)), (.ref b86), (.ref b86)])) _
    refine XS.iload X118.here hx rfl (hb hby at_350) rfl ?_
    show Steps p.tables e below (T118.setTop (mkF m 352 #[.val (.int p0), .val (.int p1), .val (.int p2), .val (.int p3), .val (.int p4), .val (.int p5), .val (.int v73), .val (.int v75), .val (.int v77), .val (.int v79), .val (.int v81), .val (.int v83), .val (.int v85), .unset, .unset] [(.int v79), (.int v75), (.int v77), (.int v85), (.int v73), (.int (13 : Int32)), (.int (13 : Int32)), (.ref b86), (.ref b86)])) _
    refine XS.iload X118.here hx rfl (hb hby at_352) rfl ?_
    show Steps p.tables e below (T118.setTop (mkF m 354 #[.val (.int p0), .val (.int p1), .val (.int p2), .val (.int p3), .val (.int p4), .val (.int p5), .val (.int v73), .val (.int v75), .val (.int v77), .val (.int v79), .val (.int v81), .val (.int v83), .val (.int v85), .unset, .unset] [(.int v81), (.int v79), (.int v75), (.int v77), (.int v85), (.int v73), (.int (13 : Int32)), (.int (13 : Int32)), (.ref b86), (.ref b86)])) _
    refine XS.iload X118.here hx rfl (hb hby at_354) rfl ?_
    show Steps p.tables e below (T118.setTop (mkF m 356 #[.val (.int p0), .val (.int p1), .val (.int p2), .val (.int p3), .val (.int p4), .val (.int p5), .val (.int v73), .val (.int v75), .val (.int v77), .val (.int v79), .val (.int v81), .val (.int v83), .val (.int v85), .unset, .unset] [(.int v83), (.int v81), (.int v79), (.int v75), (.int v77), (.int v85), (.int v73), (.int (13 : Int32)), (.int (13 : Int32)), (.ref b86), (.ref b86)])) _
    refine st119 _ ?_
    show Steps p.tables e below (T119.setTop (mkF m 359 #[.val (.int p0), .val (.int p1), .val (.int p2), .val (.int p3), .val (.int p4), .val (.int p5), .val (.int v73), .val (.int v75), .val (.int v77), .val (.int v79), .val (.int v81), .val (.int v83), .val (.int v85), .unset, .unset] [(.int (own_cell (13 : Int32) v73 v85 v77 v75 v79 v81 v83)), (.int (13 : Int32)), (.ref b86), (.ref b86)])) _
    refine st120 _ ?_
    show Steps p.tables e below (T120.setTop (mkF m 360 #[.val (.int p0), .val (.int p1), .val (.int p2), .val (.int p3), .val (.int p4), .val (.int p5), .val (.int v73), .val (.int v75), .val (.int v77), .val (.int v79), .val (.int v81), .val (.int v83), .val (.int v85), .unset, .unset] [(.ref b86)])) _
    refine XS.dup X120.here hx rfl (hb hby at_360) rfl rfl ?_
    show Steps p.tables e below (T120.setTop (mkF m 361 #[.val (.int p0), .val (.int p1), .val (.int p2), .val (.int p3), .val (.int p4), .val (.int p5), .val (.int v73), .val (.int v75), .val (.int v77), .val (.int v79), .val (.int v81), .val (.int v83), .val (.int v85), .unset, .unset] [(.ref b86), (.ref b86)])) _
    refine XS.bipush X120.here hx rfl (hb hby at_361) ?_
    show Steps p.tables e below (T120.setTop (mkF m 363 #[.val (.int p0), .val (.int p1), .val (.int p2), .val (.int p3), .val (.int p4), .val (.int p5), .val (.int v73), .val (.int v75), .val (.int v77), .val (.int v79), .val (.int v81), .val (.int v83), .val (.int v85), .unset, .unset] [(.int (14 : Int32)), (.ref b86), (.ref b86)])) _
    refine XS.bipush X120.here hx rfl (hb hby at_363) ?_
    show Steps p.tables e below (T120.setTop (mkF m 365 #[.val (.int p0), .val (.int p1), .val (.int p2), .val (.int p3), .val (.int p4), .val (.int p5), .val (.int v73), .val (.int v75), .val (.int v77), .val (.int v79), .val (.int v81), .val (.int v83), .val (.int v85), .unset, .unset] [(.int (14 : Int32)), (.int (14 : Int32)), (.ref b86), (.ref b86)])) _
    refine XS.iload X120.here hx rfl (hb hby at_365) rfl ?_
    show Steps p.tables e below (T120.setTop (mkF m 367 #[.val (.int p0), .val (.int p1), .val (.int p2), .val (.int p3), .val (.int p4), .val (.int p5), .val (.int v73), .val (.int v75), .val (.int v77), .val (.int v79), .val (.int v81), .val (.int v83), .val (.int v85), .unset, .unset] [(.int v73), (.int (14 : Int32)), (.int (14 : Int32)), (.ref b86), (.ref b86)])) _
    refine XS.iload X120.here hx rfl (hb hby at_367) rfl ?_
    show Steps p.tables e below (T120.setTop (mkF m 369 #[.val (.int p0), .val (.int p1), .val (.int p2), .val (.int p3), .val (.int p4), .val (.int p5), .val (.int v73), .val (.int v75), .val (.int v77), .val (.int v79), .val (.int v81), .val (.int v83), .val (.int v85), .unset, .unset] [(.int v85), (.int v73), (.int (14 : Int32)), (.int (14 : Int32)), (.ref b86), (.ref b86)])) _
    refine XS.iload X120.here hx rfl (hb hby at_369) rfl ?_
    show Steps p.tables e below (T120.setTop (mkF m 371 #[.val (.int p0), .val (.int p1), .val (.int p2), .val (.int p3), .val (.int p4), .val (.int p5), .val (.int v73), .val (.int v75), .val (.int v77), .val (.int v79), .val (.int v81), .val (.int v83), .val (.int v85), .unset, .unset] [(.int v77), (.int v85), (.int v73), (.int (14 : Int32)), (.int (14 : Int32)), (.ref b86), (.ref b86)])) _
    refine XS.iload X120.here hx rfl (hb hby at_371) rfl ?_
    show Steps p.tables e below (T120.setTop (mkF m 373 #[.val (.int p0), .val (.int p1), .val (.int p2), .val (.int p3), .val (.int p4), .val (.int p5), .val (.int v73), .val (.int v75), .val (.int v77), .val (.int v79), .val (.int v81), .val (.int v83), .val (.int v85), .unset, .unset] [(.int v75), (.int v77), (.int v85), (.int v73), (.int (14 : Int32)), (.int (14 : Int32)), (.ref b86), (.ref b86)])) _
    refine XS.iload X120.here hx rfl (hb hby at_373) rfl ?_
    show Steps p.tables e below (T120.setTop (mkF m 375 #[.val (.int p0), .val (.int p1), .val (.int p2), .val (.int p3), .val (.int p4), .val (.int p5), .val (.int v73), .val (.int v75), .val (.int v77), .val (.int v79), .val (.int v81), .val (.int v83), .val (.int v85), .unset, .unset] [(.int v79), (.int v75), (.int v77), (.int v85), (.int v73), (.int (14 : Int32)), (.int (14 : Int32)), (.ref b86), (.ref b86)])) _
    refine XS.iload X120.here hx rfl (hb hby at_375) rfl ?_
    show Steps p.tables e below (T120.setTop (mkF m 377 #[.val (.int p0), .val (.int p1), .val (.int p2), .val (.int p3), .val (.int p4), .val (.int p5), .val (.int v73), .val (.int v75), .val (.int v77), .val (.int v79), .val (.int v81), .val (.int v83), .val (.int v85), .unset, .unset] [(.int v81), (.int v79), (.int v75), (.int v77), (.int v85), (.int v73), (.int (14 : Int32)), (.int (14 : Int32)), (.ref b86), (.ref b86)])) _
    refine XS.iload X120.here hx rfl (hb hby at_377) rfl ?_
    show Steps p.tables e below (T120.setTop (mkF m 379 #[.val (.int p0), .val (.int p1), .val (.int p2), .val (.int p3), .val (.int p4), .val (.int p5), .val (.int v73), .val (.int v75), .val (.int v77), .val (.int v79), .val (.int v81), .val (.int v83), .val (.int v85), .unset, .unset] [(.int v83), (.int v81), (.int v79), (.int v75), (.int v77), (.int v85), (.int v73), (.int (14 : Int32)), (.int (14 : Int32)), (.ref b86), (.ref b86)])) _
    refine st121 _ ?_
    show Steps p.tables e below (T121.setTop (mkF m 382 #[.val (.int p0), .val (.int p1), .val (.int p2), .val (.int p3), .val (.int p4), .val (.int p5), .val (.int v73), .val (.int v75), .val (.int v77), .val (.int v79), .val (.int v81), .val (.int v83), .val (.int v85), .unset, .unset] [(.int (own_cell (14 : Int32) v73 v85 v77 v75 v79 v81 v83)), (.int (14 : Int32)), (.ref b86), (.ref b86)])) _
    exact kt
  obtain ⟨T123, h123, X123, e123, W123, V123, st123⟩ := own_stB X121 hx hZ eq121 V120 (i := 14) (by decide : (14 : Int32).toInt = ((14 : Nat) : Int)) (by decide) (g := (mkF m 382 #[.val (.int p0), .val (.int p1), .val (.int p2), .val (.int p3), .val (.int p4), .val (.int p5), .val (.int v73), .val (.int v75), .val (.int v77), .val (.int v79), .val (.int v81), .val (.int v83), .val (.int v85), .unset, .unset] [(.int (own_cell (14 : Int32) v73 v85 v77 v75 v79 v81 v83)), (.int (14 : Int32)), (.ref b86), (.ref b86)])) rfl rfl (hb hby at_382)
  have N123 := Fr.snoc X123 N121 ge_b86
  obtain ⟨_, _, ⟨T124, L124, kc124, nc124⟩, -, X124, ⟨Lc124, hQ124, l124, y124, z124⟩, st124⟩ := Jvm.LawKit.callS X123 hx (y := (⟨"com/example/abak/abak/format/Aes256PaddingPinLaw", "cell", "(IIIBIBBB)B"⟩ : MethodName)) hown (mvT hZ (hw _ (List.mem_of_getElem? (i := 2) rfl))) (mvT hZ (hw _ (List.mem_of_getElem? (i := 3) rfl))) (mvT hZ (hw _ (List.mem_of_getElem? (i := 4) rfl))) (mvT hZ (hw _ (List.mem_of_getElem? (i := 5) rfl))) (by decide) (backOf (W := 3) (rm1 l Z a0 hw [] (15 : Int32) v73 v85 v77 v75 v79 v81 v83 h123 n0 ) hZ (hw _ (List.mem_of_getElem? (i := 5) rfl)) (hw _ (List.mem_of_getElem? (i := 4) rfl)) (by decide) (by decide)) (g := (mkF m 402 #[.val (.int p0), .val (.int p1), .val (.int p2), .val (.int p3), .val (.int p4), .val (.int p5), .val (.int v73), .val (.int v75), .val (.int v77), .val (.int v79), .val (.int v81), .val (.int v83), .val (.int v85), .unset, .unset] [(.int v83), (.int v81), (.int v79), (.int v75), (.int v77), (.int v85), (.int v73), (.int (15 : Int32)), (.int (15 : Int32)), (.ref b86), (.ref b86)])) rfl (by rw [hml]; rfl) (argsL := [(.int (15 : Int32)), (.int v73), (.int v85), (.int v77), (.int v75), (.int v79), (.int v81), (.int v83)]) (rest := [(.int (15 : Int32)), (.ref b86), (.ref b86)]) (lenOf pd_0 rfl) rfl (by show 2 * 0 + _ ≤ _; exact Nat.le_of_eq rfl) (hb hby at_402) (fun _ _ => ⟨rfl, e123, (by decide : 1 + 0 ≤ _), (by decide : 18 + 0 ≤ _)⟩)
  dsimp only [Pt.U, Pt.locs, Pt.cells, Pt.slots] at X124 l124 y124 z124 st124 hQ124
  rw [l124, y124, z124] at X124
  replace X124 : Stand p l e room_1 s m #[(.int p0), (.int p1), (.int p2), (.int p3), (.int p4), (.int p5)] below meth c T124 _ 1 18 := X124
  obtain ⟨rfl, Nq124, eq124⟩ := hQ124
  have N124 := Fr.app N123 Nq124
  obtain ⟨T125, h125, X125, e125, W125, V125, st125⟩ := own_stB X124 hx hZ eq124 V123 (i := 15) (by decide : (15 : Int32).toInt = ((15 : Nat) : Int)) (by decide) (g := (mkF m 405 #[.val (.int p0), .val (.int p1), .val (.int p2), .val (.int p3), .val (.int p4), .val (.int p5), .val (.int v73), .val (.int v75), .val (.int v77), .val (.int v79), .val (.int v81), .val (.int v83), .val (.int v85), .unset, .unset] [(.int (own_cell (15 : Int32) v73 v85 v77 v75 v79 v81 v83)), (.int (15 : Int32)), (.ref b86), (.ref b86)])) rfl rfl (hb hby at_405)
  have N125 := Fr.snoc X125 N124 ge_b86
  obtain ⟨_, _, ⟨T126, L126, kc126, nc126⟩, -, X126, ⟨Lc126, hQ126, l126, y126, z126⟩, st126⟩ := Jvm.LawKit.callS X125 hx (y := (⟨"com/example/abak/abak/format/Aes256PaddingPinLaw", "cell", "(IIIBIBBB)B"⟩ : MethodName)) hown (mvT hZ (hw _ (List.mem_of_getElem? (i := 2) rfl))) (mvT hZ (hw _ (List.mem_of_getElem? (i := 3) rfl))) (mvT hZ (hw _ (List.mem_of_getElem? (i := 4) rfl))) (mvT hZ (hw _ (List.mem_of_getElem? (i := 5) rfl))) (by decide) (backOf (W := 3) (rm1 l Z a0 hw [] (16 : Int32) v73 v85 v77 v75 v79 v81 v83 h125 n0 ) hZ (hw _ (List.mem_of_getElem? (i := 5) rfl)) (hw _ (List.mem_of_getElem? (i := 4) rfl)) (by decide) (by decide)) (g := (mkF m 425 #[.val (.int p0), .val (.int p1), .val (.int p2), .val (.int p3), .val (.int p4), .val (.int p5), .val (.int v73), .val (.int v75), .val (.int v77), .val (.int v79), .val (.int v81), .val (.int v83), .val (.int v85), .unset, .unset] [(.int v83), (.int v81), (.int v79), (.int v75), (.int v77), (.int v85), (.int v73), (.int (16 : Int32)), (.int (16 : Int32)), (.ref b86), (.ref b86)])) rfl (by rw [hml]; rfl) (argsL := [(.int (16 : Int32)), (.int v73), (.int v85), (.int v77), (.int v75), (.int v79), (.int v81), (.int v83)]) (rest := [(.int (16 : Int32)), (.ref b86), (.ref b86)]) (lenOf pd_0 rfl) rfl (by show 2 * 0 + _ ≤ _; exact Nat.le_of_eq rfl) (hb hby at_425) (fun _ _ => ⟨rfl, e125, (by decide : 1 + 0 ≤ _), (by decide : 18 + 0 ≤ _)⟩)
  dsimp only [Pt.U, Pt.locs, Pt.cells, Pt.slots] at X126 l126 y126 z126 st126 hQ126
  rw [l126, y126, z126] at X126
  replace X126 : Stand p l e room_1 s m #[(.int p0), (.int p1), (.int p2), (.int p3), (.int p4), (.int p5)] below meth c T126 _ 1 18 := X126
  obtain ⟨rfl, Nq126, eq126⟩ := hQ126
  have N126 := Fr.app N125 Nq126
  obtain ⟨T127, h127, X127, e127, W127, V127, st127⟩ := own_stB X126 hx hZ eq126 V125 (i := 16) (by decide : (16 : Int32).toInt = ((16 : Nat) : Int)) (by decide) (g := (mkF m 428 #[.val (.int p0), .val (.int p1), .val (.int p2), .val (.int p3), .val (.int p4), .val (.int p5), .val (.int v73), .val (.int v75), .val (.int v77), .val (.int v79), .val (.int v81), .val (.int v83), .val (.int v85), .unset, .unset] [(.int (own_cell (16 : Int32) v73 v85 v77 v75 v79 v81 v83)), (.int (16 : Int32)), (.ref b86), (.ref b86)])) rfl rfl (hb hby at_428)
  have N127 := Fr.snoc X127 N126 ge_b86
  have k128 : ∀ tg_, Steps p.tables e below (T127.setTop (mkF m 430 #[.val (.int p0), .val (.int p1), .val (.int p2), .val (.int p3), .val (.int p4), .val (.int p5), .val (.int v73), .val (.int v75), .val (.int v77), .val (.int v79), .val (.int v81), .val (.int v83), .val (.int v85), .unset, .unset] [(.ref b86), (.ref b86)])) tg_ → Steps p.tables e below (s₁.setTop (entryFrame m #[(.int p0), (.int p1), (.int p2), (.int p3), (.int p4), (.int p5)] maxLocals)) tg_ := by
    intro tg_ kt
    refine k122 tg_ ?_
    refine st123 _ ?_
    show Steps p.tables e below (T123.setTop (mkF m 383 #[.val (.int p0), .val (.int p1), .val (.int p2), .val (.int p3), .val (.int p4), .val (.int p5), .val (.int v73), .val (.int v75), .val (.int v77), .val (.int v79), .val (.int v81), .val (.int v83), .val (.int v85), .unset, .unset] [(.ref b86)])) _
    refine XS.dup X123.here hx rfl (hb hby at_383) rfl rfl ?_
    show Steps p.tables e below (T123.setTop (mkF m 384 #[.val (.int p0), .val (.int p1), .val (.int p2), .val (.int p3), .val (.int p4), .val (.int p5), .val (.int v73), .val (.int v75), .val (.int v77), .val (.int v79), .val (.int v81), .val (.int v83), .val (.int v85), .unset, .unset] [(.ref b86), (.ref b86)])) _
    refine XS.bipush X123.here hx rfl (hb hby at_384) ?_
    show Steps p.tables e below (T123.setTop (mkF m 386 #[.val (.int p0), .val (.int p1), .val (.int p2), .val (.int p3), .val (.int p4), .val (.int p5), .val (.int v73), .val (.int v75), .val (.int v77), .val (.int v79), .val (.int v81), .val (.int v83), .val (.int v85), .unset, .unset] [(.int (15 : Int32)), (.ref b86), (.ref b86)])) _
    refine XS.bipush X123.here hx rfl (hb hby at_386) ?_
    show Steps p.tables e below (T123.setTop (mkF m 388 #[.val (.int p0), .val (.int p1), .val (.int p2), .val (.int p3), .val (.int p4), .val (.int p5), .val (.int v73), .val (.int v75), .val (.int v77), .val (.int v79), .val (.int v81), .val (.int v83), .val (.int v85), .unset, .unset] [(.int (15 : Int32)), (.int (15 : Int32)), (.ref b86), (.ref b86)])) _
    refine XS.iload X123.here hx rfl (hb hby at_388) rfl ?_
    show Steps p.tables e below (T123.setTop (mkF m 390 #[.val (.int p0), .val (.int p1), .val (.int p2), .val (.int p3), .val (.int p4), .val (.int p5), .val (.int v73), .val (.int v75), .val (.int v77), .val (.int v79), .val (.int v81), .val (.int v83), .val (.int v85), .unset, .unset] [(.int v73), (.int (15 : Int32)), (.int (15 : Int32)), (.ref b86), (.ref b86)])) _
    refine XS.iload X123.here hx rfl (hb hby at_390) rfl ?_
    show Steps p.tables e below (T123.setTop (mkF m 392 #[.val (.int p0), .val (.int p1), .val (.int p2), .val (.int p3), .val (.int p4), .val (.int p5), .val (.int v73), .val (.int v75), .val (.int v77), .val (.int v79), .val (.int v81), .val (.int v83), .val (.int v85), .unset, .unset] [(.int v85), (.int v73), (.int (15 : Int32)), (.int (15 : Int32)), (.ref b86), (.ref b86)])) _
    refine XS.iload X123.here hx rfl (hb hby at_392) rfl ?_
    show Steps p.tables e below (T123.setTop (mkF m 394 #[.val (.int p0), .val (.int p1), .val (.int p2), .val (.int p3), .val (.int p4), .val (.int p5), .val (.int v73), .val (.int v75), .val (.int v77), .val (.int v79), .val (.int v81), .val (.int v83), .val (.int v85), .unset, .unset] [(.int v77), (.int v85), (.int v73), (.int (15 : Int32)), (.int (15 : Int32)), (.ref b86), (.ref b86)])) _
    refine XS.iload X123.here hx rfl (hb hby at_394) rfl ?_
    show Steps p.tables e below (T123.setTop (mkF m 396 #[.val (.int p0), .val (.int p1), .val (.int p2), .val (.int p3), .val (.int p4), .val (.int p5), .val (.int v73), .val (.int v75), .val (.int v77), .val (.int v79), .val (.int v81), .val (.int v83), .val (.int v85), .unset, .unset] [(.int v75), (.int v77), (.int v85), (.int v73), (.int (15 : Int32)), (.int (15 : Int32)), (.ref b86), (.ref b86)])) _
    refine XS.iload X123.here hx rfl (hb hby at_396) rfl ?_
    show Steps p.tables e below (T123.setTop (mkF m 398 #[.val (.int p0), .val (.int p1), .val (.int p2), .val (.int p3), .val (.int p4), .val (.int p5), .val (.int v73), .val (.int v75), .val (.int v77), .val (.int v79), .val (.int v81), .val (.int v83), .val (.int v85), .unset, .unset] [(.int v79), (.int v75), (.int v77), (.int v85), (.int v73), (.int (15 : Int32)), (.int (15 : Int32)), (.ref b86), (.ref b86)])) _
    refine XS.iload X123.here hx rfl (hb hby at_398) rfl ?_
    show Steps p.tables e below (T123.setTop (mkF m 400 #[.val (.int p0), .val (.int p1), .val (.int p2), .val (.int p3), .val (.int p4), .val (.int p5), .val (.int v73), .val (.int v75), .val (.int v77), .val (.int v79), .val (.int v81), .val (.int v83), .val (.int v85), .unset, .unset] [(.int v81), (.int v79), (.int v75), (.int v77), (.int v85), (.int v73), (.int (15 : Int32)), (.int (15 : Int32)), (.ref b86), (.ref b86)])) _
    refine XS.iload X123.here hx rfl (hb hby at_400) rfl ?_
    show Steps p.tables e below (T123.setTop (mkF m 402 #[.val (.int p0), .val (.int p1), .val (.int p2), .val (.int p3), .val (.int p4), .val (.int p5), .val (.int v73), .val (.int v75), .val (.int v77), .val (.int v79), .val (.int v81), .val (.int v83), .val (.int v85), .unset, .unset] [(.int v83), (.int v81), (.int v79), (.int v75), (.int v77), (.int v85), (.int v73), (.int (15 : Int32)), (.int (15 : Int32)), (.ref b86), (.ref b86)])) _
    refine st124 _ ?_
    show Steps p.tables e below (T124.setTop (mkF m 405 #[.val (.int p0), .val (.int p1), .val (.int p2), .val (.int p3), .val (.int p4), .val (.int p5), .val (.int v73), .val (.int v75), .val (.int v77), .val (.int v79), .val (.int v81), .val (.int v83), .val (.int v85), .unset, .unset] [(.int (own_cell (15 : Int32) v73 v85 v77 v75 v79 v81 v83)), (.int (15 : Int32)), (.ref b86), (.ref b86)])) _
    refine st125 _ ?_
    show Steps p.tables e below (T125.setTop (mkF m 406 #[.val (.int p0), .val (.int p1), .val (.int p2), .val (.int p3), .val (.int p4), .val (.int p5), .val (.int v73), .val (.int v75), .val (.int v77), .val (.int v79), .val (.int v81), .val (.int v83), .val (.int v85), .unset, .unset] [(.ref b86)])) _
    refine XS.dup X125.here hx rfl (hb hby at_406) rfl rfl ?_
    show Steps p.tables e below (T125.setTop (mkF m 407 #[.val (.int p0), .val (.int p1), .val (.int p2), .val (.int p3), .val (.int p4), .val (.int p5), .val (.int v73), .val (.int v75), .val (.int v77), .val (.int v79), .val (.int v81), .val (.int v83), .val (.int v85), .unset, .unset] [(.ref b86), (.ref b86)])) _
    refine XS.bipush X125.here hx rfl (hb hby at_407) ?_
    show Steps p.tables e below (T125.setTop (mkF m 409 #[.val (.int p0), .val (.int p1), .val (.int p2), .val (.int p3), .val (.int p4), .val (.int p5), .val (.int v73), .val (.int v75), .val (.int v77), .val (.int v79), .val (.int v81), .val (.int v83), .val (.int v85), .unset, .unset] [(.int (16 : Int32)), (.ref b86), (.ref b86)])) _
    refine XS.bipush X125.here hx rfl (hb hby at_409) ?_
    show Steps p.tables e below (T125.setTop (mkF m 411 #[.val (.int p0), .val (.int p1), .val (.int p2), .val (.int p3), .val (.int p4), .val (.int p5), .val (.int v73), .val (.int v75), .val (.int v77), .val (.int v79), .val (.int v81), .val (.int v83), .val (.int v85), .unset, .unset] [(.int (16 : Int32)), (.int (16 : Int32)), (.ref b86), (.ref b86)])) _
    refine XS.iload X125.here hx rfl (hb hby at_411) rfl ?_
    show Steps p.tables e below (T125.setTop (mkF m 413 #[.val (.int p0), .val (.int p1), .val (.int p2), .val (.int p3), .val (.int p4), .val (.int p5), .val (.int v73), .val (.int v75), .val (.int v77), .val (.int v79), .val (.int v81), .val (.int v83), .val (.int v85), .unset, .unset] [(.int v73), (.int (16 : Int32)), (.int (16 : Int32)), (.ref b86), (.ref b86)])) _
    refine XS.iload X125.here hx rfl (hb hby at_413) rfl ?_
    show Steps p.tables e below (T125.setTop (mkF m 415 #[.val (.int p0), .val (.int p1), .val (.int p2), .val (.int p3), .val (.int p4), .val (.int p5), .val (.int v73), .val (.int v75), .val (.int v77), .val (.int v79), .val (.int v81), .val (.int v83), .val (.int v85), .unset, .unset] [(.int v85), (.int v73), (.int (16 : Int32)), (.int (16 : Int32)), (.ref b86), (.ref b86)])) _
    refine XS.iload X125.here hx rfl (hb hby at_415) rfl ?_
    show Steps p.tables e below (T125.setTop (mkF m 417 #[.val (.int p0), .val (.int p1), .val (.int p2), .val (.int p3), .val (.int p4), .val (.int p5), .val (.int v73), .val (.int v75), .val (.int v77), .val (.int v79), .val (.int v81), .val (.int v83), .val (.int v85), .unset, .unset] [(.int v77), (.int v85), (.int v73), (.int (16 : Int32)), (.int (16 : Int32)), (.ref b86), (.ref b86)])) _
    refine XS.iload X125.here hx rfl (hb hby at_417) rfl ?_
    show Steps p.tables e below (T125.setTop (mkF m 419 #[.val (.int p0), .val (.int p1), .val (.int p2), .val (.int p3), .val (.int p4), .val (.int p5), .val (.int v73), .val (.int v75), .val (.int v77), .val (.int v79), .val (.int v81), .val (.int v83), .val (.int v85), .unset, .unset] [(.int v75), (.int v77), (.int v85), (.int v73), (.int (16 : Int32)), (.int (16 : Int32)), (.ref b86), (.ref b86)])) _
    refine XS.iload X125.here hx rfl (hb hby at_419) rfl ?_
    show Steps p.tables e below (T125.setTop (mkF m 421 #[.val (.int p0), .val (.int p1), .val (.int p2), .val (.int p3), .val (.int p4), .val (.int p5), .val (.int v73), .val (.int v75), .val (.int v77), .val (.int v79), .val (.int v81), .val (.int v83), .val (.int v85), .unset, .unset] [(.int v79), (.int v75), (.int v77), (.int v85), (.int v73), (.int (16 : Int32)), (.int (16 : Int32)), (.ref b86), (.ref b86)])) _
    refine XS.iload X125.here hx rfl (hb hby at_421) rfl ?_
    show Steps p.tables e below (T125.setTop (mkF m 423 #[.val (.int p0), .val (.int p1), .val (.int p2), .val (.int p3), .val (.int p4), .val (.int p5), .val (.int v73), .val (.int v75), .val (.int v77), .val (.int v79), .val (.int v81), .val (.int v83), .val (.int v85), .unset, .unset] [(.int v81), (.int v79), (.int v75), (.int v77), (.int v85), (.int v73), (.int (16 : Int32)), (.int (16 : Int32)), (.ref b86), (.ref b86)])) _
    refine XS.iload X125.here hx rfl (hb hby at_423) rfl ?_
    show Steps p.tables e below (T125.setTop (mkF m 425 #[.val (.int p0), .val (.int p1), .val (.int p2), .val (.int p3), .val (.int p4), .val (.int p5), .val (.int v73), .val (.int v75), .val (.int v77), .val (.int v79), .val (.int v81), .val (.int v83), .val (.int v85), .unset, .unset] [(.int v83), (.int v81), (.int v79), (.int v75), (.int v77), (.int v85), (.int v73), (.int (16 : Int32)), (.int (16 : Int32)), (.ref b86), (.ref b86)])) _
    refine st126 _ ?_
    show Steps p.tables e below (T126.setTop (mkF m 428 #[.val (.int p0), .val (.int p1), .val (.int p2), .val (.int p3), .val (.int p4), .val (.int p5), .val (.int v73), .val (.int v75), .val (.int v77), .val (.int v79), .val (.int v81), .val (.int v83), .val (.int v85), .unset, .unset] [(.int (own_cell (16 : Int32) v73 v85 v77 v75 v79 v81 v83)), (.int (16 : Int32)), (.ref b86), (.ref b86)])) _
    refine st127 _ ?_
    show Steps p.tables e below (T127.setTop (mkF m 429 #[.val (.int p0), .val (.int p1), .val (.int p2), .val (.int p3), .val (.int p4), .val (.int p5), .val (.int v73), .val (.int v75), .val (.int v77), .val (.int v79), .val (.int v81), .val (.int v83), .val (.int v85), .unset, .unset] [(.ref b86)])) _
    refine XS.dup X127.here hx rfl (hb hby at_429) rfl rfl ?_
    show Steps p.tables e below (T127.setTop (mkF m 430 #[.val (.int p0), .val (.int p1), .val (.int p2), .val (.int p3), .val (.int p4), .val (.int p5), .val (.int v73), .val (.int v75), .val (.int v77), .val (.int v79), .val (.int v81), .val (.int v83), .val (.int v85), .unset, .unset] [(.ref b86), (.ref b86)])) _
    exact kt
  obtain ⟨_, _, ⟨T129, L129, kc129, nc129⟩, -, X129, ⟨Lc129, hQ129, l129, y129, z129⟩, st129⟩ := Jvm.LawKit.callS X127 hx (y := (⟨"com/example/abak/abak/format/Aes256PaddingPinLaw", "cell", "(IIIBIBBB)B"⟩ : MethodName)) hown (mvT hZ (hw _ (List.mem_of_getElem? (i := 2) rfl))) (mvT hZ (hw _ (List.mem_of_getElem? (i := 3) rfl))) (mvT hZ (hw _ (List.mem_of_getElem? (i := 4) rfl))) (mvT hZ (hw _ (List.mem_of_getElem? (i := 5) rfl))) (by decide) (backOf (W := 3) (rm1 l Z a0 hw [] (17 : Int32) v73 v85 v77 v75 v79 v81 v83 h127 n0 ) hZ (hw _ (List.mem_of_getElem? (i := 5) rfl)) (hw _ (List.mem_of_getElem? (i := 4) rfl)) (by decide) (by decide)) (g := (mkF m 448 #[.val (.int p0), .val (.int p1), .val (.int p2), .val (.int p3), .val (.int p4), .val (.int p5), .val (.int v73), .val (.int v75), .val (.int v77), .val (.int v79), .val (.int v81), .val (.int v83), .val (.int v85), .unset, .unset] [(.int v83), (.int v81), (.int v79), (.int v75), (.int v77), (.int v85), (.int v73), (.int (17 : Int32)), (.int (17 : Int32)), (.ref b86), (.ref b86)])) rfl (by rw [hml]; rfl) (argsL := [(.int (17 : Int32)), (.int v73), (.int v85), (.int v77), (.int v75), (.int v79), (.int v81), (.int v83)]) (rest := [(.int (17 : Int32)), (.ref b86), (.ref b86)]) (lenOf pd_0 rfl) rfl (by show 2 * 0 + _ ≤ _; exact Nat.le_of_eq rfl) (hb hby at_448) (fun _ _ => ⟨rfl, e127, (by decide : 1 + 0 ≤ _), (by decide : 18 + 0 ≤ _)⟩)
  dsimp only [Pt.U, Pt.locs, Pt.cells, Pt.slots] at X129 l129 y129 z129 st129 hQ129
  rw [l129, y129, z129] at X129
  replace X129 : Stand p l e room_1 s m #[(.int p0), (.int p1), (.int p2), (.int p3), (.int p4), (.int p5)] below meth c T129 _ 1 18 := X129
  obtain ⟨rfl, Nq129, eq129⟩ := hQ129
  have N129 := Fr.app N127 Nq129
  obtain ⟨T130, h130, X130, e130, W130, V130, st130⟩ := own_stB X129 hx hZ eq129 V127 (i := 17) (by decide : (17 : Int32).toInt = ((17 : Nat) : Int)) (by decide) (g := (mkF m 451 #[.val (.int p0), .val (.int p1), .val (.int p2), .val (.int p3), .val (.int p4), .val (.int p5), .val (.int v73), .val (.int v75), .val (.int v77), .val (.int v79), .val (.int v81), .val (.int v83), .val (.int v85), .unset, .unset] [(.int (own_cell (17 : Int32) v73 v85 v77 v75 v79 v81 v83)), (.int (17 : Int32)), (.ref b86), (.ref b86)])) rfl rfl (hb hby at_451)
  have N130 := Fr.snoc X130 N129 ge_b86
  have k131 : ∀ tg_, Steps p.tables e below (T130.setTop (mkF m 454 #[.val (.int p0), .val (.int p1), .val (.int p2), .val (.int p3), .val (.int p4), .val (.int p5), .val (.int v73), .val (.int v75), .val (.int v77), .val (.int v79), .val (.int v81), .val (.int v83), .val (.int v85), .val (.ref b86), .unset] [])) tg_ → Steps p.tables e below (s₁.setTop (entryFrame m #[(.int p0), (.int p1), (.int p2), (.int p3), (.int p4), (.int p5)] maxLocals)) tg_ := by
    intro tg_ kt
    refine k128 tg_ ?_
    refine XS.bipush X127.here hx rfl (hb hby at_430) ?_
    show Steps p.tables e below (T127.setTop (mkF m 432 #[.val (.int p0), .val (.int p1), .val (.int p2), .val (.int p3), .val (.int p4), .val (.int p5), .val (.int v73), .val (.int v75), .val (.int v77), .val (.int v79), .val (.int v81), .val (.int v83), .val (.int v85), .unset, .unset] [(.int (17 : Int32)), (.ref b86), (.ref b86)])) _
    refine XS.bipush X127.here hx rfl (hb hby at_432) ?_
    show Steps p.tables e below (T127.setTop (mkF m 434 #[.val (.int p0), .val (.int p1), .val (.int p2), .val (.int p3), .val (.int p4), .val (.int p5), .val (.int v73), .val (.int v75), .val (.int v77), .val (.int v79), .val (.int v81), .val (.int v83), .val (.int v85), .unset, .unset] [(.int (17 : Int32)), (.int (17 : Int32)), (.ref b86), (.ref b86)])) _
    refine XS.iload X127.here hx rfl (hb hby at_434) rfl ?_
    show Steps p.tables e below (T127.setTop (mkF m 436 #[.val (.int p0), .val (.int p1), .val (.int p2), .val (.int p3), .val (.int p4), .val (.int p5), .val (.int v73), .val (.int v75), .val (.int v77), .val (.int v79), .val (.int v81), .val (.int v83), .val (.int v85), .unset, .unset] [(.int v73), (.int (17 : Int32)), (.int (17 : Int32)), (.ref b86), (.ref b86)])) _
    refine XS.iload X127.here hx rfl (hb hby at_436) rfl ?_
    show Steps p.tables e below (T127.setTop (mkF m 438 #[.val (.int p0), .val (.int p1), .val (.int p2), .val (.int p3), .val (.int p4), .val (.int p5), .val (.int v73), .val (.int v75), .val (.int v77), .val (.int v79), .val (.int v81), .val (.int v83), .val (.int v85), .unset, .unset] [(.int v85), (.int v73), (.int (17 : Int32)), (.int (17 : Int32)), (.ref b86), (.ref b86)])) _
    refine XS.iload X127.here hx rfl (hb hby at_438) rfl ?_
    show Steps p.tables e below (T127.setTop (mkF m 440 #[.val (.int p0), .val (.int p1), .val (.int p2), .val (.int p3), .val (.int p4), .val (.int p5), .val (.int v73), .val (.int v75), .val (.int v77), .val (.int v79), .val (.int v81), .val (.int v83), .val (.int v85), .unset, .unset] [(.int v77), (.int v85), (.int v73), (.int (17 : Int32)), (.int (17 : Int32)), (.ref b86), (.ref b86)])) _
    refine XS.iload X127.here hx rfl (hb hby at_440) rfl ?_
    show Steps p.tables e below (T127.setTop (mkF m 442 #[.val (.int p0), .val (.int p1), .val (.int p2), .val (.int p3), .val (.int p4), .val (.int p5), .val (.int v73), .val (.int v75), .val (.int v77), .val (.int v79), .val (.int v81), .val (.int v83), .val (.int v85), .unset, .unset] [(.int v75), (.int v77), (.int v85), (.int v73), (.int (17 : Int32)), (.int (17 : Int32)), (.ref b86), (.ref b86)])) _
    refine XS.iload X127.here hx rfl (hb hby at_442) rfl ?_
    show Steps p.tables e below (T127.setTop (mkF m 444 #[.val (.int p0), .val (.int p1), .val (.int p2), .val (.int p3), .val (.int p4), .val (.int p5), .val (.int v73), .val (.int v75), .val (.int v77), .val (.int v79), .val (.int v81), .val (.int v83), .val (.int v85), .unset, .unset] [(.int v79), (.int v75), (.int v77), (.int v85), (.int v73), (.int (17 : Int32)), (.int (17 : Int32)), (.ref b86), (.ref b86)])) _
    refine XS.iload X127.here hx rfl (hb hby at_444) rfl ?_
    show Steps p.tables e below (T127.setTop (mkF m 446 #[.val (.int p0), .val (.int p1), .val (.int p2), .val (.int p3), .val (.int p4), .val (.int p5), .val (.int v73), .val (.int v75), .val (.int v77), .val (.int v79), .val (.int v81), .val (.int v83), .val (.int v85), .unset, .unset] [(.int v81), (.int v79), (.int v75), (.int v77), (.int v85), (.int v73), (.int (17 : Int32)), (.int (17 : Int32)), (.ref b86), (.ref b86)])) _
    refine XS.iload X127.here hx rfl (hb hby at_446) rfl ?_
    show Steps p.tables e below (T127.setTop (mkF m 448 #[.val (.int p0), .val (.int p1), .val (.int p2), .val (.int p3), .val (.int p4), .val (.int p5), .val (.int v73), .val (.int v75), .val (.int v77), .val (.int v79), .val (.int v81), .val (.int v83), .val (.int v85), .unset, .unset] [(.int v83), (.int v81), (.int v79), (.int v75), (.int v77), (.int v85), (.int v73), (.int (17 : Int32)), (.int (17 : Int32)), (.ref b86), (.ref b86)])) _
    refine st129 _ ?_
    show Steps p.tables e below (T129.setTop (mkF m 451 #[.val (.int p0), .val (.int p1), .val (.int p2), .val (.int p3), .val (.int p4), .val (.int p5), .val (.int v73), .val (.int v75), .val (.int v77), .val (.int v79), .val (.int v81), .val (.int v83), .val (.int v85), .unset, .unset] [(.int (own_cell (17 : Int32) v73 v85 v77 v75 v79 v81 v83)), (.int (17 : Int32)), (.ref b86), (.ref b86)])) _
    refine st130 _ ?_
    show Steps p.tables e below (T130.setTop (mkF m 452 #[.val (.int p0), .val (.int p1), .val (.int p2), .val (.int p3), .val (.int p4), .val (.int p5), .val (.int v73), .val (.int v75), .val (.int v77), .val (.int v79), .val (.int v81), .val (.int v83), .val (.int v85), .unset, .unset] [(.ref b86)])) _
    refine XS.astore X130.here hx rfl (hb hby at_452) rfl rfl (l' := #[.val (.int p0), .val (.int p1), .val (.int p2), .val (.int p3), .val (.int p4), .val (.int p5), .val (.int v73), .val (.int v75), .val (.int v77), .val (.int v79), .val (.int v81), .val (.int v83), .val (.int v85), .val (.ref b86), .unset]) rfl ?_
    show Steps p.tables e below (T130.setTop (mkF m 454 #[.val (.int p0), .val (.int p1), .val (.int p2), .val (.int p3), .val (.int p4), .val (.int p5), .val (.int v73), .val (.int v75), .val (.int v77), .val (.int v79), .val (.int v81), .val (.int v83), .val (.int v85), .val (.ref b86), .unset] [])) _
    exact kt
  have V132 : own_AI Z h130 b86 .byte 18 (own_g v73 v85 v77 v75 v79 v81 v83) := by
    refine own_AI.congr V130 fun j hj => ?_
    match j, hj with
    | 0, _ => rfl
    | 1, _ => rfl
    | 2, _ => rfl
    | 3, _ => rfl
    | 4, _ => rfl
    | 5, _ => rfl
    | 6, _ => rfl
    | 7, _ => rfl
    | 8, _ => rfl
    | 9, _ => rfl
    | 10, _ => rfl
    | 11, _ => rfl
    | 12, _ => rfl
    | 13, _ => rfl
    | 14, _ => rfl
    | 15, _ => rfl
    | 16, _ => rfl
    | 17, _ => rfl
    | j + 18, hj => exact absurd hj (by omega)
  have hp : v77.toInt8.toInt32 = v77 := by rw [hv77]; exact own_bb _
  have hv : v79.toInt8.toInt32 = v79 := by rw [hv79]; exact own_bb _
  obtain ⟨e1, hen, h15, h17⟩ : ∃ e1 : Nat, v73.toInt = ((e1 + 1 : Nat) : Int) ∧ 15 ≤ e1 ∧ e1 ≤ 17 := by
    have ar133 := rng32 v73
    have ar134 : (16 : Int32).toInt = 16 := by decide
    have ar135 := rng32 p4
    have ar136 : (2147483647 : Int32).toInt = 2147483647 := by decide
    have ar137 := c_mask p4 (2147483647 : Int32) 31 (by decide) (by decide)
    simp only [show (2 ^ 31 : Nat) = 2147483648 from by decide, Int.cast_ofNat_Int] at ar137
    have ar138 := rng32 (p4 &&& (2147483647 : Int32))
    have ar139 : (3 : Int32).toInt = 3 := by decide
    first | have ar140 := (c_irem (p4 &&& (2147483647 : Int32)) (3 : Int32) 3 (by decide)).1 (by omega) | have ar140 := c_irem (p4 &&& (2147483647 : Int32)) (3 : Int32) 3 (by decide)
    have ar141 := rng32 ((p4 &&& (2147483647 : Int32)) % (3 : Int32))
    have ar142 := rng32 ((16 : Int32) + ((p4 &&& (2147483647 : Int32)) % (3 : Int32)))
    first | have ar143 : ((16 : Int32) + ((p4 &&& (2147483647 : Int32)) % (3 : Int32))).toInt = 16 + ((p4 &&& (2147483647 : Int32)) % (3 : Int32)).toInt := (by have qw := c_iadd (16 : Int32) ((p4 &&& (2147483647 : Int32)) % (3 : Int32)); omega) | (have ar143 := c_iadd (16 : Int32) ((p4 &&& (2147483647 : Int32)) % (3 : Int32)); skip)
    have ar144 := congrArg Int32.toInt hv73
    exact ⟨(v73.toInt - 1).toNat, by omega, by omega, by omega⟩
  have hk0 : 0 ≤ v75.toInt := by
    have ar145 := rng32 v75
    have ar146 := rng32 p2
    have ar147 : (2147483647 : Int32).toInt = 2147483647 := by decide
    have ar148 := c_mask p2 (2147483647 : Int32) 31 (by decide) (by decide)
    simp only [show (2 ^ 31 : Nat) = 2147483648 from by decide, Int.cast_ofNat_Int] at ar148
    have ar149 := rng32 (p2 &&& (2147483647 : Int32))
    have ar150 : (18 : Int32).toInt = 18 := by decide
    first | have ar151 := (c_irem (p2 &&& (2147483647 : Int32)) (18 : Int32) 18 (by decide)).1 (by omega) | have ar151 := c_irem (p2 &&& (2147483647 : Int32)) (18 : Int32) 18 (by decide)
    have ar152 := rng32 ((p2 &&& (2147483647 : Int32)) % (18 : Int32))
    have ar153 := congrArg Int32.toInt hv75
    omega
  obtain ⟨bt, hbt⟩ : ∃ b : Bool, b = true ↔ (∀ i, i < e1 → ¬ (i : Int) < (e1 : Int) + 1 - ((own_g v73 v85 v77 v75 v79 v81 v83) e1 &&& (255 : Int32)).toInt → (own_g v73 v85 v77 v75 v79 v81 v83) i = (own_g v73 v85 v77 v75 v79 v81 v83) e1) := ⟨@decide _ (Classical.propDecidable _), @decide_eq_true_iff _ (Classical.propDecidable _)⟩
  have hge : (own_g v73 v85 v77 v75 v79 v81 v83) e1 = v77 := by
    rw [own_g, own_eq_own_cell, if_pos (Int32.toInt_inj.mp ?_)]
    · show (v77.toInt8.toInt32).toInt8.toInt32 = v77
      rw [hp, hp]
    · rw [Int32.toInt_ofNat_of_lt (by omega)]
      have a := c_isub v73 1
      have r := rng32 (v73 - 1)
      have o : (1 : Int32).toInt = 1 := by decide
      omega
  have hwE : ((own_g v73 v85 v77 v75 v79 v81 v83) e1 &&& (255 : Int32)) = v85 := by rw [hge, hv85]
  have k154 : ∀ tg_, Steps p.tables e below (T130.setTop (mkF m 457 #[.val (.int p0), .val (.int p1), .val (.int p2), .val (.int p3), .val (.int p4), .val (.int p5), .val (.int v73), .val (.int v75), .val (.int v77), .val (.int v79), .val (.int v81), .val (.int v83), .val (.int v85), .val (.ref b86), .unset] [(.int (1 : Int32)), (.int v85)])) tg_ → Steps p.tables e below (s₁.setTop (entryFrame m #[(.int p0), (.int p1), (.int p2), (.int p3), (.int p4), (.int p5)] maxLocals)) tg_ := by
    intro tg_ kt
    refine k131 tg_ ?_
    refine XS.iload X130.here hx rfl (hb hby at_454) rfl ?_
    show Steps p.tables e below (T130.setTop (mkF m 456 #[.val (.int p0), .val (.int p1), .val (.int p2), .val (.int p3), .val (.int p4), .val (.int p5), .val (.int v73), .val (.int v75), .val (.int v77), .val (.int v79), .val (.int v81), .val (.int v83), .val (.int v85), .val (.ref b86), .unset] [(.int v85)])) _
    refine XS.iconst X130.here hx rfl (hb hby at_456) ?_
    show Steps p.tables e below (T130.setTop (mkF m 457 #[.val (.int p0), .val (.int p1), .val (.int p2), .val (.int p3), .val (.int p4), .val (.int p5), .val (.int v73), .val (.int v75), .val (.int v77), .val (.int v79), .val (.int v81), .val (.int v83), .val (.int v85), .val (.ref b86), .unset] [(.int (1 : Int32)), (.int v85)])) _
    exact kt
  by_cases hc457_155 : v85 < (1 : Int32)
  · obtain ⟨_, _, ⟨T156, L156, kc156, nc156⟩, -, X156, ⟨Lc156, hQ156, l156, y156, z156⟩, st156⟩ := Jvm.LawKit.callS X130 hx (y := (⟨"com/example/abak/abak/format/Aes256", "padding", "([BI)I"⟩ : MethodName)) hown (mvT hZ (hw _ (List.mem_of_getElem? (i := 6) rfl))) (mvT hZ (hw _ (List.mem_of_getElem? (i := 7) rfl))) (mvT hZ (hw _ (List.mem_of_getElem? (i := 8) rfl))) (mvT hZ (hw _ (List.mem_of_getElem? (i := 9) rfl))) (by decide) (backOf (W := 0) (rm2 l Z a0 hw [] b86 v73 e1 (own_g v73 v85 v77 v75 v79 v81 v83) bt h130 n0 V132 hen h15 h17 hbt) hZ (hw _ (List.mem_of_getElem? (i := 9) rfl)) (hw _ (List.mem_of_getElem? (i := 8) rfl)) (by decide) (by decide)) (g := (mkF m 513 #[.val (.int p0), .val (.int p1), .val (.int p2), .val (.int p3), .val (.int p4), .val (.int p5), .val (.int v73), .val (.int v75), .val (.int v77), .val (.int v79), .val (.int v81), .val (.int v83), .val (.int v85), .val (.ref b86), .val (.int (-1 : Int32))] [(.int v73), (.ref b86)])) rfl (by rw [hml]; rfl) (argsL := [(.ref b86), (.int v73)]) (rest := []) (lenOf pd_1 rfl) rfl (by show 2 * 0 + _ ≤ _; exact Nat.le_of_eq rfl) (hb hby at_513) (fun _ _ => ⟨rfl, e130, (by decide : 1 + 0 ≤ _), (by decide : 18 + 0 ≤ _)⟩)
    dsimp only [Pt.U, Pt.locs, Pt.cells, Pt.slots] at X156 l156 y156 z156 st156 hQ156
    rw [l156, y156, z156] at X156
    replace X156 : Stand p l e room_1 s m #[(.int p0), (.int p1), (.int p2), (.int p3), (.int p4), (.int p5)] below meth c T156 _ 1 18 := X156
    obtain ⟨rfl, Nq156, eq156⟩ := hQ156
    have N156 := Fr.app N130 Nq156
    have k157 : ∀ tg_, Steps p.tables e below (T156.setTop (mkF m 516 #[.val (.int p0), .val (.int p1), .val (.int p2), .val (.int p3), .val (.int p4), .val (.int p5), .val (.int v73), .val (.int v75), .val (.int v77), .val (.int v79), .val (.int v81), .val (.int v83), .val (.int v85), .val (.ref b86), .val (.int (-1 : Int32))] [(.int (own_pad (own_g v73 v85 v77 v75 v79 v81 v83) e1 bt))])) tg_ → Steps p.tables e below (s₁.setTop (entryFrame m #[(.int p0), (.int p1), (.int p2), (.int p3), (.int p4), (.int p5)] maxLocals)) tg_ := by
      intro tg_ kt
      refine k154 tg_ ?_
      refine XS.icmpYes X130.here hx rfl (pc0 := 457) (pc' := 467) rfl (hb hby at_457) rfl (tlt hc457_155).1 (by decide) (by decide) ?_
      show Steps p.tables e below (T130.setTop (mkF m 467 #[.val (.int p0), .val (.int p1), .val (.int p2), .val (.int p3), .val (.int p4), .val (.int p5), .val (.int v73), .val (.int v75), .val (.int v77), .val (.int v79), .val (.int v81), .val (.int v83), .val (.int v85), .val (.ref b86), .unset] [])) _
      refine XS.iconst X130.here hx rfl (hb hby at_467) ?_
      show Steps p.tables e below (T130.setTop (mkF m 468 #[.val (.int p0), .val (.int p1), .val (.int p2), .val (.int p3), .val (.int p4), .val (.int p5), .val (.int v73), .val (.int v75), .val (.int v77), .val (.int v79), .val (.int v81), .val (.int v83), .val (.int v85), .val (.ref b86), .unset] [(.int (-1 : Int32))])) _
      refine XS.istore X130.here hx rfl (hb hby at_468) rfl (l' := #[.val (.int p0), .val (.int p1), .val (.int p2), .val (.int p3), .val (.int p4), .val (.int p5), .val (.int v73), .val (.int v75), .val (.int v77), .val (.int v79), .val (.int v81), .val (.int v83), .val (.int v85), .val (.ref b86), .val (.int (-1 : Int32))]) rfl ?_
      show Steps p.tables e below (T130.setTop (mkF m 470 #[.val (.int p0), .val (.int p1), .val (.int p2), .val (.int p3), .val (.int p4), .val (.int p5), .val (.int v73), .val (.int v75), .val (.int v77), .val (.int v79), .val (.int v81), .val (.int v83), .val (.int v85), .val (.ref b86), .val (.int (-1 : Int32))] [])) _
      refine XS.goto X130.here hx rfl (pc0 := 470) (pc' := 509) rfl (hb hby at_470) (by decide) (by decide) ?_
      show Steps p.tables e below (T130.setTop (mkF m 509 #[.val (.int p0), .val (.int p1), .val (.int p2), .val (.int p3), .val (.int p4), .val (.int p5), .val (.int v73), .val (.int v75), .val (.int v77), .val (.int v79), .val (.int v81), .val (.int v83), .val (.int v85), .val (.ref b86), .val (.int (-1 : Int32))] [])) _
      refine XS.aload X130.here hx rfl (hb hby at_509) rfl rfl ?_
      show Steps p.tables e below (T130.setTop (mkF m 511 #[.val (.int p0), .val (.int p1), .val (.int p2), .val (.int p3), .val (.int p4), .val (.int p5), .val (.int v73), .val (.int v75), .val (.int v77), .val (.int v79), .val (.int v81), .val (.int v83), .val (.int v85), .val (.ref b86), .val (.int (-1 : Int32))] [(.ref b86)])) _
      refine XS.iload X130.here hx rfl (hb hby at_511) rfl ?_
      show Steps p.tables e below (T130.setTop (mkF m 513 #[.val (.int p0), .val (.int p1), .val (.int p2), .val (.int p3), .val (.int p4), .val (.int p5), .val (.int v73), .val (.int v75), .val (.int v77), .val (.int v79), .val (.int v81), .val (.int v83), .val (.int v85), .val (.ref b86), .val (.int (-1 : Int32))] [(.int v73), (.ref b86)])) _
      refine st156 _ ?_
      show Steps p.tables e below (T156.setTop (mkF m 516 #[.val (.int p0), .val (.int p1), .val (.int p2), .val (.int p3), .val (.int p4), .val (.int p5), .val (.int v73), .val (.int v75), .val (.int v77), .val (.int v79), .val (.int v81), .val (.int v83), .val (.int v85), .val (.ref b86), .val (.int (-1 : Int32))] [(.int (own_pad (own_g v73 v85 v77 v75 v79 v81 v83) e1 bt))])) _
      exact kt
    obtain ⟨r158, hr158⟩ : ∃ z : Int32, z = (own_pad (own_g v73 v85 v77 v75 v79 v81 v83) e1 bt) := ⟨_, rfl⟩
    rw [← hr158] at k157
    have hres159 : r158 = (-1 : Int32) := by
      rw [hr158, own_pad, hwE]
      rw [if_pos hc457_155]
    have hc518_160 : r158 = (-1 : Int32) := hres159
    have k161 : ∀ tg_, Steps p.tables e below (T156.setTop (mkF m 526 #[.val (.int p0), .val (.int p1), .val (.int p2), .val (.int p3), .val (.int p4), .val (.int p5), .val (.int v73), .val (.int v75), .val (.int v77), .val (.int v79), .val (.int v81), .val (.int v83), .val (.int v85), .val (.ref b86), .val (.int (-1 : Int32))] [(.int (1 : Int32))])) tg_ → Steps p.tables e below (s₁.setTop (entryFrame m #[(.int p0), (.int p1), (.int p2), (.int p3), (.int p4), (.int p5)] maxLocals)) tg_ := by
      intro tg_ kt
      refine k157 tg_ ?_
      show Steps p.tables e below (T156.setTop (mkF m 516 #[.val (.int p0), .val (.int p1), .val (.int p2), .val (.int p3), .val (.int p4), .val (.int p5), .val (.int v73), .val (.int v75), .val (.int v77), .val (.int v79), .val (.int v81), .val (.int v83), .val (.int v85), .val (.ref b86), .val (.int (-1 : Int32))] [(.int r158)])) _
      refine XS.iload X156.here hx rfl (hb hby at_516) rfl ?_
      show Steps p.tables e below (T156.setTop (mkF m 518 #[.val (.int p0), .val (.int p1), .val (.int p2), .val (.int p3), .val (.int p4), .val (.int p5), .val (.int v73), .val (.int v75), .val (.int v77), .val (.int v79), .val (.int v81), .val (.int v83), .val (.int v85), .val (.ref b86), .val (.int (-1 : Int32))] [(.int (-1 : Int32)), (.int r158)])) _
      refine XS.icmpNo X156.here hx rfl (hb hby at_518) rfl (teq hc518_160).2 ?_
      show Steps p.tables e below (T156.setTop (mkF m 521 #[.val (.int p0), .val (.int p1), .val (.int p2), .val (.int p3), .val (.int p4), .val (.int p5), .val (.int v73), .val (.int v75), .val (.int v77), .val (.int v79), .val (.int v81), .val (.int v83), .val (.int v85), .val (.ref b86), .val (.int (-1 : Int32))] [])) _
      refine XS.iconst X156.here hx rfl (hb hby at_521) ?_
      show Steps p.tables e below (T156.setTop (mkF m 522 #[.val (.int p0), .val (.int p1), .val (.int p2), .val (.int p3), .val (.int p4), .val (.int p5), .val (.int v73), .val (.int v75), .val (.int v77), .val (.int v79), .val (.int v81), .val (.int v83), .val (.int v85), .val (.ref b86), .val (.int (-1 : Int32))] [(.int (1 : Int32))])) _
      refine XS.goto X156.here hx rfl (pc0 := 522) (pc' := 526) rfl (hb hby at_522) (by decide) (by decide) ?_
      show Steps p.tables e below (T156.setTop (mkF m 526 #[.val (.int p0), .val (.int p1), .val (.int p2), .val (.int p3), .val (.int p4), .val (.int p5), .val (.int v73), .val (.int v75), .val (.int v77), .val (.int v79), .val (.int v81), .val (.int v83), .val (.int v85), .val (.ref b86), .val (.int (-1 : Int32))] [(.int (1 : Int32))])) _
      exact kt
    obtain ⟨fs, hr, hrun, hended, hW, hsame⟩ := X156.leave (v := some (.int (1 : Int32))) (fun h => by rw [Bd.returns] at h; cases h)
    refine ⟨_, _, k161 _ (retN X156 hx (t := .boolean) Bd.returns (by simp) (hb hby at_526) hr), hrun, hended, _, _, rfl, ?_, ⟨_, rfl⟩, hW, hsame.mono (by decide) (by decide)⟩
    show Q0 Z p0 p1 p2 p3 p4 p5 h0 n0 _ T156.heap _
    rw [eq156]
    exact ⟨rfl, N156⟩
  · have k162 : ∀ tg_, Steps p.tables e below (T130.setTop (mkF m 464 #[.val (.int p0), .val (.int p1), .val (.int p2), .val (.int p3), .val (.int p4), .val (.int p5), .val (.int v73), .val (.int v75), .val (.int v77), .val (.int v79), .val (.int v81), .val (.int v83), .val (.int v85), .val (.ref b86), .unset] [(.int (16 : Int32)), (.int v85)])) tg_ → Steps p.tables e below (s₁.setTop (entryFrame m #[(.int p0), (.int p1), (.int p2), (.int p3), (.int p4), (.int p5)] maxLocals)) tg_ := by
      intro tg_ kt
      refine k154 tg_ ?_
      refine XS.icmpNo X130.here hx rfl (hb hby at_457) rfl (flt hc457_155).1 ?_
      show Steps p.tables e below (T130.setTop (mkF m 460 #[.val (.int p0), .val (.int p1), .val (.int p2), .val (.int p3), .val (.int p4), .val (.int p5), .val (.int v73), .val (.int v75), .val (.int v77), .val (.int v79), .val (.int v81), .val (.int v83), .val (.int v85), .val (.ref b86), .unset] [])) _
      refine XS.iload X130.here hx rfl (hb hby at_460) rfl ?_
      show Steps p.tables e below (T130.setTop (mkF m 462 #[.val (.int p0), .val (.int p1), .val (.int p2), .val (.int p3), .val (.int p4), .val (.int p5), .val (.int v73), .val (.int v75), .val (.int v77), .val (.int v79), .val (.int v81), .val (.int v83), .val (.int v85), .val (.ref b86), .unset] [(.int v85)])) _
      refine XS.bipush X130.here hx rfl (hb hby at_462) ?_
      show Steps p.tables e below (T130.setTop (mkF m 464 #[.val (.int p0), .val (.int p1), .val (.int p2), .val (.int p3), .val (.int p4), .val (.int p5), .val (.int v73), .val (.int v75), .val (.int v77), .val (.int v79), .val (.int v81), .val (.int v83), .val (.int v85), .val (.ref b86), .unset] [(.int (16 : Int32)), (.int v85)])) _
      exact kt
    by_cases hc464_163 : (16 : Int32) < v85
    · obtain ⟨_, _, ⟨T164, L164, kc164, nc164⟩, -, X164, ⟨Lc164, hQ164, l164, y164, z164⟩, st164⟩ := Jvm.LawKit.callS X130 hx (y := (⟨"com/example/abak/abak/format/Aes256", "padding", "([BI)I"⟩ : MethodName)) hown (mvT hZ (hw _ (List.mem_of_getElem? (i := 6) rfl))) (mvT hZ (hw _ (List.mem_of_getElem? (i := 7) rfl))) (mvT hZ (hw _ (List.mem_of_getElem? (i := 8) rfl))) (mvT hZ (hw _ (List.mem_of_getElem? (i := 9) rfl))) (by decide) (backOf (W := 0) (rm2 l Z a0 hw [] b86 v73 e1 (own_g v73 v85 v77 v75 v79 v81 v83) bt h130 n0 V132 hen h15 h17 hbt) hZ (hw _ (List.mem_of_getElem? (i := 9) rfl)) (hw _ (List.mem_of_getElem? (i := 8) rfl)) (by decide) (by decide)) (g := (mkF m 513 #[.val (.int p0), .val (.int p1), .val (.int p2), .val (.int p3), .val (.int p4), .val (.int p5), .val (.int v73), .val (.int v75), .val (.int v77), .val (.int v79), .val (.int v81), .val (.int v83), .val (.int v85), .val (.ref b86), .val (.int (-1 : Int32))] [(.int v73), (.ref b86)])) rfl (by rw [hml]; rfl) (argsL := [(.ref b86), (.int v73)]) (rest := []) (lenOf pd_1 rfl) rfl (by show 2 * 0 + _ ≤ _; exact Nat.le_of_eq rfl) (hb hby at_513) (fun _ _ => ⟨rfl, e130, (by decide : 1 + 0 ≤ _), (by decide : 18 + 0 ≤ _)⟩)
      dsimp only [Pt.U, Pt.locs, Pt.cells, Pt.slots] at X164 l164 y164 z164 st164 hQ164
      rw [l164, y164, z164] at X164
      replace X164 : Stand p l e room_1 s m #[(.int p0), (.int p1), (.int p2), (.int p3), (.int p4), (.int p5)] below meth c T164 _ 1 18 := X164
      obtain ⟨rfl, Nq164, eq164⟩ := hQ164
      have N164 := Fr.app N130 Nq164
      have k165 : ∀ tg_, Steps p.tables e below (T164.setTop (mkF m 516 #[.val (.int p0), .val (.int p1), .val (.int p2), .val (.int p3), .val (.int p4), .val (.int p5), .val (.int v73), .val (.int v75), .val (.int v77), .val (.int v79), .val (.int v81), .val (.int v83), .val (.int v85), .val (.ref b86), .val (.int (-1 : Int32))] [(.int (own_pad (own_g v73 v85 v77 v75 v79 v81 v83) e1 bt))])) tg_ → Steps p.tables e below (s₁.setTop (entryFrame m #[(.int p0), (.int p1), (.int p2), (.int p3), (.int p4), (.int p5)] maxLocals)) tg_ := by
        intro tg_ kt
        refine k162 tg_ ?_
        refine XS.icmpNo X130.here hx rfl (hb hby at_464) rfl (tlt hc464_163).2.2.2 ?_
        show Steps p.tables e below (T130.setTop (mkF m 467 #[.val (.int p0), .val (.int p1), .val (.int p2), .val (.int p3), .val (.int p4), .val (.int p5), .val (.int v73), .val (.int v75), .val (.int v77), .val (.int v79), .val (.int v81), .val (.int v83), .val (.int v85), .val (.ref b86), .unset] [])) _
        refine XS.iconst X130.here hx rfl (hb hby at_467) ?_
        show Steps p.tables e below (T130.setTop (mkF m 468 #[.val (.int p0), .val (.int p1), .val (.int p2), .val (.int p3), .val (.int p4), .val (.int p5), .val (.int v73), .val (.int v75), .val (.int v77), .val (.int v79), .val (.int v81), .val (.int v83), .val (.int v85), .val (.ref b86), .unset] [(.int (-1 : Int32))])) _
        refine XS.istore X130.here hx rfl (hb hby at_468) rfl (l' := #[.val (.int p0), .val (.int p1), .val (.int p2), .val (.int p3), .val (.int p4), .val (.int p5), .val (.int v73), .val (.int v75), .val (.int v77), .val (.int v79), .val (.int v81), .val (.int v83), .val (.int v85), .val (.ref b86), .val (.int (-1 : Int32))]) rfl ?_
        show Steps p.tables e below (T130.setTop (mkF m 470 #[.val (.int p0), .val (.int p1), .val (.int p2), .val (.int p3), .val (.int p4), .val (.int p5), .val (.int v73), .val (.int v75), .val (.int v77), .val (.int v79), .val (.int v81), .val (.int v83), .val (.int v85), .val (.ref b86), .val (.int (-1 : Int32))] [])) _
        refine XS.goto X130.here hx rfl (pc0 := 470) (pc' := 509) rfl (hb hby at_470) (by decide) (by decide) ?_
        show Steps p.tables e below (T130.setTop (mkF m 509 #[.val (.int p0), .val (.int p1), .val (.int p2), .val (.int p3), .val (.int p4), .val (.int p5), .val (.int v73), .val (.int v75), .val (.int v77), .val (.int v79), .val (.int v81), .val (.int v83), .val (.int v85), .val (.ref b86), .val (.int (-1 : Int32))] [])) _
        refine XS.aload X130.here hx rfl (hb hby at_509) rfl rfl ?_
        show Steps p.tables e below (T130.setTop (mkF m 511 #[.val (.int p0), .val (.int p1), .val (.int p2), .val (.int p3), .val (.int p4), .val (.int p5), .val (.int v73), .val (.int v75), .val (.int v77), .val (.int v79), .val (.int v81), .val (.int v83), .val (.int v85), .val (.ref b86), .val (.int (-1 : Int32))] [(.ref b86)])) _
        refine XS.iload X130.here hx rfl (hb hby at_511) rfl ?_
        show Steps p.tables e below (T130.setTop (mkF m 513 #[.val (.int p0), .val (.int p1), .val (.int p2), .val (.int p3), .val (.int p4), .val (.int p5), .val (.int v73), .val (.int v75), .val (.int v77), .val (.int v79), .val (.int v81), .val (.int v83), .val (.int v85), .val (.ref b86), .val (.int (-1 : Int32))] [(.int v73), (.ref b86)])) _
        refine st164 _ ?_
        show Steps p.tables e below (T164.setTop (mkF m 516 #[.val (.int p0), .val (.int p1), .val (.int p2), .val (.int p3), .val (.int p4), .val (.int p5), .val (.int v73), .val (.int v75), .val (.int v77), .val (.int v79), .val (.int v81), .val (.int v83), .val (.int v85), .val (.ref b86), .val (.int (-1 : Int32))] [(.int (own_pad (own_g v73 v85 v77 v75 v79 v81 v83) e1 bt))])) _
        exact kt
      obtain ⟨r166, hr166⟩ : ∃ z : Int32, z = (own_pad (own_g v73 v85 v77 v75 v79 v81 v83) e1 bt) := ⟨_, rfl⟩
      rw [← hr166] at k165
      have hres167 : r166 = (-1 : Int32) := by
        rw [hr166, own_pad, hwE]
        rw [if_neg hc457_155, if_pos hc464_163]
      have hc518_168 : r166 = (-1 : Int32) := hres167
      have k169 : ∀ tg_, Steps p.tables e below (T164.setTop (mkF m 526 #[.val (.int p0), .val (.int p1), .val (.int p2), .val (.int p3), .val (.int p4), .val (.int p5), .val (.int v73), .val (.int v75), .val (.int v77), .val (.int v79), .val (.int v81), .val (.int v83), .val (.int v85), .val (.ref b86), .val (.int (-1 : Int32))] [(.int (1 : Int32))])) tg_ → Steps p.tables e below (s₁.setTop (entryFrame m #[(.int p0), (.int p1), (.int p2), (.int p3), (.int p4), (.int p5)] maxLocals)) tg_ := by
        intro tg_ kt
        refine k165 tg_ ?_
        show Steps p.tables e below (T164.setTop (mkF m 516 #[.val (.int p0), .val (.int p1), .val (.int p2), .val (.int p3), .val (.int p4), .val (.int p5), .val (.int v73), .val (.int v75), .val (.int v77), .val (.int v79), .val (.int v81), .val (.int v83), .val (.int v85), .val (.ref b86), .val (.int (-1 : Int32))] [(.int r166)])) _
        refine XS.iload X164.here hx rfl (hb hby at_516) rfl ?_
        show Steps p.tables e below (T164.setTop (mkF m 518 #[.val (.int p0), .val (.int p1), .val (.int p2), .val (.int p3), .val (.int p4), .val (.int p5), .val (.int v73), .val (.int v75), .val (.int v77), .val (.int v79), .val (.int v81), .val (.int v83), .val (.int v85), .val (.ref b86), .val (.int (-1 : Int32))] [(.int (-1 : Int32)), (.int r166)])) _
        refine XS.icmpNo X164.here hx rfl (hb hby at_518) rfl (teq hc518_168).2 ?_
        show Steps p.tables e below (T164.setTop (mkF m 521 #[.val (.int p0), .val (.int p1), .val (.int p2), .val (.int p3), .val (.int p4), .val (.int p5), .val (.int v73), .val (.int v75), .val (.int v77), .val (.int v79), .val (.int v81), .val (.int v83), .val (.int v85), .val (.ref b86), .val (.int (-1 : Int32))] [])) _
        refine XS.iconst X164.here hx rfl (hb hby at_521) ?_
        show Steps p.tables e below (T164.setTop (mkF m 522 #[.val (.int p0), .val (.int p1), .val (.int p2), .val (.int p3), .val (.int p4), .val (.int p5), .val (.int v73), .val (.int v75), .val (.int v77), .val (.int v79), .val (.int v81), .val (.int v83), .val (.int v85), .val (.ref b86), .val (.int (-1 : Int32))] [(.int (1 : Int32))])) _
        refine XS.goto X164.here hx rfl (pc0 := 522) (pc' := 526) rfl (hb hby at_522) (by decide) (by decide) ?_
        show Steps p.tables e below (T164.setTop (mkF m 526 #[.val (.int p0), .val (.int p1), .val (.int p2), .val (.int p3), .val (.int p4), .val (.int p5), .val (.int v73), .val (.int v75), .val (.int v77), .val (.int v79), .val (.int v81), .val (.int v83), .val (.int v85), .val (.ref b86), .val (.int (-1 : Int32))] [(.int (1 : Int32))])) _
        exact kt
      obtain ⟨fs, hr, hrun, hended, hW, hsame⟩ := X164.leave (v := some (.int (1 : Int32))) (fun h => by rw [Bd.returns] at h; cases h)
      refine ⟨_, _, k169 _ (retN X164 hx (t := .boolean) Bd.returns (by simp) (hb hby at_526) hr), hrun, hended, _, _, rfl, ?_, ⟨_, rfl⟩, hW, hsame.mono (by decide) (by decide)⟩
      show Q0 Z p0 p1 p2 p3 p4 p5 h0 n0 _ T164.heap _
      rw [eq164]
      exact ⟨rfl, N164⟩
    · have k170 : ∀ tg_, Steps p.tables e below (T130.setTop (mkF m 480 #[.val (.int p0), .val (.int p1), .val (.int p2), .val (.int p3), .val (.int p4), .val (.int p5), .val (.int v73), .val (.int v75), .val (.int v77), .val (.int v79), .val (.int v81), .val (.int v83), .val (.int v85), .val (.ref b86), .unset] [(.int (v73 - v85)), (.int v75)])) tg_ → Steps p.tables e below (s₁.setTop (entryFrame m #[(.int p0), (.int p1), (.int p2), (.int p3), (.int p4), (.int p5)] maxLocals)) tg_ := by
        intro tg_ kt
        refine k162 tg_ ?_
        refine XS.icmpYes X130.here hx rfl (pc0 := 464) (pc' := 473) rfl (hb hby at_464) rfl (flt hc464_163).2.2.2 (by decide) (by decide) ?_
        show Steps p.tables e below (T130.setTop (mkF m 473 #[.val (.int p0), .val (.int p1), .val (.int p2), .val (.int p3), .val (.int p4), .val (.int p5), .val (.int v73), .val (.int v75), .val (.int v77), .val (.int v79), .val (.int v81), .val (.int v83), .val (.int v85), .val (.ref b86), .unset] [])) _
        refine XS.iload X130.here hx rfl (hb hby at_473) rfl ?_
        show Steps p.tables e below (T130.setTop (mkF m 475 #[.val (.int p0), .val (.int p1), .val (.int p2), .val (.int p3), .val (.int p4), .val (.int p5), .val (.int v73), .val (.int v75), .val (.int v77), .val (.int v79), .val (.int v81), .val (.int v83), .val (.int v85), .val (.ref b86), .unset] [(.int v75)])) _
        refine XS.iload X130.here hx rfl (hb hby at_475) rfl ?_
        show Steps p.tables e below (T130.setTop (mkF m 477 #[.val (.int p0), .val (.int p1), .val (.int p2), .val (.int p3), .val (.int p4), .val (.int p5), .val (.int v73), .val (.int v75), .val (.int v77), .val (.int v79), .val (.int v81), .val (.int v83), .val (.int v85), .val (.ref b86), .unset] [(.int v73), (.int v75)])) _
        refine XS.iload X130.here hx rfl (hb hby at_477) rfl ?_
        show Steps p.tables e below (T130.setTop (mkF m 479 #[.val (.int p0), .val (.int p1), .val (.int p2), .val (.int p3), .val (.int p4), .val (.int p5), .val (.int v73), .val (.int v75), .val (.int v77), .val (.int v79), .val (.int v81), .val (.int v83), .val (.int v85), .val (.ref b86), .unset] [(.int v85), (.int v73), (.int v75)])) _
        refine XS.isub X130.here hx rfl (hb hby at_479) rfl ?_
        show Steps p.tables e below (T130.setTop (mkF m 480 #[.val (.int p0), .val (.int p1), .val (.int p2), .val (.int p3), .val (.int p4), .val (.int p5), .val (.int v73), .val (.int v75), .val (.int v77), .val (.int v79), .val (.int v81), .val (.int v83), .val (.int v85), .val (.ref b86), .unset] [(.int (v73 - v85)), (.int v75)])) _
        exact kt
      by_cases hc480_171 : v75 < (v73 - v85)
      · obtain ⟨_, _, ⟨T172, L172, kc172, nc172⟩, -, X172, ⟨Lc172, hQ172, l172, y172, z172⟩, st172⟩ := Jvm.LawKit.callS X130 hx (y := (⟨"com/example/abak/abak/format/Aes256", "padding", "([BI)I"⟩ : MethodName)) hown (mvT hZ (hw _ (List.mem_of_getElem? (i := 6) rfl))) (mvT hZ (hw _ (List.mem_of_getElem? (i := 7) rfl))) (mvT hZ (hw _ (List.mem_of_getElem? (i := 8) rfl))) (mvT hZ (hw _ (List.mem_of_getElem? (i := 9) rfl))) (by decide) (backOf (W := 0) (rm2 l Z a0 hw [] b86 v73 e1 (own_g v73 v85 v77 v75 v79 v81 v83) bt h130 n0 V132 hen h15 h17 hbt) hZ (hw _ (List.mem_of_getElem? (i := 9) rfl)) (hw _ (List.mem_of_getElem? (i := 8) rfl)) (by decide) (by decide)) (g := (mkF m 513 #[.val (.int p0), .val (.int p1), .val (.int p2), .val (.int p3), .val (.int p4), .val (.int p5), .val (.int v73), .val (.int v75), .val (.int v77), .val (.int v79), .val (.int v81), .val (.int v83), .val (.int v85), .val (.ref b86), .val (.int v85)] [(.int v73), (.ref b86)])) rfl (by rw [hml]; rfl) (argsL := [(.ref b86), (.int v73)]) (rest := []) (lenOf pd_1 rfl) rfl (by show 2 * 0 + _ ≤ _; exact Nat.le_of_eq rfl) (hb hby at_513) (fun _ _ => ⟨rfl, e130, (by decide : 1 + 0 ≤ _), (by decide : 18 + 0 ≤ _)⟩)
        dsimp only [Pt.U, Pt.locs, Pt.cells, Pt.slots] at X172 l172 y172 z172 st172 hQ172
        rw [l172, y172, z172] at X172
        replace X172 : Stand p l e room_1 s m #[(.int p0), (.int p1), (.int p2), (.int p3), (.int p4), (.int p5)] below meth c T172 _ 1 18 := X172
        obtain ⟨rfl, Nq172, eq172⟩ := hQ172
        have N172 := Fr.app N130 Nq172
        have k173 : ∀ tg_, Steps p.tables e below (T172.setTop (mkF m 516 #[.val (.int p0), .val (.int p1), .val (.int p2), .val (.int p3), .val (.int p4), .val (.int p5), .val (.int v73), .val (.int v75), .val (.int v77), .val (.int v79), .val (.int v81), .val (.int v83), .val (.int v85), .val (.ref b86), .val (.int v85)] [(.int (own_pad (own_g v73 v85 v77 v75 v79 v81 v83) e1 bt))])) tg_ → Steps p.tables e below (s₁.setTop (entryFrame m #[(.int p0), (.int p1), (.int p2), (.int p3), (.int p4), (.int p5)] maxLocals)) tg_ := by
          intro tg_ kt
          refine k170 tg_ ?_
          refine XS.icmpYes X130.here hx rfl (pc0 := 480) (pc' := 505) rfl (hb hby at_480) rfl (tlt hc480_171).1 (by decide) (by decide) ?_
          show Steps p.tables e below (T130.setTop (mkF m 505 #[.val (.int p0), .val (.int p1), .val (.int p2), .val (.int p3), .val (.int p4), .val (.int p5), .val (.int v73), .val (.int v75), .val (.int v77), .val (.int v79), .val (.int v81), .val (.int v83), .val (.int v85), .val (.ref b86), .unset] [])) _
          refine XS.iload X130.here hx rfl (hb hby at_505) rfl ?_
          show Steps p.tables e below (T130.setTop (mkF m 507 #[.val (.int p0), .val (.int p1), .val (.int p2), .val (.int p3), .val (.int p4), .val (.int p5), .val (.int v73), .val (.int v75), .val (.int v77), .val (.int v79), .val (.int v81), .val (.int v83), .val (.int v85), .val (.ref b86), .unset] [(.int v85)])) _
          refine XS.istore X130.here hx rfl (hb hby at_507) rfl (l' := #[.val (.int p0), .val (.int p1), .val (.int p2), .val (.int p3), .val (.int p4), .val (.int p5), .val (.int v73), .val (.int v75), .val (.int v77), .val (.int v79), .val (.int v81), .val (.int v83), .val (.int v85), .val (.ref b86), .val (.int v85)]) rfl ?_
          show Steps p.tables e below (T130.setTop (mkF m 509 #[.val (.int p0), .val (.int p1), .val (.int p2), .val (.int p3), .val (.int p4), .val (.int p5), .val (.int v73), .val (.int v75), .val (.int v77), .val (.int v79), .val (.int v81), .val (.int v83), .val (.int v85), .val (.ref b86), .val (.int v85)] [])) _
          refine XS.aload X130.here hx rfl (hb hby at_509) rfl rfl ?_
          show Steps p.tables e below (T130.setTop (mkF m 511 #[.val (.int p0), .val (.int p1), .val (.int p2), .val (.int p3), .val (.int p4), .val (.int p5), .val (.int v73), .val (.int v75), .val (.int v77), .val (.int v79), .val (.int v81), .val (.int v83), .val (.int v85), .val (.ref b86), .val (.int v85)] [(.ref b86)])) _
          refine XS.iload X130.here hx rfl (hb hby at_511) rfl ?_
          show Steps p.tables e below (T130.setTop (mkF m 513 #[.val (.int p0), .val (.int p1), .val (.int p2), .val (.int p3), .val (.int p4), .val (.int p5), .val (.int v73), .val (.int v75), .val (.int v77), .val (.int v79), .val (.int v81), .val (.int v83), .val (.int v85), .val (.ref b86), .val (.int v85)] [(.int v73), (.ref b86)])) _
          refine st172 _ ?_
          show Steps p.tables e below (T172.setTop (mkF m 516 #[.val (.int p0), .val (.int p1), .val (.int p2), .val (.int p3), .val (.int p4), .val (.int p5), .val (.int v73), .val (.int v75), .val (.int v77), .val (.int v79), .val (.int v81), .val (.int v83), .val (.int v85), .val (.ref b86), .val (.int v85)] [(.int (own_pad (own_g v73 v85 v77 v75 v79 v81 v83) e1 bt))])) _
          exact kt
        obtain ⟨r174, hr174⟩ : ∃ z : Int32, z = (own_pad (own_g v73 v85 v77 v75 v79 v81 v83) e1 bt) := ⟨_, rfl⟩
        rw [← hr174] at k173
        have hres175 : r174 = v85 := by
          rw [hr174, own_pad, hwE]
          rw [if_neg hc457_155, if_neg hc464_163]
          have gv := fun (j : Nat) (hj : j ≤ e1) (hlo : j = e1 ∨ ¬ (j : Int) < (e1 : Int) + 1 - v85.toInt) => own_gv (en := v73) (w := v85) (fb := v81) (gb := v83) hp hv hen h17 hj hc457_155 hc464_163 hlo hk0
          rw [hwE] at hbt
          rw [if_pos (hbt.mpr fun i h1 h2 => ?_)]
          have ar176 := rng32 v85
          have ar177 : (1 : Int32).toInt = 1 := by decide
          have ar178 : ¬ (v85.toInt < (1 : Int32).toInt) := fun qq_ => hc457_155 (Int32.lt_iff_toInt_lt.mpr qq_)
          have ar179 : (16 : Int32).toInt = 16 := by decide
          have ar180 : ¬ ((16 : Int32).toInt < v85.toInt) := fun qq_ => hc464_163 (Int32.lt_iff_toInt_lt.mpr qq_)
          have ar181 := rng32 v75
          have ar182 := rng32 v73
          have ar183 := rng32 (v73 - v85)
          first | have ar184 : (v73 - v85).toInt = v73.toInt - v85.toInt := (by have qw := c_isub v73 v85; omega) | (have ar184 := c_isub v73 v85; skip)
          have ar185 : v75.toInt < (v73 - v85).toInt := Int32.lt_iff_toInt_lt.mp hc480_171
          rw [gv i (by omega) (Or.inr h2), gv e1 (Nat.le_refl _) (Or.inl rfl), if_pos rfl, if_neg (by omega)]
          rw [if_neg (by omega)]
        have hc518_186 : r174 = v85 := hres175
        have k187 : ∀ tg_, Steps p.tables e below (T172.setTop (mkF m 526 #[.val (.int p0), .val (.int p1), .val (.int p2), .val (.int p3), .val (.int p4), .val (.int p5), .val (.int v73), .val (.int v75), .val (.int v77), .val (.int v79), .val (.int v81), .val (.int v83), .val (.int v85), .val (.ref b86), .val (.int v85)] [(.int (1 : Int32))])) tg_ → Steps p.tables e below (s₁.setTop (entryFrame m #[(.int p0), (.int p1), (.int p2), (.int p3), (.int p4), (.int p5)] maxLocals)) tg_ := by
          intro tg_ kt
          refine k173 tg_ ?_
          show Steps p.tables e below (T172.setTop (mkF m 516 #[.val (.int p0), .val (.int p1), .val (.int p2), .val (.int p3), .val (.int p4), .val (.int p5), .val (.int v73), .val (.int v75), .val (.int v77), .val (.int v79), .val (.int v81), .val (.int v83), .val (.int v85), .val (.ref b86), .val (.int v85)] [(.int r174)])) _
          refine XS.iload X172.here hx rfl (hb hby at_516) rfl ?_
          show Steps p.tables e below (T172.setTop (mkF m 518 #[.val (.int p0), .val (.int p1), .val (.int p2), .val (.int p3), .val (.int p4), .val (.int p5), .val (.int v73), .val (.int v75), .val (.int v77), .val (.int v79), .val (.int v81), .val (.int v83), .val (.int v85), .val (.ref b86), .val (.int v85)] [(.int v85), (.int r174)])) _
          refine XS.icmpNo X172.here hx rfl (hb hby at_518) rfl (teq hc518_186).2 ?_
          show Steps p.tables e below (T172.setTop (mkF m 521 #[.val (.int p0), .val (.int p1), .val (.int p2), .val (.int p3), .val (.int p4), .val (.int p5), .val (.int v73), .val (.int v75), .val (.int v77), .val (.int v79), .val (.int v81), .val (.int v83), .val (.int v85), .val (.ref b86), .val (.int v85)] [])) _
          refine XS.iconst X172.here hx rfl (hb hby at_521) ?_
          show Steps p.tables e below (T172.setTop (mkF m 522 #[.val (.int p0), .val (.int p1), .val (.int p2), .val (.int p3), .val (.int p4), .val (.int p5), .val (.int v73), .val (.int v75), .val (.int v77), .val (.int v79), .val (.int v81), .val (.int v83), .val (.int v85), .val (.ref b86), .val (.int v85)] [(.int (1 : Int32))])) _
          refine XS.goto X172.here hx rfl (pc0 := 522) (pc' := 526) rfl (hb hby at_522) (by decide) (by decide) ?_
          show Steps p.tables e below (T172.setTop (mkF m 526 #[.val (.int p0), .val (.int p1), .val (.int p2), .val (.int p3), .val (.int p4), .val (.int p5), .val (.int v73), .val (.int v75), .val (.int v77), .val (.int v79), .val (.int v81), .val (.int v83), .val (.int v85), .val (.ref b86), .val (.int v85)] [(.int (1 : Int32))])) _
          exact kt
        obtain ⟨fs, hr, hrun, hended, hW, hsame⟩ := X172.leave (v := some (.int (1 : Int32))) (fun h => by rw [Bd.returns] at h; cases h)
        refine ⟨_, _, k187 _ (retN X172 hx (t := .boolean) Bd.returns (by simp) (hb hby at_526) hr), hrun, hended, _, _, rfl, ?_, ⟨_, rfl⟩, hW, hsame.mono (by decide) (by decide)⟩
        show Q0 Z p0 p1 p2 p3 p4 p5 h0 n0 _ T172.heap _
        rw [eq172]
        exact ⟨rfl, N172⟩
      · have k188 : ∀ tg_, Steps p.tables e below (T130.setTop (mkF m 489 #[.val (.int p0), .val (.int p1), .val (.int p2), .val (.int p3), .val (.int p4), .val (.int p5), .val (.int v73), .val (.int v75), .val (.int v77), .val (.int v79), .val (.int v81), .val (.int v83), .val (.int v85), .val (.ref b86), .unset] [(.int (v73 - (2 : Int32))), (.int v75)])) tg_ → Steps p.tables e below (s₁.setTop (entryFrame m #[(.int p0), (.int p1), (.int p2), (.int p3), (.int p4), (.int p5)] maxLocals)) tg_ := by
          intro tg_ kt
          refine k170 tg_ ?_
          refine XS.icmpNo X130.here hx rfl (hb hby at_480) rfl (flt hc480_171).1 ?_
          show Steps p.tables e below (T130.setTop (mkF m 483 #[.val (.int p0), .val (.int p1), .val (.int p2), .val (.int p3), .val (.int p4), .val (.int p5), .val (.int v73), .val (.int v75), .val (.int v77), .val (.int v79), .val (.int v81), .val (.int v83), .val (.int v85), .val (.ref b86), .unset] [])) _
          refine XS.iload X130.here hx rfl (hb hby at_483) rfl ?_
          show Steps p.tables e below (T130.setTop (mkF m 485 #[.val (.int p0), .val (.int p1), .val (.int p2), .val (.int p3), .val (.int p4), .val (.int p5), .val (.int v73), .val (.int v75), .val (.int v77), .val (.int v79), .val (.int v81), .val (.int v83), .val (.int v85), .val (.ref b86), .unset] [(.int v75)])) _
          refine XS.iload X130.here hx rfl (hb hby at_485) rfl ?_
          show Steps p.tables e below (T130.setTop (mkF m 487 #[.val (.int p0), .val (.int p1), .val (.int p2), .val (.int p3), .val (.int p4), .val (.int p5), .val (.int v73), .val (.int v75), .val (.int v77), .val (.int v79), .val (.int v81), .val (.int v83), .val (.int v85), .val (.ref b86), .unset] [(.int v73), (.int v75)])) _
          refine XS.iconst X130.here hx rfl (hb hby at_487) ?_
          show Steps p.tables e below (T130.setTop (mkF m 488 #[.val (.int p0), .val (.int p1), .val (.int p2), .val (.int p3), .val (.int p4), .val (.int p5), .val (.int v73), .val (.int v75), .val (.int v77), .val (.int v79), .val (.int v81), .val (.int v83), .val (.int v85), .val (.ref b86), .unset] [(.int (2 : Int32)), (.int v73), (.int v75)])) _
          refine XS.isub X130.here hx rfl (hb hby at_488) rfl ?_
          show Steps p.tables e below (T130.setTop (mkF m 489 #[.val (.int p0), .val (.int p1), .val (.int p2), .val (.int p3), .val (.int p4), .val (.int p5), .val (.int v73), .val (.int v75), .val (.int v77), .val (.int v79), .val (.int v81), .val (.int v83), .val (.int v85), .val (.ref b86), .unset] [(.int (v73 - (2 : Int32))), (.int v75)])) _
          exact kt
        by_cases hc489_189 : (v73 - (2 : Int32)) < v75
        · obtain ⟨_, _, ⟨T190, L190, kc190, nc190⟩, -, X190, ⟨Lc190, hQ190, l190, y190, z190⟩, st190⟩ := Jvm.LawKit.callS X130 hx (y := (⟨"com/example/abak/abak/format/Aes256", "padding", "([BI)I"⟩ : MethodName)) hown (mvT hZ (hw _ (List.mem_of_getElem? (i := 6) rfl))) (mvT hZ (hw _ (List.mem_of_getElem? (i := 7) rfl))) (mvT hZ (hw _ (List.mem_of_getElem? (i := 8) rfl))) (mvT hZ (hw _ (List.mem_of_getElem? (i := 9) rfl))) (by decide) (backOf (W := 0) (rm2 l Z a0 hw [] b86 v73 e1 (own_g v73 v85 v77 v75 v79 v81 v83) bt h130 n0 V132 hen h15 h17 hbt) hZ (hw _ (List.mem_of_getElem? (i := 9) rfl)) (hw _ (List.mem_of_getElem? (i := 8) rfl)) (by decide) (by decide)) (g := (mkF m 513 #[.val (.int p0), .val (.int p1), .val (.int p2), .val (.int p3), .val (.int p4), .val (.int p5), .val (.int v73), .val (.int v75), .val (.int v77), .val (.int v79), .val (.int v81), .val (.int v83), .val (.int v85), .val (.ref b86), .val (.int v85)] [(.int v73), (.ref b86)])) rfl (by rw [hml]; rfl) (argsL := [(.ref b86), (.int v73)]) (rest := []) (lenOf pd_1 rfl) rfl (by show 2 * 0 + _ ≤ _; exact Nat.le_of_eq rfl) (hb hby at_513) (fun _ _ => ⟨rfl, e130, (by decide : 1 + 0 ≤ _), (by decide : 18 + 0 ≤ _)⟩)
          dsimp only [Pt.U, Pt.locs, Pt.cells, Pt.slots] at X190 l190 y190 z190 st190 hQ190
          rw [l190, y190, z190] at X190
          replace X190 : Stand p l e room_1 s m #[(.int p0), (.int p1), (.int p2), (.int p3), (.int p4), (.int p5)] below meth c T190 _ 1 18 := X190
          obtain ⟨rfl, Nq190, eq190⟩ := hQ190
          have N190 := Fr.app N130 Nq190
          have k191 : ∀ tg_, Steps p.tables e below (T190.setTop (mkF m 516 #[.val (.int p0), .val (.int p1), .val (.int p2), .val (.int p3), .val (.int p4), .val (.int p5), .val (.int v73), .val (.int v75), .val (.int v77), .val (.int v79), .val (.int v81), .val (.int v83), .val (.int v85), .val (.ref b86), .val (.int v85)] [(.int (own_pad (own_g v73 v85 v77 v75 v79 v81 v83) e1 bt))])) tg_ → Steps p.tables e below (s₁.setTop (entryFrame m #[(.int p0), (.int p1), (.int p2), (.int p3), (.int p4), (.int p5)] maxLocals)) tg_ := by
            intro tg_ kt
            refine k188 tg_ ?_
            refine XS.icmpYes X130.here hx rfl (pc0 := 489) (pc' := 505) rfl (hb hby at_489) rfl (tlt hc489_189).2.2.1 (by decide) (by decide) ?_
            show Steps p.tables e below (T130.setTop (mkF m 505 #[.val (.int p0), .val (.int p1), .val (.int p2), .val (.int p3), .val (.int p4), .val (.int p5), .val (.int v73), .val (.int v75), .val (.int v77), .val (.int v79), .val (.int v81), .val (.int v83), .val (.int v85), .val (.ref b86), .unset] [])) _
            refine XS.iload X130.here hx rfl (hb hby at_505) rfl ?_
            show Steps p.tables e below (T130.setTop (mkF m 507 #[.val (.int p0), .val (.int p1), .val (.int p2), .val (.int p3), .val (.int p4), .val (.int p5), .val (.int v73), .val (.int v75), .val (.int v77), .val (.int v79), .val (.int v81), .val (.int v83), .val (.int v85), .val (.ref b86), .unset] [(.int v85)])) _
            refine XS.istore X130.here hx rfl (hb hby at_507) rfl (l' := #[.val (.int p0), .val (.int p1), .val (.int p2), .val (.int p3), .val (.int p4), .val (.int p5), .val (.int v73), .val (.int v75), .val (.int v77), .val (.int v79), .val (.int v81), .val (.int v83), .val (.int v85), .val (.ref b86), .val (.int v85)]) rfl ?_
            show Steps p.tables e below (T130.setTop (mkF m 509 #[.val (.int p0), .val (.int p1), .val (.int p2), .val (.int p3), .val (.int p4), .val (.int p5), .val (.int v73), .val (.int v75), .val (.int v77), .val (.int v79), .val (.int v81), .val (.int v83), .val (.int v85), .val (.ref b86), .val (.int v85)] [])) _
            refine XS.aload X130.here hx rfl (hb hby at_509) rfl rfl ?_
            show Steps p.tables e below (T130.setTop (mkF m 511 #[.val (.int p0), .val (.int p1), .val (.int p2), .val (.int p3), .val (.int p4), .val (.int p5), .val (.int v73), .val (.int v75), .val (.int v77), .val (.int v79), .val (.int v81), .val (.int v83), .val (.int v85), .val (.ref b86), .val (.int v85)] [(.ref b86)])) _
            refine XS.iload X130.here hx rfl (hb hby at_511) rfl ?_
            show Steps p.tables e below (T130.setTop (mkF m 513 #[.val (.int p0), .val (.int p1), .val (.int p2), .val (.int p3), .val (.int p4), .val (.int p5), .val (.int v73), .val (.int v75), .val (.int v77), .val (.int v79), .val (.int v81), .val (.int v83), .val (.int v85), .val (.ref b86), .val (.int v85)] [(.int v73), (.ref b86)])) _
            refine st190 _ ?_
            show Steps p.tables e below (T190.setTop (mkF m 516 #[.val (.int p0), .val (.int p1), .val (.int p2), .val (.int p3), .val (.int p4), .val (.int p5), .val (.int v73), .val (.int v75), .val (.int v77), .val (.int v79), .val (.int v81), .val (.int v83), .val (.int v85), .val (.ref b86), .val (.int v85)] [(.int (own_pad (own_g v73 v85 v77 v75 v79 v81 v83) e1 bt))])) _
            exact kt
          obtain ⟨r192, hr192⟩ : ∃ z : Int32, z = (own_pad (own_g v73 v85 v77 v75 v79 v81 v83) e1 bt) := ⟨_, rfl⟩
          rw [← hr192] at k191
          have hres193 : r192 = v85 := by
            rw [hr192, own_pad, hwE]
            rw [if_neg hc457_155, if_neg hc464_163]
            have gv := fun (j : Nat) (hj : j ≤ e1) (hlo : j = e1 ∨ ¬ (j : Int) < (e1 : Int) + 1 - v85.toInt) => own_gv (en := v73) (w := v85) (fb := v81) (gb := v83) hp hv hen h17 hj hc457_155 hc464_163 hlo hk0
            rw [hwE] at hbt
            rw [if_pos (hbt.mpr fun i h1 h2 => ?_)]
            have ar194 := rng32 v85
            have ar195 : (1 : Int32).toInt = 1 := by decide
            have ar196 : ¬ (v85.toInt < (1 : Int32).toInt) := fun qq_ => hc457_155 (Int32.lt_iff_toInt_lt.mpr qq_)
            have ar197 : (16 : Int32).toInt = 16 := by decide
            have ar198 : ¬ ((16 : Int32).toInt < v85.toInt) := fun qq_ => hc464_163 (Int32.lt_iff_toInt_lt.mpr qq_)
            have ar199 := rng32 v75
            have ar200 := rng32 v73
            have ar201 := rng32 (v73 - v85)
            first | have ar202 : (v73 - v85).toInt = v73.toInt - v85.toInt := (by have qw := c_isub v73 v85; omega) | (have ar202 := c_isub v73 v85; skip)
            have ar203 : ¬ (v75.toInt < (v73 - v85).toInt) := fun qq_ => hc480_171 (Int32.lt_iff_toInt_lt.mpr qq_)
            have ar204 : (2 : Int32).toInt = 2 := by decide
            have ar205 := rng32 (v73 - (2 : Int32))
            first | have ar206 : (v73 - (2 : Int32)).toInt = v73.toInt - 2 := (by have qw := c_isub v73 (2 : Int32); omega) | (have ar206 := c_isub v73 (2 : Int32); skip)
            have ar207 : (v73 - (2 : Int32)).toInt < v75.toInt := Int32.lt_iff_toInt_lt.mp hc489_189
            rw [gv i (by omega) (Or.inr h2), gv e1 (Nat.le_refl _) (Or.inl rfl), if_pos rfl, if_neg (by omega)]
            rw [if_neg (by omega)]
          have hc518_208 : r192 = v85 := hres193
          have k209 : ∀ tg_, Steps p.tables e below (T190.setTop (mkF m 526 #[.val (.int p0), .val (.int p1), .val (.int p2), .val (.int p3), .val (.int p4), .val (.int p5), .val (.int v73), .val (.int v75), .val (.int v77), .val (.int v79), .val (.int v81), .val (.int v83), .val (.int v85), .val (.ref b86), .val (.int v85)] [(.int (1 : Int32))])) tg_ → Steps p.tables e below (s₁.setTop (entryFrame m #[(.int p0), (.int p1), (.int p2), (.int p3), (.int p4), (.int p5)] maxLocals)) tg_ := by
            intro tg_ kt
            refine k191 tg_ ?_
            show Steps p.tables e below (T190.setTop (mkF m 516 #[.val (.int p0), .val (.int p1), .val (.int p2), .val (.int p3), .val (.int p4), .val (.int p5), .val (.int v73), .val (.int v75), .val (.int v77), .val (.int v79), .val (.int v81), .val (.int v83), .val (.int v85), .val (.ref b86), .val (.int v85)] [(.int r192)])) _
            refine XS.iload X190.here hx rfl (hb hby at_516) rfl ?_
            show Steps p.tables e below (T190.setTop (mkF m 518 #[.val (.int p0), .val (.int p1), .val (.int p2), .val (.int p3), .val (.int p4), .val (.int p5), .val (.int v73), .val (.int v75), .val (.int v77), .val (.int v79), .val (.int v81), .val (.int v83), .val (.int v85), .val (.ref b86), .val (.int v85)] [(.int v85), (.int r192)])) _
            refine XS.icmpNo X190.here hx rfl (hb hby at_518) rfl (teq hc518_208).2 ?_
            show Steps p.tables e below (T190.setTop (mkF m 521 #[.val (.int p0), .val (.int p1), .val (.int p2), .val (.int p3), .val (.int p4), .val (.int p5), .val (.int v73), .val (.int v75), .val (.int v77), .val (.int v79), .val (.int v81), .val (.int v83), .val (.int v85), .val (.ref b86), .val (.int v85)] [])) _
            refine XS.iconst X190.here hx rfl (hb hby at_521) ?_
            show Steps p.tables e below (T190.setTop (mkF m 522 #[.val (.int p0), .val (.int p1), .val (.int p2), .val (.int p3), .val (.int p4), .val (.int p5), .val (.int v73), .val (.int v75), .val (.int v77), .val (.int v79), .val (.int v81), .val (.int v83), .val (.int v85), .val (.ref b86), .val (.int v85)] [(.int (1 : Int32))])) _
            refine XS.goto X190.here hx rfl (pc0 := 522) (pc' := 526) rfl (hb hby at_522) (by decide) (by decide) ?_
            show Steps p.tables e below (T190.setTop (mkF m 526 #[.val (.int p0), .val (.int p1), .val (.int p2), .val (.int p3), .val (.int p4), .val (.int p5), .val (.int v73), .val (.int v75), .val (.int v77), .val (.int v79), .val (.int v81), .val (.int v83), .val (.int v85), .val (.ref b86), .val (.int v85)] [(.int (1 : Int32))])) _
            exact kt
          obtain ⟨fs, hr, hrun, hended, hW, hsame⟩ := X190.leave (v := some (.int (1 : Int32))) (fun h => by rw [Bd.returns] at h; cases h)
          refine ⟨_, _, k209 _ (retN X190 hx (t := .boolean) Bd.returns (by simp) (hb hby at_526) hr), hrun, hended, _, _, rfl, ?_, ⟨_, rfl⟩, hW, hsame.mono (by decide) (by decide)⟩
          show Q0 Z p0 p1 p2 p3 p4 p5 h0 n0 _ T190.heap _
          rw [eq190]
          exact ⟨rfl, N190⟩
        · have k210 : ∀ tg_, Steps p.tables e below (T130.setTop (mkF m 496 #[.val (.int p0), .val (.int p1), .val (.int p2), .val (.int p3), .val (.int p4), .val (.int p5), .val (.int v73), .val (.int v75), .val (.int v77), .val (.int v79), .val (.int v81), .val (.int v83), .val (.int v85), .val (.ref b86), .unset] [(.int v77), (.int v79)])) tg_ → Steps p.tables e below (s₁.setTop (entryFrame m #[(.int p0), (.int p1), (.int p2), (.int p3), (.int p4), (.int p5)] maxLocals)) tg_ := by
            intro tg_ kt
            refine k188 tg_ ?_
            refine XS.icmpNo X130.here hx rfl (hb hby at_489) rfl (flt hc489_189).2.2.1 ?_
            show Steps p.tables e below (T130.setTop (mkF m 492 #[.val (.int p0), .val (.int p1), .val (.int p2), .val (.int p3), .val (.int p4), .val (.int p5), .val (.int v73), .val (.int v75), .val (.int v77), .val (.int v79), .val (.int v81), .val (.int v83), .val (.int v85), .val (.ref b86), .unset] [])) _
            refine XS.iload X130.here hx rfl (hb hby at_492) rfl ?_
            show Steps p.tables e below (T130.setTop (mkF m 494 #[.val (.int p0), .val (.int p1), .val (.int p2), .val (.int p3), .val (.int p4), .val (.int p5), .val (.int v73), .val (.int v75), .val (.int v77), .val (.int v79), .val (.int v81), .val (.int v83), .val (.int v85), .val (.ref b86), .unset] [(.int v79)])) _
            refine XS.iload X130.here hx rfl (hb hby at_494) rfl ?_
            show Steps p.tables e below (T130.setTop (mkF m 496 #[.val (.int p0), .val (.int p1), .val (.int p2), .val (.int p3), .val (.int p4), .val (.int p5), .val (.int v73), .val (.int v75), .val (.int v77), .val (.int v79), .val (.int v81), .val (.int v83), .val (.int v85), .val (.ref b86), .unset] [(.int v77), (.int v79)])) _
            exact kt
          by_cases hc496_211 : v79 = v77
          · obtain ⟨_, _, ⟨T212, L212, kc212, nc212⟩, -, X212, ⟨Lc212, hQ212, l212, y212, z212⟩, st212⟩ := Jvm.LawKit.callS X130 hx (y := (⟨"com/example/abak/abak/format/Aes256", "padding", "([BI)I"⟩ : MethodName)) hown (mvT hZ (hw _ (List.mem_of_getElem? (i := 6) rfl))) (mvT hZ (hw _ (List.mem_of_getElem? (i := 7) rfl))) (mvT hZ (hw _ (List.mem_of_getElem? (i := 8) rfl))) (mvT hZ (hw _ (List.mem_of_getElem? (i := 9) rfl))) (by decide) (backOf (W := 0) (rm2 l Z a0 hw [] b86 v73 e1 (own_g v73 v85 v77 v75 v79 v81 v83) bt h130 n0 V132 hen h15 h17 hbt) hZ (hw _ (List.mem_of_getElem? (i := 9) rfl)) (hw _ (List.mem_of_getElem? (i := 8) rfl)) (by decide) (by decide)) (g := (mkF m 513 #[.val (.int p0), .val (.int p1), .val (.int p2), .val (.int p3), .val (.int p4), .val (.int p5), .val (.int v73), .val (.int v75), .val (.int v77), .val (.int v79), .val (.int v81), .val (.int v83), .val (.int v85), .val (.ref b86), .val (.int v85)] [(.int v73), (.ref b86)])) rfl (by rw [hml]; rfl) (argsL := [(.ref b86), (.int v73)]) (rest := []) (lenOf pd_1 rfl) rfl (by show 2 * 0 + _ ≤ _; exact Nat.le_of_eq rfl) (hb hby at_513) (fun _ _ => ⟨rfl, e130, (by decide : 1 + 0 ≤ _), (by decide : 18 + 0 ≤ _)⟩)
            dsimp only [Pt.U, Pt.locs, Pt.cells, Pt.slots] at X212 l212 y212 z212 st212 hQ212
            rw [l212, y212, z212] at X212
            replace X212 : Stand p l e room_1 s m #[(.int p0), (.int p1), (.int p2), (.int p3), (.int p4), (.int p5)] below meth c T212 _ 1 18 := X212
            obtain ⟨rfl, Nq212, eq212⟩ := hQ212
            have N212 := Fr.app N130 Nq212
            have k213 : ∀ tg_, Steps p.tables e below (T212.setTop (mkF m 516 #[.val (.int p0), .val (.int p1), .val (.int p2), .val (.int p3), .val (.int p4), .val (.int p5), .val (.int v73), .val (.int v75), .val (.int v77), .val (.int v79), .val (.int v81), .val (.int v83), .val (.int v85), .val (.ref b86), .val (.int v85)] [(.int (own_pad (own_g v73 v85 v77 v75 v79 v81 v83) e1 bt))])) tg_ → Steps p.tables e below (s₁.setTop (entryFrame m #[(.int p0), (.int p1), (.int p2), (.int p3), (.int p4), (.int p5)] maxLocals)) tg_ := by
              intro tg_ kt
              refine k210 tg_ ?_
              refine XS.icmpYes X130.here hx rfl (pc0 := 496) (pc' := 505) rfl (hb hby at_496) rfl (teq hc496_211).1 (by decide) (by decide) ?_
              show Steps p.tables e below (T130.setTop (mkF m 505 #[.val (.int p0), .val (.int p1), .val (.int p2), .val (.int p3), .val (.int p4), .val (.int p5), .val (.int v73), .val (.int v75), .val (.int v77), .val (.int v79), .val (.int v81), .val (.int v83), .val (.int v85), .val (.ref b86), .unset] [])) _
              refine XS.iload X130.here hx rfl (hb hby at_505) rfl ?_
              show Steps p.tables e below (T130.setTop (mkF m 507 #[.val (.int p0), .val (.int p1), .val (.int p2), .val (.int p3), .val (.int p4), .val (.int p5), .val (.int v73), .val (.int v75), .val (.int v77), .val (.int v79), .val (.int v81), .val (.int v83), .val (.int v85), .val (.ref b86), .unset] [(.int v85)])) _
              refine XS.istore X130.here hx rfl (hb hby at_507) rfl (l' := #[.val (.int p0), .val (.int p1), .val (.int p2), .val (.int p3), .val (.int p4), .val (.int p5), .val (.int v73), .val (.int v75), .val (.int v77), .val (.int v79), .val (.int v81), .val (.int v83), .val (.int v85), .val (.ref b86), .val (.int v85)]) rfl ?_
              show Steps p.tables e below (T130.setTop (mkF m 509 #[.val (.int p0), .val (.int p1), .val (.int p2), .val (.int p3), .val (.int p4), .val (.int p5), .val (.int v73), .val (.int v75), .val (.int v77), .val (.int v79), .val (.int v81), .val (.int v83), .val (.int v85), .val (.ref b86), .val (.int v85)] [])) _
              refine XS.aload X130.here hx rfl (hb hby at_509) rfl rfl ?_
              show Steps p.tables e below (T130.setTop (mkF m 511 #[.val (.int p0), .val (.int p1), .val (.int p2), .val (.int p3), .val (.int p4), .val (.int p5), .val (.int v73), .val (.int v75), .val (.int v77), .val (.int v79), .val (.int v81), .val (.int v83), .val (.int v85), .val (.ref b86), .val (.int v85)] [(.ref b86)])) _
              refine XS.iload X130.here hx rfl (hb hby at_511) rfl ?_
              show Steps p.tables e below (T130.setTop (mkF m 513 #[.val (.int p0), .val (.int p1), .val (.int p2), .val (.int p3), .val (.int p4), .val (.int p5), .val (.int v73), .val (.int v75), .val (.int v77), .val (.int v79), .val (.int v81), .val (.int v83), .val (.int v85), .val (.ref b86), .val (.int v85)] [(.int v73), (.ref b86)])) _
              refine st212 _ ?_
              show Steps p.tables e below (T212.setTop (mkF m 516 #[.val (.int p0), .val (.int p1), .val (.int p2), .val (.int p3), .val (.int p4), .val (.int p5), .val (.int v73), .val (.int v75), .val (.int v77), .val (.int v79), .val (.int v81), .val (.int v83), .val (.int v85), .val (.ref b86), .val (.int v85)] [(.int (own_pad (own_g v73 v85 v77 v75 v79 v81 v83) e1 bt))])) _
              exact kt
            obtain ⟨r214, hr214⟩ : ∃ z : Int32, z = (own_pad (own_g v73 v85 v77 v75 v79 v81 v83) e1 bt) := ⟨_, rfl⟩
            rw [← hr214] at k213
            have hres215 : r214 = v85 := by
              rw [hr214, own_pad, hwE]
              rw [if_neg hc457_155, if_neg hc464_163]
              have gv := fun (j : Nat) (hj : j ≤ e1) (hlo : j = e1 ∨ ¬ (j : Int) < (e1 : Int) + 1 - v85.toInt) => own_gv (en := v73) (w := v85) (fb := v81) (gb := v83) hp hv hen h17 hj hc457_155 hc464_163 hlo hk0
              rw [hwE] at hbt
              rw [if_pos (hbt.mpr fun i h1 h2 => ?_)]
              have ar216 := rng32 v85
              have ar217 : (1 : Int32).toInt = 1 := by decide
              have ar218 : ¬ (v85.toInt < (1 : Int32).toInt) := fun qq_ => hc457_155 (Int32.lt_iff_toInt_lt.mpr qq_)
              have ar219 : (16 : Int32).toInt = 16 := by decide
              have ar220 : ¬ ((16 : Int32).toInt < v85.toInt) := fun qq_ => hc464_163 (Int32.lt_iff_toInt_lt.mpr qq_)
              have ar221 := rng32 v75
              have ar222 := rng32 v73
              have ar223 := rng32 (v73 - v85)
              first | have ar224 : (v73 - v85).toInt = v73.toInt - v85.toInt := (by have qw := c_isub v73 v85; omega) | (have ar224 := c_isub v73 v85; skip)
              have ar225 : ¬ (v75.toInt < (v73 - v85).toInt) := fun qq_ => hc480_171 (Int32.lt_iff_toInt_lt.mpr qq_)
              have ar226 : (2 : Int32).toInt = 2 := by decide
              have ar227 := rng32 (v73 - (2 : Int32))
              first | have ar228 : (v73 - (2 : Int32)).toInt = v73.toInt - 2 := (by have qw := c_isub v73 (2 : Int32); omega) | (have ar228 := c_isub v73 (2 : Int32); skip)
              have ar229 : ¬ ((v73 - (2 : Int32)).toInt < v75.toInt) := fun qq_ => hc489_189 (Int32.lt_iff_toInt_lt.mpr qq_)
              rw [gv i (by omega) (Or.inr h2), gv e1 (Nat.le_refl _) (Or.inl rfl), if_pos rfl, if_neg (by omega)]
              rw [hc496_211]; exact ite_self _
            have hc518_230 : r214 = v85 := hres215
            have k231 : ∀ tg_, Steps p.tables e below (T212.setTop (mkF m 526 #[.val (.int p0), .val (.int p1), .val (.int p2), .val (.int p3), .val (.int p4), .val (.int p5), .val (.int v73), .val (.int v75), .val (.int v77), .val (.int v79), .val (.int v81), .val (.int v83), .val (.int v85), .val (.ref b86), .val (.int v85)] [(.int (1 : Int32))])) tg_ → Steps p.tables e below (s₁.setTop (entryFrame m #[(.int p0), (.int p1), (.int p2), (.int p3), (.int p4), (.int p5)] maxLocals)) tg_ := by
              intro tg_ kt
              refine k213 tg_ ?_
              show Steps p.tables e below (T212.setTop (mkF m 516 #[.val (.int p0), .val (.int p1), .val (.int p2), .val (.int p3), .val (.int p4), .val (.int p5), .val (.int v73), .val (.int v75), .val (.int v77), .val (.int v79), .val (.int v81), .val (.int v83), .val (.int v85), .val (.ref b86), .val (.int v85)] [(.int r214)])) _
              refine XS.iload X212.here hx rfl (hb hby at_516) rfl ?_
              show Steps p.tables e below (T212.setTop (mkF m 518 #[.val (.int p0), .val (.int p1), .val (.int p2), .val (.int p3), .val (.int p4), .val (.int p5), .val (.int v73), .val (.int v75), .val (.int v77), .val (.int v79), .val (.int v81), .val (.int v83), .val (.int v85), .val (.ref b86), .val (.int v85)] [(.int v85), (.int r214)])) _
              refine XS.icmpNo X212.here hx rfl (hb hby at_518) rfl (teq hc518_230).2 ?_
              show Steps p.tables e below (T212.setTop (mkF m 521 #[.val (.int p0), .val (.int p1), .val (.int p2), .val (.int p3), .val (.int p4), .val (.int p5), .val (.int v73), .val (.int v75), .val (.int v77), .val (.int v79), .val (.int v81), .val (.int v83), .val (.int v85), .val (.ref b86), .val (.int v85)] [])) _
              refine XS.iconst X212.here hx rfl (hb hby at_521) ?_
              show Steps p.tables e below (T212.setTop (mkF m 522 #[.val (.int p0), .val (.int p1), .val (.int p2), .val (.int p3), .val (.int p4), .val (.int p5), .val (.int v73), .val (.int v75), .val (.int v77), .val (.int v79), .val (.int v81), .val (.int v83), .val (.int v85), .val (.ref b86), .val (.int v85)] [(.int (1 : Int32))])) _
              refine XS.goto X212.here hx rfl (pc0 := 522) (pc' := 526) rfl (hb hby at_522) (by decide) (by decide) ?_
              show Steps p.tables e below (T212.setTop (mkF m 526 #[.val (.int p0), .val (.int p1), .val (.int p2), .val (.int p3), .val (.int p4), .val (.int p5), .val (.int v73), .val (.int v75), .val (.int v77), .val (.int v79), .val (.int v81), .val (.int v83), .val (.int v85), .val (.ref b86), .val (.int v85)] [(.int (1 : Int32))])) _
              exact kt
            obtain ⟨fs, hr, hrun, hended, hW, hsame⟩ := X212.leave (v := some (.int (1 : Int32))) (fun h => by rw [Bd.returns] at h; cases h)
            refine ⟨_, _, k231 _ (retN X212 hx (t := .boolean) Bd.returns (by simp) (hb hby at_526) hr), hrun, hended, _, _, rfl, ?_, ⟨_, rfl⟩, hW, hsame.mono (by decide) (by decide)⟩
            show Q0 Z p0 p1 p2 p3 p4 p5 h0 n0 _ T212.heap _
            rw [eq212]
            exact ⟨rfl, N212⟩
          · obtain ⟨_, _, ⟨T232, L232, kc232, nc232⟩, -, X232, ⟨Lc232, hQ232, l232, y232, z232⟩, st232⟩ := Jvm.LawKit.callS X130 hx (y := (⟨"com/example/abak/abak/format/Aes256", "padding", "([BI)I"⟩ : MethodName)) hown (mvT hZ (hw _ (List.mem_of_getElem? (i := 6) rfl))) (mvT hZ (hw _ (List.mem_of_getElem? (i := 7) rfl))) (mvT hZ (hw _ (List.mem_of_getElem? (i := 8) rfl))) (mvT hZ (hw _ (List.mem_of_getElem? (i := 9) rfl))) (by decide) (backOf (W := 0) (rm2 l Z a0 hw [] b86 v73 e1 (own_g v73 v85 v77 v75 v79 v81 v83) bt h130 n0 V132 hen h15 h17 hbt) hZ (hw _ (List.mem_of_getElem? (i := 9) rfl)) (hw _ (List.mem_of_getElem? (i := 8) rfl)) (by decide) (by decide)) (g := (mkF m 513 #[.val (.int p0), .val (.int p1), .val (.int p2), .val (.int p3), .val (.int p4), .val (.int p5), .val (.int v73), .val (.int v75), .val (.int v77), .val (.int v79), .val (.int v81), .val (.int v83), .val (.int v85), .val (.ref b86), .val (.int (-1 : Int32))] [(.int v73), (.ref b86)])) rfl (by rw [hml]; rfl) (argsL := [(.ref b86), (.int v73)]) (rest := []) (lenOf pd_1 rfl) rfl (by show 2 * 0 + _ ≤ _; exact Nat.le_of_eq rfl) (hb hby at_513) (fun _ _ => ⟨rfl, e130, (by decide : 1 + 0 ≤ _), (by decide : 18 + 0 ≤ _)⟩)
            dsimp only [Pt.U, Pt.locs, Pt.cells, Pt.slots] at X232 l232 y232 z232 st232 hQ232
            rw [l232, y232, z232] at X232
            replace X232 : Stand p l e room_1 s m #[(.int p0), (.int p1), (.int p2), (.int p3), (.int p4), (.int p5)] below meth c T232 _ 1 18 := X232
            obtain ⟨rfl, Nq232, eq232⟩ := hQ232
            have N232 := Fr.app N130 Nq232
            have k233 : ∀ tg_, Steps p.tables e below (T232.setTop (mkF m 516 #[.val (.int p0), .val (.int p1), .val (.int p2), .val (.int p3), .val (.int p4), .val (.int p5), .val (.int v73), .val (.int v75), .val (.int v77), .val (.int v79), .val (.int v81), .val (.int v83), .val (.int v85), .val (.ref b86), .val (.int (-1 : Int32))] [(.int (own_pad (own_g v73 v85 v77 v75 v79 v81 v83) e1 bt))])) tg_ → Steps p.tables e below (s₁.setTop (entryFrame m #[(.int p0), (.int p1), (.int p2), (.int p3), (.int p4), (.int p5)] maxLocals)) tg_ := by
              intro tg_ kt
              refine k210 tg_ ?_
              refine XS.icmpNo X130.here hx rfl (hb hby at_496) rfl (feq hc496_211).1 ?_
              show Steps p.tables e below (T130.setTop (mkF m 499 #[.val (.int p0), .val (.int p1), .val (.int p2), .val (.int p3), .val (.int p4), .val (.int p5), .val (.int v73), .val (.int v75), .val (.int v77), .val (.int v79), .val (.int v81), .val (.int v83), .val (.int v85), .val (.ref b86), .unset] [])) _
              refine XS.iconst X130.here hx rfl (hb hby at_499) ?_
              show Steps p.tables e below (T130.setTop (mkF m 500 #[.val (.int p0), .val (.int p1), .val (.int p2), .val (.int p3), .val (.int p4), .val (.int p5), .val (.int v73), .val (.int v75), .val (.int v77), .val (.int v79), .val (.int v81), .val (.int v83), .val (.int v85), .val (.ref b86), .unset] [(.int (-1 : Int32))])) _
              refine XS.istore X130.here hx rfl (hb hby at_500) rfl (l' := #[.val (.int p0), .val (.int p1), .val (.int p2), .val (.int p3), .val (.int p4), .val (.int p5), .val (.int v73), .val (.int v75), .val (.int v77), .val (.int v79), .val (.int v81), .val (.int v83), .val (.int v85), .val (.ref b86), .val (.int (-1 : Int32))]) rfl ?_
              show Steps p.tables e below (T130.setTop (mkF m 502 #[.val (.int p0), .val (.int p1), .val (.int p2), .val (.int p3), .val (.int p4), .val (.int p5), .val (.int v73), .val (.int v75), .val (.int v77), .val (.int v79), .val (.int v81), .val (.int v83), .val (.int v85), .val (.ref b86), .val (.int (-1 : Int32))] [])) _
              refine XS.goto X130.here hx rfl (pc0 := 502) (pc' := 509) rfl (hb hby at_502) (by decide) (by decide) ?_
              show Steps p.tables e below (T130.setTop (mkF m 509 #[.val (.int p0), .val (.int p1), .val (.int p2), .val (.int p3), .val (.int p4), .val (.int p5), .val (.int v73), .val (.int v75), .val (.int v77), .val (.int v79), .val (.int v81), .val (.int v83), .val (.int v85), .val (.ref b86), .val (.int (-1 : Int32))] [])) _
              refine XS.aload X130.here hx rfl (hb hby at_509) rfl rfl ?_
              show Steps p.tables e below (T130.setTop (mkF m 511 #[.val (.int p0), .val (.int p1), .val (.int p2), .val (.int p3), .val (.int p4), .val (.int p5), .val (.int v73), .val (.int v75), .val (.int v77), .val (.int v79), .val (.int v81), .val (.int v83), .val (.int v85), .val (.ref b86), .val (.int (-1 : Int32))] [(.ref b86)])) _
              refine XS.iload X130.here hx rfl (hb hby at_511) rfl ?_
              show Steps p.tables e below (T130.setTop (mkF m 513 #[.val (.int p0), .val (.int p1), .val (.int p2), .val (.int p3), .val (.int p4), .val (.int p5), .val (.int v73), .val (.int v75), .val (.int v77), .val (.int v79), .val (.int v81), .val (.int v83), .val (.int v85), .val (.ref b86), .val (.int (-1 : Int32))] [(.int v73), (.ref b86)])) _
              refine st232 _ ?_
              show Steps p.tables e below (T232.setTop (mkF m 516 #[.val (.int p0), .val (.int p1), .val (.int p2), .val (.int p3), .val (.int p4), .val (.int p5), .val (.int v73), .val (.int v75), .val (.int v77), .val (.int v79), .val (.int v81), .val (.int v83), .val (.int v85), .val (.ref b86), .val (.int (-1 : Int32))] [(.int (own_pad (own_g v73 v85 v77 v75 v79 v81 v83) e1 bt))])) _
              exact kt
            obtain ⟨r234, hr234⟩ : ∃ z : Int32, z = (own_pad (own_g v73 v85 v77 v75 v79 v81 v83) e1 bt) := ⟨_, rfl⟩
            rw [← hr234] at k233
            have hres235 : r234 = (-1 : Int32) := by
              rw [hr234, own_pad, hwE]
              rw [if_neg hc457_155, if_neg hc464_163]
              have gv := fun (j : Nat) (hj : j ≤ e1) (hlo : j = e1 ∨ ¬ (j : Int) < (e1 : Int) + 1 - v85.toInt) => own_gv (en := v73) (w := v85) (fb := v81) (gb := v83) hp hv hen h17 hj hc457_155 hc464_163 hlo hk0
              rw [hwE] at hbt
              rw [if_neg (fun q => hc496_211 ?_)]
              have ar236 := rng32 v85
              have ar237 : (1 : Int32).toInt = 1 := by decide
              have ar238 : ¬ (v85.toInt < (1 : Int32).toInt) := fun qq_ => hc457_155 (Int32.lt_iff_toInt_lt.mpr qq_)
              have ar239 : (16 : Int32).toInt = 16 := by decide
              have ar240 : ¬ ((16 : Int32).toInt < v85.toInt) := fun qq_ => hc464_163 (Int32.lt_iff_toInt_lt.mpr qq_)
              have ar241 := rng32 v75
              have ar242 := rng32 v73
              have ar243 := rng32 (v73 - v85)
              first | have ar244 : (v73 - v85).toInt = v73.toInt - v85.toInt := (by have qw := c_isub v73 v85; omega) | (have ar244 := c_isub v73 v85; skip)
              have ar245 : ¬ (v75.toInt < (v73 - v85).toInt) := fun qq_ => hc480_171 (Int32.lt_iff_toInt_lt.mpr qq_)
              have ar246 : (2 : Int32).toInt = 2 := by decide
              have ar247 := rng32 (v73 - (2 : Int32))
              first | have ar248 : (v73 - (2 : Int32)).toInt = v73.toInt - 2 := (by have qw := c_isub v73 (2 : Int32); omega) | (have ar248 := c_isub v73 (2 : Int32); skip)
              have ar249 : ¬ ((v73 - (2 : Int32)).toInt < v75.toInt) := fun qq_ => hc489_189 (Int32.lt_iff_toInt_lt.mpr qq_)
              have hk1 : v75.toInt.toNat < e1 := by omega
              have hk2 : ¬ ((v75.toInt.toNat : Nat) : Int) < (e1 : Int) + 1 - v85.toInt := by omega
              have q1 := hbt.mp q v75.toInt.toNat hk1 hk2
              rw [gv _ (by omega) (Or.inr hk2), gv _ (Nat.le_refl _) (Or.inl rfl), if_neg (by omega), if_pos (by omega), if_pos rfl] at q1
              exact q1
            have hc518_250 : r234 = (-1 : Int32) := hres235
            have k251 : ∀ tg_, Steps p.tables e below (T232.setTop (mkF m 526 #[.val (.int p0), .val (.int p1), .val (.int p2), .val (.int p3), .val (.int p4), .val (.int p5), .val (.int v73), .val (.int v75), .val (.int v77), .val (.int v79), .val (.int v81), .val (.int v83), .val (.int v85), .val (.ref b86), .val (.int (-1 : Int32))] [(.int (1 : Int32))])) tg_ → Steps p.tables e below (s₁.setTop (entryFrame m #[(.int p0), (.int p1), (.int p2), (.int p3), (.int p4), (.int p5)] maxLocals)) tg_ := by
              intro tg_ kt
              refine k233 tg_ ?_
              show Steps p.tables e below (T232.setTop (mkF m 516 #[.val (.int p0), .val (.int p1), .val (.int p2), .val (.int p3), .val (.int p4), .val (.int p5), .val (.int v73), .val (.int v75), .val (.int v77), .val (.int v79), .val (.int v81), .val (.int v83), .val (.int v85), .val (.ref b86), .val (.int (-1 : Int32))] [(.int r234)])) _
              refine XS.iload X232.here hx rfl (hb hby at_516) rfl ?_
              show Steps p.tables e below (T232.setTop (mkF m 518 #[.val (.int p0), .val (.int p1), .val (.int p2), .val (.int p3), .val (.int p4), .val (.int p5), .val (.int v73), .val (.int v75), .val (.int v77), .val (.int v79), .val (.int v81), .val (.int v83), .val (.int v85), .val (.ref b86), .val (.int (-1 : Int32))] [(.int (-1 : Int32)), (.int r234)])) _
              refine XS.icmpNo X232.here hx rfl (hb hby at_518) rfl (teq hc518_250).2 ?_
              show Steps p.tables e below (T232.setTop (mkF m 521 #[.val (.int p0), .val (.int p1), .val (.int p2), .val (.int p3), .val (.int p4), .val (.int p5), .val (.int v73), .val (.int v75), .val (.int v77), .val (.int v79), .val (.int v81), .val (.int v83), .val (.int v85), .val (.ref b86), .val (.int (-1 : Int32))] [])) _
              refine XS.iconst X232.here hx rfl (hb hby at_521) ?_
              show Steps p.tables e below (T232.setTop (mkF m 522 #[.val (.int p0), .val (.int p1), .val (.int p2), .val (.int p3), .val (.int p4), .val (.int p5), .val (.int v73), .val (.int v75), .val (.int v77), .val (.int v79), .val (.int v81), .val (.int v83), .val (.int v85), .val (.ref b86), .val (.int (-1 : Int32))] [(.int (1 : Int32))])) _
              refine XS.goto X232.here hx rfl (pc0 := 522) (pc' := 526) rfl (hb hby at_522) (by decide) (by decide) ?_
              show Steps p.tables e below (T232.setTop (mkF m 526 #[.val (.int p0), .val (.int p1), .val (.int p2), .val (.int p3), .val (.int p4), .val (.int p5), .val (.int v73), .val (.int v75), .val (.int v77), .val (.int v79), .val (.int v81), .val (.int v83), .val (.int v85), .val (.ref b86), .val (.int (-1 : Int32))] [(.int (1 : Int32))])) _
              exact kt
            obtain ⟨fs, hr, hrun, hended, hW, hsame⟩ := X232.leave (v := some (.int (1 : Int32))) (fun h => by rw [Bd.returns] at h; cases h)
            refine ⟨_, _, k251 _ (retN X232 hx (t := .boolean) Bd.returns (by simp) (hb hby at_526) hr), hrun, hended, _, _, rfl, ?_, ⟨_, rfl⟩, hW, hsame.mono (by decide) (by decide)⟩
            show Q0 Z p0 p1 p2 p3 p4 p5 h0 n0 _ T232.heap _
            rw [eq232]
            exact ⟨rfl, N232⟩
set_option maxRecDepth 65536 in
set_option maxHeartbeats 40000000 in
theorem comes_1 {Post : Tables → Env → Array Value → State → Outcome → State → Prop} (hpost : ∀ tb e args s v u, (limb_1_1.after args s (.returned v) u = true ∧ limb_1_2.after args s (.returned v) u = true ∧ True) → FrameEnd s (.returned v) u (Jvm.fieldLocs frame_1_writes args s ++ Jvm.arrayLocs frame_1_arrays args s ++ Jvm.staticLocs frame_1_statics s) 16 128 → Post tb e args s (.returned v) u) :
    ArmFor flags0 classFile x code maxLocals ret World_1 tables_1 room_1 Calls_1 rest_1 Pre_1 Post := by
  intro l hfl _ _ p e ha hc hk s m args below hf hA hF happ hP
  obtain ⟨hcalls, hrest, hpre⟩ := hP
  obtain ⟨-, -, -, hnamed, -, -, -, hat⟩ := (Spec.applies_iff hf).mp happ
  obtain ⟨hg, hn⟩ := and_e (Cond.before_iff.mp (show (Jvm.Cond.and given_1 narrow_1).before args s = true from hpre))
  have hcount := (and_e hg).1
  have hgs0 := (and_e hg).2
  have hi0 := (and_e hgs0).1
  have hgs1 := (and_e hgs0).2
  have hi1 := (and_e hgs1).1
  have hgs2 := (and_e hgs1).2
  have hi2 := (and_e hgs2).1
  have hgs3 := (and_e hgs2).2
  have hi3 := (and_e hgs3).1
  have hgs4 := (and_e hgs3).2
  have hi4 := (and_e hgs4).1
  have hgs5 := (and_e hgs4).2
  have hi5 := hgs5
  obtain ⟨w0, w1, w2, w3, w4, w5, rfl⟩ : ∃ w0 w1 w2 w3 w4 w5 : Value, args = #[w0, w1, w2, w3, w4, w5] := by
    have hs : args.size = 6 := by simpa [Cond.value, given_1] using hcount
    obtain ⟨L⟩ := args
    match L, hs with
    | [w0, w1, w2, w3, w4, w5], _ => exact ⟨w0, w1, w2, w3, w4, w5, rfl⟩
  have hw := fun d (hd : d ∈ tables_1) => atoms_spec (ws := Jvm.Cond.code x code maxLocals ret :: tables_1) hat d (List.mem_cons_of_mem _ hd)
  have hfit : Fit s := fun {y c} hc i hi => by
    obtain ⟨ha, rfl⟩ := Array.getElem?_eq_some_iff.mp hc
    have q := List.all_eq_true.mp ((Array.all_eq_true_iff_forall_mem.mp hF) _ (Array.getElem_mem ha)) i (List.mem_range.mpr hi)
    simpa [Array.getElem?_eq_getElem hi] using q
  obtain ⟨i0, ei0⟩ := is_v hi0
  obtain rfl : w0 = (.int i0) := Option.some.inj ei0
  obtain ⟨i1, ei1⟩ := is_v hi1
  obtain rfl : w1 = (.int i1) := Option.some.inj ei1
  obtain ⟨i2, ei2⟩ := is_v hi2
  obtain rfl : w2 = (.int i2) := Option.some.inj ei2
  obtain ⟨i3, ei3⟩ := is_v hi3
  obtain rfl : w3 = (.int i3) := Option.some.inj ei3
  obtain ⟨i4, ei4⟩ := is_v hi4
  obtain rfl : w4 = (.int i4) := Option.some.inj ei4
  obtain ⟨i5, ei5⟩ := is_v hi5
  obtain rfl : w5 = (.int i5) := Option.some.inj ei5
  obtain ⟨n, o, h1, h2, h3, _, L, rfl, ⟨rfl, N⟩, hq⟩ := rm0 l s _ hw tables_1 i0 i1 i2 i3 i4 i5 s.heap s.heap.size (Nat.le_refl _)  p e ha hc hk s m _ below hf ((Spec.applies_iff_loose hf).mp happ).1 ⟨rfl, State.Warmed39.refl s, rfl⟩ trivial
  refine ⟨n, _, h1, h2, h3, hpost _ _ _ _ _ _ ⟨Cond.after_iff.mpr rfl, Cond.after_iff.mpr (eq_i res_at (Term.int_eval (1)) rfl), trivial⟩ ⟨hq.1, hq.2.1, (hq.2.2.sift fun y hy => Or.inr (N y hy)).mono (by decide) (by decide)⟩⟩
theorem main_1_1 : Claimed_1_1 := comes_1 fun _ _ _ _ _ _ h hF => ⟨h.1, hF⟩
theorem main_1_2 : Claimed_1_2 := comes_1 fun _ _ _ _ _ _ h hF => ⟨h.2.1, hF⟩
end Jvm.Pilot.@@N@@
namespace Jvm.Pilot.@@N@@
open Jvm Jvm.ClassFile Sem Op Lib Jvm.Free Jvm.Stand Jvm.Pilot.@@N@@.Jvm.D
/-! MADE BY PROGRAM (witnessworld.py) out of the Statement's table words and the real class files: 9 classes; the members and pool entries that the words name. The judged class is class 1, her method 2. -/
namespace start1
open Jvm.ClassFile
def u (s : String) : CpInfo := .utf8 (stringToUtf16 s)
/-- a pool by its gaps: so many unusable entries, then the entry; so many at the end -/
def gap : Nat → List CpInfo → List CpInfo
  | 0, r => r
  | n + 1, r => .unusable :: gap n r
def poolList (es : List (Nat × CpInfo)) (last : Nat) : List CpInfo := es.foldr (fun e r => gap e.1 (e.2 :: r)) (gap last [])
def pool (es : List (Nat × CpInfo)) (last : Nat) : Array CpInfo := ⟨poolList es last⟩
def fileOf (pool : Array CpInfo) (this : Nat) (attrs : Array Attribute := #[]) (ms : Array MethodInfo := #[]) (fl : Nat := 33) (sup : Nat := 0) (ifs : Array Nat := #[]) (fds : Array FieldInfo := #[]) : ClassFile where
  minorVersion := 0
  majorVersion := 65
  constantPool := pool
  accessFlags := fl
  thisClass := this
  superClass := sup
  interfaces := ifs
  fields := fds
  methods := ms
  attributes := attrs
def plain (name : String) (sup : Option ClassId) : Class where
  name := name
  kind := .ordinary
  loader := none
  accessFlags := 33
  super := sup
  interfaces := #[]
  cf := none
  fields := #[]
  methods := #[]
  instanceTypes := #[]
  staticTypes := #[]
  resolved := #[]
  callSites := []
  init := .initialized
  statics := none
  mirror := none

def pool0 : Array CpInfo := pool [(5, u "<init>"), (0, u "()V"), (1, .class_ 10), (1, u "java/lang/Object")] 113

def k0m0 : Method := { name := "<init>", desc := "()V", sig := { parameters := [], returnType := none }, accessFlags := 1, code := none }
/-- java/lang/Object -/
def k0 : Class := { plain "java/lang/Object" none with
  accessFlags := 33
  interfaces := #[]
  cf := some (fileOf pool0 8 #[] #[{ accessFlags := 1, nameIndex := 5, descriptorIndex := 6, attributes := #[] }] 33 0 #[] #[])
  fields := #[]
  methods := #[k0m0]
  instanceTypes := #[]
  staticTypes := #[]
  resolved := Array.replicate 124 none
  statics := none }

def pool1 : Array CpInfo := pool [(2, .class_ 4), (1, u "java/lang/Object"), (0, u "<init>"), (0, u "()V"), (0, .integer 2147483647), (0, .methodref 9 10), (0, .class_ 11), (0, .nameAndType 12 13), (0, u "com/example/abak/abak/format/Aes256PaddingPinLaw"), (0, u "cell"), (0, u "(IIIBIBBB)B"), (0, .methodref 15 16), (0, .class_ 17), (0, .nameAndType 18 19), (0, u "com/example/abak/abak/format/Aes256"), (0, u "padding"), (0, u "([BI)I"), (3, u "law"), (0, u "(IIIIII)Z")] 4

def k1m0 : Method := { name := "<init>", desc := "()V", sig := { parameters := [], returnType := none }, accessFlags := 1, code := none }
def k1c1 : Code := { maxStack := 3, maxLocals := 8, code := method_2_code, exceptionTable := #[], attributes := #[] }
def k1m1 : Method := { name := "cell", desc := "(IIIBIBBB)B", sig := { parameters := [.int, .int, .int, .byte, .int, .byte, .byte, .byte], returnType := some .byte }, accessFlags := 10, code := some k1c1 }
def k1c2 : Code := { maxStack := 11, maxLocals := 15, code := code, exceptionTable := #[], attributes := #[] }
def k1m2 : Method := { name := "law", desc := "(IIIIII)Z", sig := { parameters := [.int, .int, .int, .int, .int, .int], returnType := some .boolean }, accessFlags := 9, code := some k1c2 }
/-- com/example/abak/abak/format/Aes256PaddingPinLaw -/
def k1 : Class := { plain "com/example/abak/abak/format/Aes256PaddingPinLaw" (some 0) with
  accessFlags := 49
  interfaces := #[]
  cf := some (fileOf pool1 9 #[] #[{ accessFlags := 1, nameIndex := 5, descriptorIndex := 6, attributes := #[] }, { accessFlags := 10, nameIndex := 12, descriptorIndex := 13, attributes := #[] }, { accessFlags := 9, nameIndex := 23, descriptorIndex := 24, attributes := #[] }] 49 2 #[] #[])
  fields := #[]
  methods := #[k1m0, k1m1, k1m2]
  instanceTypes := #[]
  staticTypes := #[]
  resolved := Array.replicate 29 none
  statics := none }

def pool2 : Array CpInfo := pool [(1, .class_ 2), (0, u "com/example/abak/abak/format/Aes256"), (3, .class_ 8), (1, u "java/lang/Object"), (0, u "<init>"), (0, u "()V"), (2, u "roundKeys"), (0, u "[I"), (2, u "chain"), (6, u "decrypting"), (0, u "Z"), (6, u "INVERSE_ROW_0"), (2, u "S_BOX"), (2, u "INVERSE_ROW_1"), (2, u "INVERSE_ROW_2"), (2, u "INVERSE_ROW_3"), (14, u "([BI)I"), (15, u "ROW_0"), (2, u "ROW_1"), (2, u "ROW_2"), (2, u "ROW_3"), (6, u "INVERSE_S_BOX"), (6, u "BLOCK_LENGTH"), (0, u "I"), (2, u "KEY_LENGTH"), (1, u "ROUNDS"), (1, u "KEY_WORDS"), (1, u "BYTE_VALUES"), (1, u "REDUCING"), (10, u "padding")] 5

def k2m0 : Method := { name := "<init>", desc := "()V", sig := { parameters := [], returnType := none }, accessFlags := 0, code := none }
def k2c1 : Code := { maxStack := 4, maxLocals := 4, code := prog_3_method_5_code, exceptionTable := #[], attributes := #[] }
def k2m1 : Method := { name := "padding", desc := "([BI)I", sig := { parameters := [(.array .byte), .int], returnType := some .int }, accessFlags := 8, code := some k2c1 }
/-- com/example/abak/abak/format/Aes256 -/
def k2 : Class := { plain "com/example/abak/abak/format/Aes256" (some 0) with
  accessFlags := 48
  interfaces := #[]
  cf := some (fileOf pool2 1 #[] #[{ accessFlags := 0, nameIndex := 9, descriptorIndex := 10, attributes := #[] }, { accessFlags := 8, nameIndex := 121, descriptorIndex := 59, attributes := #[] }] 48 6 #[] #[{ accessFlags := 24, nameIndex := 98, descriptorIndex := 99, attributes := #[] }, { accessFlags := 24, nameIndex := 102, descriptorIndex := 99, attributes := #[] }, { accessFlags := 26, nameIndex := 104, descriptorIndex := 99, attributes := #[] }, { accessFlags := 26, nameIndex := 106, descriptorIndex := 99, attributes := #[] }, { accessFlags := 26, nameIndex := 108, descriptorIndex := 99, attributes := #[] }, { accessFlags := 26, nameIndex := 110, descriptorIndex := 99, attributes := #[] }, { accessFlags := 26, nameIndex := 35, descriptorIndex := 14, attributes := #[] }, { accessFlags := 26, nameIndex := 91, descriptorIndex := 14, attributes := #[] }, { accessFlags := 26, nameIndex := 75, descriptorIndex := 14, attributes := #[] }, { accessFlags := 26, nameIndex := 78, descriptorIndex := 14, attributes := #[] }, { accessFlags := 26, nameIndex := 81, descriptorIndex := 14, attributes := #[] }, { accessFlags := 26, nameIndex := 84, descriptorIndex := 14, attributes := #[] }, { accessFlags := 26, nameIndex := 32, descriptorIndex := 14, attributes := #[] }, { accessFlags := 26, nameIndex := 38, descriptorIndex := 14, attributes := #[] }, { accessFlags := 26, nameIndex := 41, descriptorIndex := 14, attributes := #[] }, { accessFlags := 26, nameIndex := 44, descriptorIndex := 14, attributes := #[] }, { accessFlags := 18, nameIndex := 13, descriptorIndex := 14, attributes := #[] }, { accessFlags := 18, nameIndex := 17, descriptorIndex := 14, attributes := #[] }, { accessFlags := 2, nameIndex := 24, descriptorIndex := 25, attributes := #[] }])
  fields := #[{ name := "BLOCK_LENGTH", type := .int, accessFlags := 24, slot := 0, constantValue := 0 }, { name := "KEY_LENGTH", type := .int, accessFlags := 24, slot := 1, constantValue := 0 }, { name := "ROUNDS", type := .int, accessFlags := 26, slot := 2, constantValue := 0 }, { name := "KEY_WORDS", type := .int, accessFlags := 26, slot := 3, constantValue := 0 }, { name := "BYTE_VALUES", type := .int, accessFlags := 26, slot := 4, constantValue := 0 }, { name := "REDUCING", type := .int, accessFlags := 26, slot := 5, constantValue := 0 }, { name := "S_BOX", type := (.array .int), accessFlags := 26, slot := 6, constantValue := 0 }, { name := "INVERSE_S_BOX", type := (.array .int), accessFlags := 26, slot := 7, constantValue := 0 }, { name := "ROW_0", type := (.array .int), accessFlags := 26, slot := 8, constantValue := 0 }, { name := "ROW_1", type := (.array .int), accessFlags := 26, slot := 9, constantValue := 0 }, { name := "ROW_2", type := (.array .int), accessFlags := 26, slot := 10, constantValue := 0 }, { name := "ROW_3", type := (.array .int), accessFlags := 26, slot := 11, constantValue := 0 }, { name := "INVERSE_ROW_0", type := (.array .int), accessFlags := 26, slot := 12, constantValue := 0 }, { name := "INVERSE_ROW_1", type := (.array .int), accessFlags := 26, slot := 13, constantValue := 0 }, { name := "INVERSE_ROW_2", type := (.array .int), accessFlags := 26, slot := 14, constantValue := 0 }, { name := "INVERSE_ROW_3", type := (.array .int), accessFlags := 26, slot := 15, constantValue := 0 }, { name := "roundKeys", type := (.array .int), accessFlags := 18, slot := 0, constantValue := 0 }, { name := "chain", type := (.array .int), accessFlags := 18, slot := 1, constantValue := 0 }, { name := "decrypting", type := .boolean, accessFlags := 2, slot := 2, constantValue := 0 }]
  methods := #[k2m0, k2m1]
  instanceTypes := #[(.array .int), (.array .int), .boolean]
  staticTypes := #[.int, .int, .int, .int, .int, .int, (.array .int), (.array .int), (.array .int), (.array .int), (.array .int), (.array .int), (.array .int), (.array .int), (.array .int), (.array .int)]
  resolved := Array.replicate 127 none
  statics := none }

def pool3 : Array CpInfo := pool [(1, u "java/lang/Cloneable"), (0, .class_ 1), (0, u "java/lang/Object"), (0, .class_ 3)] 3

/-- java/lang/Cloneable -/
def k3 : Class := { plain "java/lang/Cloneable" (some 0) with
  accessFlags := 1537
  interfaces := #[]
  cf := some (fileOf pool3 2 #[] #[] 1537 4 #[] #[])
  fields := #[]
  methods := #[]
  instanceTypes := #[]
  staticTypes := #[]
  resolved := Array.replicate 8 none
  statics := none }

def pool4 : Array CpInfo := pool [(1, u "java/io/Serializable"), (0, .class_ 1), (0, u "java/lang/Object"), (0, .class_ 3)] 3

/-- java/io/Serializable -/
def k4 : Class := { plain "java/io/Serializable" (some 0) with
  accessFlags := 1537
  interfaces := #[]
  cf := some (fileOf pool4 2 #[] #[] 1537 4 #[] #[])
  fields := #[]
  methods := #[]
  instanceTypes := #[]
  staticTypes := #[]
  resolved := Array.replicate 8 none
  statics := none }

/-- the primitive byte -/
def k5 : Class := { plain "byte" none with kind := .primitive 'B', accessFlags := 0x411 }
/-- [B -/
def k6 : Class := { plain "[B" (some 0) with kind := .array 5 .byte, interfaces := #[3, 4], accessFlags := 1041 }

/-- the primitive int -/
def k7 : Class := { plain "int" none with kind := .primitive 'I', accessFlags := 0x411 }
/-- [I -/
def k8 : Class := { plain "[I" (some 0) with kind := .array 7 .int, interfaces := #[3, 4], accessFlags := 1041 }

def heap : Heap := #[]
def classes : Array Class := #[k0, k1, k2, k3, k4, k5, k6, k7, k8]
def interned : List (Array UInt16 × Addr) := []
def slotsUsed : Nat := 0
def theMethod : MethodId := ⟨1, 2⟩
def args0 : Array Value := #[.int 1, .int 2, .int 3, .int 4, .int 5, .int 6]
def aboutOver (below : List Frame) : State where
  vm := { classes := classes, interned := interned.toArray }
  heap := heap
  slotsUsed := slotsUsed
  threads := #[{ frames := .invoking theMethod args0 :: below }]
def below0 : List Frame := [.native { method := ⟨0, 0⟩, args := #[] }]
def about1 : State := aboutOver below0
def p0 : Program := .bare "" "" ""
def e0 : Env := launch0.env 0 0 0
theorem w_frames : about1.frames = Frame.invoking theMethod args0 :: below0 := rfl
set_option maxRecDepth 65536 in
theorem w_args : argsFit about1.vm theMethod args0 = true := by decide +kernel
set_option maxRecDepth 65536 in
theorem w_heap : heapFits about1 = true := by decide +kernel
set_option maxRecDepth 65536 in
theorem w_runnable : about1.curStatus? = some .runnable := by decide +kernel
set_option maxRecDepth 65536 in
theorem w_alone : about1.alone = true := by decide +kernel
set_option maxRecDepth 65536 in
theorem w_named : about1.methodNamed? x = some theMethod := by decide +kernel
set_option maxRecDepth 65536 in
theorem w_hears : about1.hears theMethod below0 = true := by decide +kernel
set_option maxRecDepth 65536 in
theorem w_ripe : about1.ripe theMethod args0 below0 = true := by decide +kernel
theorem w_running : about1.status = .running := rfl
set_option maxRecDepth 65536 in
theorem w_room : about1.hasRoom e0.platform room_1 = true :=
  launch0.hasRoom_least _ room_1 (by decide +kernel) (by decide +kernel) (by decide +kernel) (by decide +kernel) (by decide +kernel) (by decide +kernel)
theorem allAtoms_all (ts : List Jvm.Cond) (a : Array Jvm.Value) (st : Jvm.State) : (allAtoms ts).before a st = ts.all (fun c => c.before a st) := by
  induction ts with
  | nil => rfl
  | cons c t ih =>
    show (Jvm.Cond.and c (allAtoms t)).before a st = _
    rw [Jvm.Cond.before_and, ih, List.all_cons]
def words1 : List Jvm.Cond := Jvm.Cond.code x code maxLocals ret :: tables_1
/-- a 'code' word, met by the world's own term for the bytes: nothing is compared byte by byte -/
theorem code_word {y : MethodName} {bytes : ByteArray} {mx : Nat} {rt : Option FieldType} {a : Array Value} {s : State} {m : MethodId} {meth : Method} {c : Code} (h1 : s.methodNamed? y = some m) (h2 : s.vm.method? m = some meth) (h3 : meth.code = some c) (h4 : c.code = bytes)
    (h5 : (c.maxLocals == mx && c.exceptionTable.isEmpty && decide (c.maxStack ≤ mostOperands) && decide (meth.sig.returnType = rt) && !meth.locks && decide (parseMethodDescriptor y.desc = some meth.sig)) = true) : (Jvm.Cond.code y bytes mx rt).before a s = true := by
  simp only [Bool.and_eq_true, beq_iff_eq, Bool.not_eq_true', decide_eq_true_eq] at h5
  obtain ⟨⟨⟨⟨⟨g1, g2⟩, g3⟩, g4⟩, g5⟩, g6⟩ := h5
  simp [Cond.before, Cond.holds, Cond.value, h1, h2, h3, h4, g1, g2, g3, g4, g5, g6]
def isCode : Jvm.Cond → Bool
  | .code _ _ _ _ => true
  | _ => false
theorem all_split {L : List Jvm.Cond} {P : Jvm.Cond → Bool} (h1 : L.all (fun c => isCode c || P c) = true) (h2 : ∀ c ∈ L.filter isCode, P c = true) : L.all P = true := by
  refine List.all_eq_true.mpr fun c hc => ?_
  have h := List.all_eq_true.mp h1 c hc
  rcases Bool.eq_false_or_eq_true (isCode c) with hi | hi
  · exact h2 c (List.mem_filter.mpr ⟨hc, hi⟩)
  · simpa [hi] using h
set_option maxRecDepth 65536 in
theorem w_c0 : (Jvm.Cond.code x code maxLocals ret).before args0 about1 = true := code_word (m := ⟨1, 2⟩) (meth := k1m2) (c := k1c2) (by decide +kernel) rfl rfl rfl (by decide +kernel)
set_option maxRecDepth 65536 in
theorem w_c1 : (Jvm.Cond.code ({ cls := "com/example/abak/abak/format/Aes256PaddingPinLaw", name := "cell", desc := "(IIIBIBBB)B" } : Jvm.MethodName) method_2_code (8 : Nat) (Option.some Jvm.ClassFile.FieldType.byte)).before args0 about1 = true := code_word (m := ⟨1, 1⟩) (meth := k1m1) (c := k1c1) (by decide +kernel) rfl rfl rfl (by decide +kernel)
set_option maxRecDepth 65536 in
theorem w_c2 : (Jvm.Cond.code ({ cls := "com/example/abak/abak/format/Aes256", name := "padding", desc := "([BI)I" } : Jvm.MethodName) prog_3_method_5_code (4 : Nat) (Option.some Jvm.ClassFile.FieldType.int)).before args0 about1 = true := code_word (m := ⟨2, 1⟩) (meth := k2m1) (c := k2c1) (by decide +kernel) rfl rfl rfl (by decide +kernel)
def codes1 : List Jvm.Cond := [Jvm.Cond.code x code maxLocals ret, Jvm.Cond.code ({ cls := "com/example/abak/abak/format/Aes256PaddingPinLaw", name := "cell", desc := "(IIIBIBBB)B" } : Jvm.MethodName) method_2_code (8 : Nat) (Option.some Jvm.ClassFile.FieldType.byte), Jvm.Cond.code ({ cls := "com/example/abak/abak/format/Aes256", name := "padding", desc := "([BI)I" } : Jvm.MethodName) prog_3_method_5_code (4 : Nat) (Option.some Jvm.ClassFile.FieldType.int)]
set_option maxRecDepth 65536 in
theorem codes_eq : words1.filter isCode = codes1 := rfl
theorem w_codes : ∀ c ∈ words1.filter isCode, c.before args0 about1 = true := by
  rw [codes_eq]
  intro c hc
  simp only [codes1, List.mem_cons, List.not_mem_nil, or_false] at hc
  rcases hc with rfl | rfl | rfl
  · exact w_c0
  · exact w_c1
  · exact w_c2
set_option maxRecDepth 65536 in
theorem w_t1 : words1.all (fun c => isCode c || c.before args0 about1) = true := by decide +kernel
theorem w_tables : (allAtoms (Jvm.Cond.code x code maxLocals ret :: tables_1)).before args0 about1 = true := by
  rw [allAtoms_all]
  show words1.all (fun c => c.before args0 about1) = true
  refine all_split ?_ w_codes
  rw [w_t1]
set_option maxRecDepth 65536 in
theorem w_case : (Jvm.Cond.and given_1 narrow_1).before args0 about1 = true := by decide +kernel
theorem w_applies : (headSpec (Jvm.Cond.code x code maxLocals ret :: tables_1) room_1).applies x e0.platform about1 = true :=
  (Spec.applies_iff w_frames).mpr ⟨w_running, w_runnable, w_alone, w_named, w_hears, w_ripe, w_room, w_tables⟩
theorem atStart : AtStart classFile x code maxLocals ret World_1 tables_1 room_1 Calls_1 rest_1 Pre_1 launch0 p0 e0 about1 theMethod args0 below0 :=
  ⟨lists_1, trivial, launch0.admits_env _ _ _, launch0.least_env, fairChoices_fair.cas, fairChoices_fair.clock, w_frames, w_args, w_heap, w_applies, trivial, trivial, w_case⟩
end start1
theorem witness_1 : WitnessClaimed_1 := ⟨start1.p0, start1.e0, start1.about1, start1.theMethod, start1.args0, start1.below0, start1.atStart⟩
end Jvm.Pilot.@@N@@
