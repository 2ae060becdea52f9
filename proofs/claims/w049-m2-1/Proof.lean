import JvmDerived
import JvmDerived.Pilot.@@N@@Statement
import JvmDerived.Pilot.@@N@@Code
set_option linter.unusedVariables false
set_option linter.unusedSimpArgs false
namespace Jvm.RoadKit
open Sem ClassFile Op Lib Jvm.Stand Jvm.Free Jvm.LawKit
section New
variable {p : Program} {l : Launch} {e : Env} {R : Room} {s : State} {m : MethodId} {args : Array Value} {below : List Frame} {meth : Method} {c : Code} {T : State} {locs : List Loc} {cells slots : Nat}
theorem retI (X : Stand p l e R s m args below meth c T locs cells slots) (hx : p.tables.exec = Jvm.exec) {pc : Nat} {Ls : Array Slot} {z : Int32} {rest : List Value} (hret : meth.sig.returnType = some .int) (hd : decode c.code pc = .ok (.ireturn, 1)) {fs : List Frame}
    (hl : ∀ (f : JFrame) (acts : List Action), f.method = m → f.locked = none → f.entered = [] → (doReturn e (T.setTop f) acts (some (.int z))).1 = T.setFrames fs) : Steps p.tables e below (T.setTop (mkF m pc Ls (.int z :: rest))) (T.setFrames fs) := by
  have hm' : T.vm.method? m = some meth := X.method'
  have hn : narrow .int (.int z) = .int z := rfl
  show Steps p.tables e below (T.setTop { method := m, pc := pc, locals := Ls, stack := _ :: rest, locked := none }) _
  jvm_step X.here [X.here.top, hx, hd, hm', hret, hn]
  first | (intro acts; rw [hl _ acts rfl rfl rfl]) | rw [hl _ _ rfl rfl rfl]
  exact Steps.refl _
end New
end Jvm.RoadKit
namespace Jvm.Pilot.@@N@@
open Jvm Jvm.ClassFile Sem Op Lib Jvm.Free Jvm.Stand Jvm.LawKit Jvm.RoadKit Bundle Jvm.Pilot.@@N@@.Jvm.D
section Own
variable {p : Program} {l : Launch} {e : Env} {R : Room} {s : State} {m : MethodId} {args : Array Value} {below : List Frame} {meth : Method} {c : Code} {T : State} {locs : List Loc} {cells slots : Nat} {Z : State} {a0 : Array Value} {h h' : Heap}
/-- an array of n places, whose j-th holds f j -/
def own_AF (Z : State) (h : Heap) (a : Addr) (ty : FieldType) (n : Nat) (f : Nat → Value) : Prop := n < 2147483648 ∧ ∃ c : Cell, Arr Z h a c ty ∧ c.slots.size = n ∧ ∀ j, j < n → c.slots[j]? = some (f j)
/-- an array of ints, bytes, chars, booleans -/
def own_AI (Z : State) (h : Heap) (a : Addr) (ty : FieldType) (n : Nat) (f : Nat → Int32) : Prop := own_AF Z h a ty n (fun j => .int (f j))
def own_AL (Z : State) (h : Heap) (a : Addr) (n : Nat) (f : Nat → Int64) : Prop := own_AF Z h a .long n (fun j => .long (f j))
def own_upd {α : Type} (f : Nat → α) (i : Nat) (x : α) : Nat → α := fun j => if j = i then x else f j
theorem own_AF.lt {a : Addr} {ty : FieldType} {n : Nat} {f : Nat → Value} (F : own_AF Z h a ty n f) : a < h.size := by obtain ⟨_, c, A, -⟩ := F; exact A.lt
theorem own_AI.lt {a : Addr} {ty : FieldType} {n : Nat} {f : Nat → Int32} (F : own_AI Z h a ty n f) : a < h.size := own_AF.lt F
theorem own_AL.lt {a : Addr} {n : Nat} {f : Nat → Int64} (F : own_AL Z h a n f) : a < h.size := own_AF.lt F
theorem own_AF.keep {a : Addr} {ty : FieldType} {n : Nat} {f : Nat → Value} {ws : List Addr} (F : own_AF Z h a ty n f) (K : Keep h h' ws) (q : a ∉ ws) : own_AF Z h' a ty n f := by
  obtain ⟨b, c, A, r⟩ := F; exact ⟨b, c, ⟨K.2.1 a c A.1 q, A.2⟩, r⟩
theorem own_AI.keep {a : Addr} {ty : FieldType} {n : Nat} {f : Nat → Int32} {ws : List Addr} (F : own_AI Z h a ty n f) (K : Keep h h' ws) (q : a ∉ ws) : own_AI Z h' a ty n f := own_AF.keep F K q
theorem own_AL.keep {a : Addr} {n : Nat} {f : Nat → Int64} {ws : List Addr} (F : own_AL Z h a n f) (K : Keep h h' ws) (q : a ∉ ws) : own_AL Z h' a n f := own_AF.keep F K q
theorem own_AF.congr {a : Addr} {ty : FieldType} {n : Nat} {f g : Nat → Value} (F : own_AF Z h a ty n f) (q : ∀ j, j < n → f j = g j) : own_AF Z h a ty n g := by
  obtain ⟨b, c, A, s, r⟩ := F; exact ⟨b, c, A, s, fun j hj => by rw [r j hj, q j hj]⟩
theorem own_AI.congr {a : Addr} {ty : FieldType} {n : Nat} {f g : Nat → Int32} (F : own_AI Z h a ty n f) (q : ∀ j, j < n → f j = g j) : own_AI Z h a ty n g := own_AF.congr F fun j hj => by show Value.int (f j) = .int (g j); rw [q j hj]
theorem own_AF.wr {a : Addr} {ty : FieldType} {n i : Nat} {f : Nat → Value} {v : Value} (F : own_AF Z h a ty n f) (hi : i < n) (W : Wr h h' a i v) : own_AF Z h' a ty n (own_upd f i v) := by
  obtain ⟨b, c, A, s, r⟩ := F
  refine ⟨b, _, A.same W, by rw [sz_set]; exact s, fun j hj => ?_⟩
  simp only [Cell.setSlot, own_upd, Array.getElem?_setIfInBounds]
  by_cases q : i = j
  · subst q; simp [s, hi]
  · have q' : ¬ j = i := fun e => q e.symm
    simp [q, q', r j hj]
theorem own_AI.wr {a : Addr} {ty : FieldType} {n i : Nat} {f : Nat → Int32} {x : Int32} (F : own_AI Z h a ty n f) (hi : i < n) (W : Wr h h' a i (.int x)) : own_AI Z h' a ty n (own_upd f i x) :=
  (own_AF.wr F hi W).congr fun j hj => by simp only [own_upd]; split <;> rfl
theorem own_AL.wr {a : Addr} {n i : Nat} {f : Nat → Int64} {x : Int64} (F : own_AL Z h a n f) (hi : i < n) (W : Wr h h' a i (.long x)) : own_AL Z h' a n (own_upd f i x) :=
  (own_AF.wr F hi W).congr fun j hj => by simp only [own_upd]; split <;> rfl
theorem own_idx {j : Int32} {i : Nat} (hj : j.toInt = i) : ¬ j < 0 ∧ j.toNatClampNeg = i := by
  refine ⟨by rw [Int32.lt_iff_toInt_lt, Int32.toInt_zero]; omega, ?_⟩
  have := nat_of (j := j) (by rw [Int32.lt_iff_toInt_lt, Int32.toInt_zero]; omega)
  omega
theorem own_inb {j : Int32} {i n : Nat} {cl : Cell} (hj : j.toInt = i) (hi : i < n) (hs : cl.slots.size = n) : ¬ (j < 0 ∨ cl.slots.size ≤ j.toNatClampNeg) := by
  obtain ⟨h1, h2⟩ := own_idx hj
  rintro (q | q)
  · exact h1 q
  · rw [h2, hs] at q; omega
theorem own_ldF {a : Addr} {n i : Nat} {ty : FieldType} {f : Nat → Value} {j : Int32} {v : Value} (A : own_AF Z h a ty n f) (hj : j.toInt = i) (hi : i < n) (hv : f i = v) : ∃ cl : Cell, Arr Z h a cl ty ∧ ¬ (j < 0 ∨ cl.slots.size ≤ j.toNatClampNeg) ∧ cl.slots[j.toNatClampNeg]? = some v := by
  obtain ⟨b, cl, Ar, hs, hf⟩ := A
  exact ⟨cl, Ar, own_inb hj hi hs, by rw [(own_idx hj).2, hf i hi, hv]⟩
theorem own_ldI (X : Stand p l e R s m args below meth c T locs cells slots) (hx : p.tables.exec = Jvm.exec) (hZ : Z.Warmed39 s.vm) (eT : T.heap = h) {a : Addr} {n i : Nat} {f : Nat → Int32} {j x : Int32} (A : own_AI Z h a .int n f) (hj : j.toInt = i) (hi : i < n) (hv : f i = x) {g : JFrame} (hg : g.method = m) {rest : List Value} (hs : g.stack = .int j :: .ref a :: rest) (hd : decode c.code g.pc = .ok (.iaload, 1)) :
    ∀ target, Steps p.tables e below (T.setTop { g with pc := g.pc + 1, stack := .int x :: rest }) target → Steps p.tables e below (T.setTop g) target := by
  obtain ⟨cl, Ar, h1, h2⟩ := own_ldF A hj hi (by rw [hv])
  exact X.iaload hx (by rw [eT]; exact Ar.1) (State.isArrayOf_alike hZ.alike Ar.2.1) Ar.2.2 h1 h2 hg hs hd
theorem own_ldC (X : Stand p l e R s m args below meth c T locs cells slots) (hx : p.tables.exec = Jvm.exec) (hZ : Z.Warmed39 s.vm) (eT : T.heap = h) {a : Addr} {n i : Nat} {f : Nat → Int32} {j x : Int32} (A : own_AI Z h a .char n f) (hj : j.toInt = i) (hi : i < n) (hv : f i = x) {g : JFrame} (hg : g.method = m) {rest : List Value} (hs : g.stack = .int j :: .ref a :: rest) (hd : decode c.code g.pc = .ok (.caload, 1)) :
    ∀ target, Steps p.tables e below (T.setTop { g with pc := g.pc + 1, stack := .int x :: rest }) target → Steps p.tables e below (T.setTop g) target := by
  obtain ⟨cl, Ar, h1, h2⟩ := own_ldF A hj hi (by rw [hv])
  exact X.caload hx (by rw [eT]; exact Ar.1) (State.isArrayOf_alike hZ.alike Ar.2.1) Ar.2.2 h1 h2 hg hs hd
theorem own_ldB (X : Stand p l e R s m args below meth c T locs cells slots) (hx : p.tables.exec = Jvm.exec) (hZ : Z.Warmed39 s.vm) (eT : T.heap = h) {a : Addr} {n i : Nat} {f : Nat → Int32} {j x : Int32} (A : own_AI Z h a .byte n f) (hj : j.toInt = i) (hi : i < n) (hv : f i = x) {g : JFrame} (hg : g.method = m) {rest : List Value} (hs : g.stack = .int j :: .ref a :: rest) (hd : decode c.code g.pc = .ok (.baload, 1)) :
    ∀ target, Steps p.tables e below (T.setTop { g with pc := g.pc + 1, stack := .int x :: rest }) target → Steps p.tables e below (T.setTop g) target := by
  obtain ⟨cl, Ar, h1, h2⟩ := own_ldF A hj hi (by rw [hv])
  exact X.baloadBytes hx (by rw [eT]; exact Ar.1) (State.isArrayOf_alike hZ.alike Ar.2.1) Ar.2.2 h1 h2 hg hs hd
theorem own_ldZ (X : Stand p l e R s m args below meth c T locs cells slots) (hx : p.tables.exec = Jvm.exec) (hZ : Z.Warmed39 s.vm) (eT : T.heap = h) {a : Addr} {n i : Nat} {f : Nat → Int32} {j x : Int32} (A : own_AI Z h a .boolean n f) (hj : j.toInt = i) (hi : i < n) (hv : f i = x) {g : JFrame} (hg : g.method = m) {rest : List Value} (hs : g.stack = .int j :: .ref a :: rest) (hd : decode c.code g.pc = .ok (.baload, 1)) :
    ∀ target, Steps p.tables e below (T.setTop { g with pc := g.pc + 1, stack := .int x :: rest }) target → Steps p.tables e below (T.setTop g) target := by
  obtain ⟨cl, Ar, h1, h2⟩ := own_ldF A hj hi (by rw [hv])
  exact X.baloadBooleans hx (by rw [eT]; exact Ar.1) (State.isArrayOf_alike hZ.alike Ar.2.1) Ar.2.2 h1 h2 hg hs hd
theorem own_ldJ (X : Stand p l e R s m args below meth c T locs cells slots) (hx : p.tables.exec = Jvm.exec) (hZ : Z.Warmed39 s.vm) (eT : T.heap = h) {a : Addr} {n i : Nat} {f : Nat → Int64} {j : Int32} {x : Int64} (A : own_AL Z h a n f) (hj : j.toInt = i) (hi : i < n) (hv : f i = x) {g : JFrame} (hg : g.method = m) {rest : List Value} (hs : g.stack = .int j :: .ref a :: rest) (hd : decode c.code g.pc = .ok (.laload, 1)) :
    ∀ target, Steps p.tables e below (T.setTop { g with pc := g.pc + 1, stack := .long x :: rest }) target → Steps p.tables e below (T.setTop g) target := by
  obtain ⟨cl, Ar, h1, h2⟩ := own_ldF A hj hi (by rw [hv])
  exact X.laload hx (by rw [eT]; exact Ar.1) (State.isArrayOf_alike hZ.alike Ar.2.1) Ar.2.2 h1 h2 hg hs hd
theorem own_ldR (X : Stand p l e R s m args below meth c T locs cells slots) (hx : p.tables.exec = Jvm.exec) (hZ : Z.Warmed39 s.vm) (eT : T.heap = h) {a : Addr} {n i : Nat} {ty : FieldType} {f : Nat → Value} {j : Int32} {v : Value} (hty : ty.isReference = true) (A : own_AF Z h a ty n f) (hj : j.toInt = i) (hi : i < n) (hv : f i = v) {g : JFrame} (hg : g.method = m) {rest : List Value} (hs : g.stack = .int j :: .ref a :: rest) (hd : decode c.code g.pc = .ok (.aaload, 1)) :
    ∀ target, Steps p.tables e below (T.setTop { g with pc := g.pc + 1, stack := v :: rest }) target → Steps p.tables e below (T.setTop g) target := by
  obtain ⟨cl, Ar, h1, h2⟩ := own_ldF A hj hi hv
  exact X.aaload hx (by rw [eT]; exact Ar.1) (State.isArrayOf_alike hZ.alike Ar.2.1) hty Ar.2.2 h1 h2 hg hs hd
theorem own_len (X : Stand p l e R s m args below meth c T locs cells slots) (hx : p.tables.exec = Jvm.exec) (hZ : Z.Warmed39 s.vm) (eT : T.heap = h) {a : Addr} {n : Nat} {ty : FieldType} {f : Nat → Value} {z : Int32} (A : own_AF Z h a ty n f) (hz : z.toInt = n) {g : JFrame} (hg : g.method = m) {rest : List Value} (hs : g.stack = .ref a :: rest) (hd : decode c.code g.pc = .ok (.arraylength, 1)) :
    ∀ target, Steps p.tables e below (T.setTop { g with pc := g.pc + 1, stack := .int z :: rest }) target → Steps p.tables e below (T.setTop g) target := by
  obtain ⟨b, cl, Ar, hs', hf⟩ := A
  intro target k
  refine X.arraylength hx (by rw [eT]; exact Ar.1) (State.isArrayOf_alike hZ.alike Ar.2.1) hg hs hd target ?_
  have q : cl.slots.size.toInt32 = z := by
    apply Int32.toInt_inj.mp
    rw [hs', len_toInt (by omega), hz]
  rw [q]; exact k
theorem own_stI (X : Stand p l e R s m args below meth c T locs cells slots) (hx : p.tables.exec = Jvm.exec) (hZ : Z.Warmed39 s.vm) (eT : T.heap = h) {a : Addr} {n i : Nat} {f : Nat → Int32} {j x : Int32} (A : own_AI Z h a .int n f) (hj : j.toInt = i) (hi : i < n) {g : JFrame} (hg : g.method = m) {rest : List Value} (hs : g.stack = .int x :: .int j :: .ref a :: rest) (hd : decode c.code g.pc = .ok (.iastore, 1)) :
    ∃ T' h', Stand p l e R s m args below meth c T' (locs ++ [⟨a, i⟩]) cells slots ∧ T'.heap = h' ∧ Wr h h' a i (.int x) ∧ own_AI Z h' a .int n (own_upd f i x) ∧ ∀ target, Steps p.tables e below (T'.setTop { g with pc := g.pc + 1, stack := rest }) target → Steps p.tables e below (T.setTop g) target := by
  obtain ⟨cl, Ar, h1, -⟩ := own_ldF A hj hi rfl
  obtain ⟨T', h', X', e', W, st⟩ := stI X hx hZ eT Ar h1 hg hs hd
  rw [(own_idx hj).2] at X' W
  exact ⟨T', h', X', e', W, A.wr hi W, st⟩
theorem own_stB (X : Stand p l e R s m args below meth c T locs cells slots) (hx : p.tables.exec = Jvm.exec) (hZ : Z.Warmed39 s.vm) (eT : T.heap = h) {a : Addr} {n i : Nat} {f : Nat → Int32} {j x : Int32} (A : own_AI Z h a .byte n f) (hj : j.toInt = i) (hi : i < n) {g : JFrame} (hg : g.method = m) {rest : List Value} (hs : g.stack = .int x :: .int j :: .ref a :: rest) (hd : decode c.code g.pc = .ok (.bastore, 1)) :
    ∃ T' h', Stand p l e R s m args below meth c T' (locs ++ [⟨a, i⟩]) cells slots ∧ T'.heap = h' ∧ Wr h h' a i (.int (x.toInt8.toInt32)) ∧ own_AI Z h' a .byte n (own_upd f i (x.toInt8.toInt32)) ∧ ∀ target, Steps p.tables e below (T'.setTop { g with pc := g.pc + 1, stack := rest }) target → Steps p.tables e below (T.setTop g) target := by
  obtain ⟨cl, Ar, h1, -⟩ := own_ldF A hj hi rfl
  obtain ⟨T', h', X', e', W, st⟩ := stB X hx hZ eT Ar h1 hg hs hd
  rw [(own_idx hj).2] at X' W
  exact ⟨T', h', X', e', W, A.wr hi W, st⟩
theorem own_stZ (X : Stand p l e R s m args below meth c T locs cells slots) (hx : p.tables.exec = Jvm.exec) (hZ : Z.Warmed39 s.vm) (eT : T.heap = h) {a : Addr} {n i : Nat} {f : Nat → Int32} {j x : Int32} (A : own_AI Z h a .boolean n f) (hj : j.toInt = i) (hi : i < n) {g : JFrame} (hg : g.method = m) {rest : List Value} (hs : g.stack = .int x :: .int j :: .ref a :: rest) (hd : decode c.code g.pc = .ok (.bastore, 1)) :
    ∃ T' h', Stand p l e R s m args below meth c T' (locs ++ [⟨a, i⟩]) cells slots ∧ T'.heap = h' ∧ Wr h h' a i (.int (x &&& 1)) ∧ own_AI Z h' a .boolean n (own_upd f i (x &&& 1)) ∧ ∀ target, Steps p.tables e below (T'.setTop { g with pc := g.pc + 1, stack := rest }) target → Steps p.tables e below (T.setTop g) target := by
  obtain ⟨cl, Ar, h1, -⟩ := own_ldF A hj hi rfl
  obtain ⟨T', h', X', e', W, st⟩ := stZ X hx hZ eT Ar h1 hg hs hd
  rw [(own_idx hj).2] at X' W
  exact ⟨T', h', X', e', W, A.wr hi W, st⟩
theorem own_stC (X : Stand p l e R s m args below meth c T locs cells slots) (hx : p.tables.exec = Jvm.exec) (hZ : Z.Warmed39 s.vm) (eT : T.heap = h) {a : Addr} {n i : Nat} {f : Nat → Int32} {j x : Int32} (A : own_AI Z h a .char n f) (hj : j.toInt = i) (hi : i < n) {g : JFrame} (hg : g.method = m) {rest : List Value} (hs : g.stack = .int x :: .int j :: .ref a :: rest) (hd : decode c.code g.pc = .ok (.castore, 1)) :
    ∃ T' h', Stand p l e R s m args below meth c T' (locs ++ [⟨a, i⟩]) cells slots ∧ T'.heap = h' ∧ Wr h h' a i (.int (x.toUInt32.toUInt16.toUInt32.toInt32)) ∧ own_AI Z h' a .char n (own_upd f i (x.toUInt32.toUInt16.toUInt32.toInt32)) ∧ ∀ target, Steps p.tables e below (T'.setTop { g with pc := g.pc + 1, stack := rest }) target → Steps p.tables e below (T.setTop g) target := by
  obtain ⟨cl, Ar, h1, -⟩ := own_ldF A hj hi rfl
  obtain ⟨T', h', X', e', W, st⟩ := stC X hx hZ eT Ar h1 hg hs hd
  rw [(own_idx hj).2] at X' W
  exact ⟨T', h', X', e', W, A.wr hi W, st⟩
theorem own_stJ (X : Stand p l e R s m args below meth c T locs cells slots) (hx : p.tables.exec = Jvm.exec) (hZ : Z.Warmed39 s.vm) (eT : T.heap = h) {a : Addr} {n i : Nat} {f : Nat → Int64} {j : Int32} {x : Int64} (A : own_AL Z h a n f) (hj : j.toInt = i) (hi : i < n) {g : JFrame} (hg : g.method = m) {rest : List Value} (hs : g.stack = .long x :: .int j :: .ref a :: rest) (hd : decode c.code g.pc = .ok (.lastore, 1)) :
    ∃ T' h', Stand p l e R s m args below meth c T' (locs ++ [⟨a, i⟩]) cells slots ∧ T'.heap = h' ∧ Wr h h' a i (.long x) ∧ own_AL Z h' a n (own_upd f i x) ∧ ∀ target, Steps p.tables e below (T'.setTop { g with pc := g.pc + 1, stack := rest }) target → Steps p.tables e below (T.setTop g) target := by
  obtain ⟨cl, Ar, h1, -⟩ := own_ldF A hj hi rfl
  obtain ⟨T', h', X', e', W, st⟩ := stJ X hx hZ eT Ar h1 hg hs hd
  rw [(own_idx hj).2] at X' W
  exact ⟨T', h', X', e', W, A.wr hi W, st⟩
theorem own_newF {a : Addr} {cA : ClassId} {ty : FieldType} {n : Int32} {i : Nat} (hn : n.toInt = i) (A : Arr Z h a (newA cA ty n) ty) : own_AF Z h a ty i (fun _ => defaultValue ty) := by
  obtain ⟨h1, h2⟩ := own_idx hn
  have := n.toInt_lt
  refine ⟨by omega, _, A, by rw [sz_new, h2], fun j hj => ?_⟩
  simp [newA, h2, hj]
theorem own_newI {a : Addr} {cA : ClassId} {ty : FieldType} {n : Int32} {i : Nat} (hn : n.toInt = i) (A : Arr Z h a (newA cA ty n) ty) (hd : defaultValue ty = .int 0) : own_AI Z h a ty i (fun _ => 0) :=
  (own_newF hn A).congr fun _ _ => hd
theorem own_newL {a : Addr} {cA : ClassId} {n : Int32} {i : Nat} (hn : n.toInt = i) (A : Arr Z h a (newA cA .long n) .long) : own_AL Z h a i (fun _ => 0) :=
  (own_newF hn A).congr fun _ _ => rfl
theorem own_Sta.keep {C n d : String} {v : Value} {ws : List Addr} (F : Sta Z h C n d v) (K : Keep h h' ws) (q : ∀ x ∈ ws, ∀ cl : Cell, h[x]? = some cl → cl.vm.isStatics = false) : Sta Z h' C n d v := by
  obtain ⟨cf, i, k, f, st, cell, h1, h2, h3, h4, h5, h6, h7⟩ := F
  refine ⟨cf, i, k, f, st, cell, h1, h2, h3, h4, K.2.1 st cell h5 (fun q' => ?_), h6, h7⟩
  have := q st q' cell h5
  rw [h6] at this; cases this
theorem own_selP {args : Array Value} {C : String} {y y' : MethodName} (hcls : y'.cls = y.cls) (hs : (Jvm.Cond.selects C y' y').before args s = true) (hi' : (Jvm.Cond.instanceMethod y').before args s = true) (hp : (Jvm.Cond.privateMethod y).before args s = true) (hi : (Jvm.Cond.instanceMethod y).before args s = true) (hy : y.cls ≠ "java/lang/invoke/MethodHandle" ∧ y.cls ≠ "java/lang/invoke/VarHandle") : (Jvm.Cond.selects y.cls y y).before args s = true := by
  obtain ⟨mk, methM, hnamed, -⟩ := Cond.instanceMethod_spec hi'
  obtain ⟨kr, hk, hni⟩ := notFace_of_selects hs mk hnamed
  have hc := findClass_of_methodNamed hnamed
  rw [hcls] at hc
  exact selects_self_of_private hc hk hni (Cond.privateMethod_at hp) hi hy
end Own
theorem d1_0 : decode prog_41_method_1_code 0 = .ok (.aload_n 0, 1) := by decide +kernel
theorem d1_1 : decode prog_41_method_1_code 1 = .ok (.invokespecial 1, 3) := by decide +kernel
theorem d1_4 : decode prog_41_method_1_code 4 = .ok (.aload_n 0, 1) := by decide +kernel
theorem d1_5 : decode prog_41_method_1_code 5 = .ok (.sipush 256, 3) := by decide +kernel
theorem d1_8 : decode prog_41_method_1_code 8 = .ok (.newarray .char, 2) := by decide +kernel
theorem d1_10 : decode prog_41_method_1_code 10 = .ok (.putfield 9, 3) := by decide +kernel
theorem d1_13 : decode prog_41_method_1_code 13 = .ok (.return_, 1) := by decide +kernel
theorem pn_1 : plainName "com/example/abak/abak/io/HeaderText" = true := by first | (simp [plainName, overriddenIn]; done) | decide +kernel
theorem ef_1 (m : MethodId) (x0 : Addr) : entryFrame m #[(.ref x0)] 1 = mkF m 0 #[.val (.ref x0)] [] := by first | (simp [entryFrame, mkF, argsToLocals, Value.category]; done) | rfl
def Q1 (Z : State) (t : Addr) (h0 : Heap) (n0 : Nat) (rv_ : Option Value) (h : Heap) (LL_ : List Loc) : Prop := rv_ = none ∧ Fr n0 LL_ ∧ Keep h0 h [t] ∧ Fld Z h t "com/example/abak/abak/io/HeaderText" "length" "I" (.int (0 : Int32)) ∧ Fld Z h t "com/example/abak/abak/io/HeaderText" "string" "Ljava/lang/String;" .null ∧ (∃ ca : Addr, Fld Z h t "com/example/abak/abak/io/HeaderText" "chars" "[C" (.ref ca) ∧ own_AI Z h ca .char 256 (fun _ => 0) ∧ n0 ≤ ca ∧ t ≠ ca)
set_option maxRecDepth 65536 in
set_option maxHeartbeats 40000000 in
theorem rm1 (l : Launch) (Z : State) (a0 : Array Value) (hw : ∀ d ∈ tables_1, d.before a0 Z = true) (ws : List Jvm.Cond) (t : Addr) (h0 : Heap) (n0 : Nat) (Z0 : n0 ≤ h0.size) (E_t : Exa Z h0 t "com/example/abak/abak/io/HeaderText") (F_t_chars : Fld Z h0 t "com/example/abak/abak/io/HeaderText" "chars" "[C" .null) (F_t_length : Fld Z h0 t "com/example/abak/abak/io/HeaderText" "length" "I" (.int (0 : Int32))) (F_t_string : Fld Z h0 t "com/example/abak/abak/io/HeaderText" "string" "Ljava/lang/String;" .null) (g_t : n0 ≤ t) :
    MetFree l (⟨"com/example/abak/abak/io/HeaderText", "<init>", "()V"⟩ : MethodName) (head1 (Jvm.Cond.code (⟨"com/example/abak/abak/io/HeaderText", "<init>", "()V"⟩ : MethodName) prog_41_method_1_code 1 none :: ws) ({ frames := 1, cells := 1, slots := 256, locals := 12 } : Room)) (fun aa UU => aa = #[(.ref t)] ∧ Z.Warmed39 UU.vm ∧ UU.heap = h0) (fun _ _ _ _ _ => True) (fun _ UU oo UV => ∃ vv LL, oo = .returned vv ∧ Q1 Z t h0 n0 vv UV.heap LL ∧ FrameEnd UU oo UV LL ({ frames := 1, cells := 1, slots := 256, locals := 12 } : Room).cells ({ frames := 1, cells := 1, slots := 256, locals := 12 } : Room).slots) := by
  refine MetFree.of_bodySF (plainFor_of_name pn_1) hisR ?_
  intro p e s m args below meth c s₁ Bd hml0 hP hK
  obtain ⟨rfl, hZ, hh⟩ := hP
  have hx := Bd.exec
  have hby := Bd.bytes
  have hml : c.maxLocals = 1 := hml0
  have hown : s.vm.findClass "com/example/abak/abak/io/HeaderText" = some m.cls := findClass_of_methodNamed Bd.named
  have hnm := (name_of_methodNamed Bd.named Bd.method).1
  have X0 : Stand p l e ({ frames := 1, cells := 1, slots := 256, locals := 12 } : Room) s m #[(.ref t)] below meth c s₁ [] 0 0 := Stand.of_body Bd
  have e0 : s₁.heap = h0 := by rw [← hh, Bd.state]; rfl
  have N0 := Fr.nil n0
  have k0 : ∀ tg_, Steps p.tables e below (s₁.setTop (mkF m 0 #[.val (.ref t)] [])) tg_ → Steps p.tables e below (s₁.setTop (entryFrame m #[(.ref t)] 1)) tg_ := fun tg_ k => castTop (ef_1 m t) k
  obtain ⟨T1, X1, e1, st1⟩ := initO X0 hx hZ hown (hw _ (List.mem_of_getElem? (i := 6) rfl)) (hw _ (List.mem_of_getElem? (i := 7) rfl)) (hw _ (List.mem_of_getElem? (i := 8) rfl)) e0 (g := (mkF m 1 #[.val (.ref t)] [(.ref t)])) rfl (by rw [hml]; rfl) rfl (hb hby d1_1) (by decide) (W := 0) (by show 2 * 0 + _ ≤ _; exact Nat.le_of_eq rfl) (by decide)
  obtain ⟨T2, h2, kA2, X2, e2, E2, A2, st2⟩ := newP X1 hx hZ (hw _ (List.mem_of_getElem? (i := 9) rfl)) e1 (g := (mkF m 8 #[.val (.ref t)] [(.int (256 : Int32)), (.ref t)])) rfl (hb hby d1_8) rfl (by decide) (cap := 256) (by decide) (by decide) (by decide) (by decide)
  obtain ⟨b2, g2⟩ : ∃ z, z = h0.size := ⟨_, rfl⟩
  rw [← g2] at A2 st2
  have ne_t_b2 : t ≠ b2 := Nat.ne_of_lt (Nat.lt_of_lt_of_le (E_t).lt (Nat.le_of_eq g2.symm))
  have ge_b2 : n0 ≤ b2 := Nat.le_trans Z0 (Nat.le_of_eq g2.symm)
  have sz_b2 : h0.size ≤ b2 := Nat.le_trans (Keep.refl h0 [t]).1 (Nat.le_of_eq g2.symm)
  have V2 : own_AI Z h2 b2 .char 256 (fun _ => 0) := own_newI (by decide : (256 : Int32).toInt = ((256 : Nat) : Int)) A2 rfl
  have f3 := (F_t_chars.keep ((Keep.refl _ []).ext E2) nin0)
  have f4 := (E_t.keep ((Keep.refl _ []).ext E2))
  obtain ⟨T5, h5, X5, e5, W5, st5⟩ := putF X2 hx hZ hown (host := "") (Or.inl (hw _ (List.mem_of_getElem? (i := 10) rfl))) Via.refl e2 f3 f4 (Or.inl (hw _ (List.mem_of_getElem? (i := 11) rfl))) (hw _ (List.mem_of_getElem? (i := 1) rfl)) (ty := (.array .char)) (by decide) rfl rfl (g := (mkF m 10 #[.val (.ref t)] [(.ref b2), (.ref t)])) rfl rfl (hb hby d1_10)
  have N5 := Fr.snoc X5 N0 g_t
  have F5 := Fld.same W5 f3
  have k6 : ∀ tg_, Steps p.tables e below (T5.setTop (mkF m 13 #[.val (.ref t)] [])) tg_ → Steps p.tables e below (s₁.setTop (entryFrame m #[(.ref t)] 1)) tg_ := by
    intro tg_ kt
    refine k0 tg_ ?_
    refine XS.aloadN X0.here hx rfl (hb hby d1_0) rfl rfl ?_
    show Steps p.tables e below (s₁.setTop (mkF m 1 #[.val (.ref t)] [(.ref t)])) _
    refine st1 _ ?_
    show Steps p.tables e below (T1.setTop (mkF m 4 #[.val (.ref t)] [])) _
    refine XS.aloadN X1.here hx rfl (hb hby d1_4) rfl rfl ?_
    show Steps p.tables e below (T1.setTop (mkF m 5 #[.val (.ref t)] [(.ref t)])) _
    refine XS.sipush X1.here hx rfl (hb hby d1_5) ?_
    show Steps p.tables e below (T1.setTop (mkF m 8 #[.val (.ref t)] [(.int (256 : Int32)), (.ref t)])) _
    refine st2 _ ?_
    show Steps p.tables e below (T2.setTop (mkF m 10 #[.val (.ref t)] [(.ref b2), (.ref t)])) _
    refine st5 _ ?_
    show Steps p.tables e below (T5.setTop (mkF m 13 #[.val (.ref t)] [])) _
    exact kt
  have f7 := (((Keep.refl h0 [t]).trans ((Keep.refl _ []).ext E2) all0).trans (Keep.of_wr W5) (allS (Or.inl (List.mem_of_getElem? (i := 0) rfl)) all0))
  have f8 := (Fld.other W5 (F_t_length.keep ((Keep.refl _ []).ext E2) nin0) (Or.inr (slot_ne (Or.inl (hw _ (List.mem_of_getElem? (i := 18) rfl))) (Or.inl (hw _ (List.mem_of_getElem? (i := 11) rfl))) (by decide) (t := .int) (t' := (.array .char)) (by decide) (by decide))))
  have f9 := (Fld.other W5 (F_t_string.keep ((Keep.refl _ []).ext E2) nin0) (Or.inr (slot_ne (Or.inl (hw _ (List.mem_of_getElem? (i := 29) rfl))) (Or.inl (hw _ (List.mem_of_getElem? (i := 11) rfl))) (by decide) (t := (.object "java/lang/String")) (t' := (.array .char)) (by decide) (by decide))))
  have f10 := (V2.keep (Keep.of_wr W5) (ninS (Ne.symm ne_t_b2) nin0))
  obtain ⟨fs, hr, hrun, hended, hW, hsame⟩ := X5.leave (v := none) (fun _ => rfl)
  refine ⟨_, _, k6 _ (X5.returnOut hx Bd.returns (hb hby d1_13) hr), hrun, hended, _, _, rfl, ?_, ⟨_, rfl⟩, hW, hsame.mono (by decide) (by decide)⟩
  show Q1 Z t h0 n0 _ T5.heap _
  rw [e5]
  exact ⟨rfl, N5, f7, f8, f9, ⟨b2, F5, f10, ge_b2, ne_t_b2⟩⟩
theorem d5_0 : decode prog_41_method_12_code 0 = .ok (.aload_n 0, 1) := by decide +kernel
theorem d5_1 : decode prog_41_method_12_code 1 = .ok (.getfield 9, 3) := by decide +kernel
theorem d5_4 : decode prog_41_method_12_code 4 = .ok (.arraylength, 1) := by decide +kernel
theorem d5_5 : decode prog_41_method_12_code 5 = .ok (.aload_n 0, 1) := by decide +kernel
theorem d5_6 : decode prog_41_method_12_code 6 = .ok (.getfield 13, 3) := by decide +kernel
theorem d5_9 : decode prog_41_method_12_code 9 = .ok (.isub, 1) := by decide +kernel
theorem d5_10 : decode prog_41_method_12_code 10 = .ok (.iload_n 1, 1) := by decide +kernel
theorem d5_11 : decode prog_41_method_12_code 11 = .ok (.if_icmp .ge 30, 3) := by decide +kernel
theorem d5_41 : decode prog_41_method_12_code 41 = .ok (.return_, 1) := by decide +kernel
theorem pn_5 : plainName "com/example/abak/abak/io/HeaderText" = true := by first | (simp [plainName, overriddenIn]; done) | decide +kernel
theorem ef_5 (m : MethodId) (x0 : Addr) (x1 : Int32) : entryFrame m #[(.ref x0), (.int x1)] 2 = mkF m 0 #[.val (.ref x0), .val (.int x1)] [] := by first | (simp [entryFrame, mkF, argsToLocals, Value.category]; done) | rfl
def Q5 (Z : State) (t : Addr) (mo : Int32) (ca : Addr) (ln : Int32) (k : Nat) (f : Nat → Int32) (h0 : Heap) (n0 : Nat) (rv_ : Option Value) (h : Heap) (LL_ : List Loc) : Prop := rv_ = none ∧ Fr n0 LL_ ∧ h = h0
set_option maxRecDepth 65536 in
set_option maxHeartbeats 40000000 in
theorem rm5 (l : Launch) (Z : State) (a0 : Array Value) (hw : ∀ d ∈ tables_1, d.before a0 Z = true) (ws : List Jvm.Cond) (t : Addr) (mo : Int32) (ca : Addr) (ln : Int32) (k : Nat) (f : Nat → Int32) (h0 : Heap) (n0 : Nat) (F_t_chars : Fld Z h0 t "com/example/abak/abak/io/HeaderText" "chars" "[C" (.ref ca)) (F_t_length : Fld Z h0 t "com/example/abak/abak/io/HeaderText" "length" "I" (.int ln)) (V_ca : own_AI Z h0 ca .char 256 f) (hmo : mo = (1 : Int32)) (hl : ln.toInt = (k : Int)) (hk : k < 200) :
    MetFree l (⟨"com/example/abak/abak/io/HeaderText", "reserve", "(I)V"⟩ : MethodName) (head1 (Jvm.Cond.code (⟨"com/example/abak/abak/io/HeaderText", "reserve", "(I)V"⟩ : MethodName) prog_41_method_12_code 2 none :: ws) ({ frames := 0, cells := 0, slots := 0, locals := 0 } : Room)) (fun aa UU => aa = #[(.ref t), (.int mo)] ∧ Z.Warmed39 UU.vm ∧ UU.heap = h0) (fun _ _ _ _ _ => True) (fun _ UU oo UV => ∃ vv LL, oo = .returned vv ∧ Q5 Z t mo ca ln k f h0 n0 vv UV.heap LL ∧ FrameEnd UU oo UV LL ({ frames := 0, cells := 0, slots := 0, locals := 0 } : Room).cells ({ frames := 0, cells := 0, slots := 0, locals := 0 } : Room).slots) := by
  refine MetFree.of_bodySF (plainFor_of_name pn_5) hisR ?_
  intro p e s m args below meth c s₁ Bd hml0 hP hK
  obtain ⟨rfl, hZ, hh⟩ := hP
  have hx := Bd.exec
  have hby := Bd.bytes
  have hml : c.maxLocals = 2 := hml0
  have hown : s.vm.findClass "com/example/abak/abak/io/HeaderText" = some m.cls := findClass_of_methodNamed Bd.named
  have hnm := (name_of_methodNamed Bd.named Bd.method).1
  have X0 : Stand p l e ({ frames := 0, cells := 0, slots := 0, locals := 0 } : Room) s m #[(.ref t), (.int mo)] below meth c s₁ [] 0 0 := Stand.of_body Bd
  have e0 : s₁.heap = h0 := by rw [← hh, Bd.state]; rfl
  have N0 := Fr.nil n0
  have k0 : ∀ tg_, Steps p.tables e below (s₁.setTop (mkF m 0 #[.val (.ref t), .val (.int mo)] [])) tg_ → Steps p.tables e below (s₁.setTop (entryFrame m #[(.ref t), (.int mo)] 2)) tg_ := fun tg_ k => castTop (ef_5 m t mo) k
  obtain ⟨T11, X11, e11, st11⟩ := getF X0 hx hZ hown (host := "") (Or.inl (hw _ (List.mem_of_getElem? (i := 10) rfl))) Via.refl e0 F_t_chars (g := (mkF m 1 #[.val (.ref t), .val (.int mo)] [(.ref t)])) rfl rfl (hb hby d5_1)
  obtain ⟨T12, X12, e12, st12⟩ := getF X11 hx hZ hown (host := "") (Or.inl (hw _ (List.mem_of_getElem? (i := 17) rfl))) Via.refl e11 F_t_length (g := (mkF m 6 #[.val (.ref t), .val (.int mo)] [(.ref t), (.int (256 : Int32))])) rfl rfl (hb hby d5_6)
  have hc11_18 : ¬ (((256 : Int32) - ln) < mo) := (by
      have hmoi : mo.toInt = 1 := by rw [hmo]; decide
      have ar13 : (256 : Int32).toInt = 256 := by decide
      have ar14 := rng32 ln
      have ar15 := rng32 ((256 : Int32) - ln)
      first | have ar16 : ((256 : Int32) - ln).toInt = 256 - ln.toInt := (by have qw := c_isub (256 : Int32) ln; omega) | (have ar16 := c_isub (256 : Int32) ln; skip)
      have ar17 := rng32 mo
      exact fun qq_ => absurd (Int32.lt_iff_toInt_lt.mp qq_) (by omega))
  have k19 : ∀ tg_, Steps p.tables e below (T12.setTop (mkF m 41 #[.val (.ref t), .val (.int mo)] [])) tg_ → Steps p.tables e below (s₁.setTop (entryFrame m #[(.ref t), (.int mo)] 2)) tg_ := by
    intro tg_ kt
    refine k0 tg_ ?_
    refine XS.aloadN X0.here hx rfl (hb hby d5_0) rfl rfl ?_
    show Steps p.tables e below (s₁.setTop (mkF m 1 #[.val (.ref t), .val (.int mo)] [(.ref t)])) _
    refine st11 _ ?_
    show Steps p.tables e below (T11.setTop (mkF m 4 #[.val (.ref t), .val (.int mo)] [(.ref ca)])) _
    refine own_len X11 hx hZ e11 V_ca (z := (256 : Int32)) (by decide) (g := (mkF m 4 #[.val (.ref t), .val (.int mo)] [(.ref ca)])) rfl rfl (hb hby d5_4) _ ?_
    show Steps p.tables e below (T11.setTop (mkF m 5 #[.val (.ref t), .val (.int mo)] [(.int (256 : Int32))])) _
    refine XS.aloadN X11.here hx rfl (hb hby d5_5) rfl rfl ?_
    show Steps p.tables e below (T11.setTop (mkF m 6 #[.val (.ref t), .val (.int mo)] [(.ref t), (.int (256 : Int32))])) _
    refine st12 _ ?_
    show Steps p.tables e below (T12.setTop (mkF m 9 #[.val (.ref t), .val (.int mo)] [(.int ln), (.int (256 : Int32))])) _
    refine XS.isub X12.here hx rfl (hb hby d5_9) rfl ?_
    show Steps p.tables e below (T12.setTop (mkF m 10 #[.val (.ref t), .val (.int mo)] [(.int ((256 : Int32) - ln))])) _
    refine XS.iloadN X12.here hx rfl (hb hby d5_10) rfl ?_
    show Steps p.tables e below (T12.setTop (mkF m 11 #[.val (.ref t), .val (.int mo)] [(.int mo), (.int ((256 : Int32) - ln))])) _
    refine XS.icmpYes X12.here hx rfl (pc0 := 11) (pc' := 41) rfl (hb hby d5_11) rfl (flt hc11_18).2.1 (by decide) (by decide) ?_
    show Steps p.tables e below (T12.setTop (mkF m 41 #[.val (.ref t), .val (.int mo)] [])) _
    exact kt
  obtain ⟨fs, hr, hrun, hended, hW, hsame⟩ := X12.leave (v := none) (fun _ => rfl)
  refine ⟨_, _, k19 _ (X12.returnOut hx Bd.returns (hb hby d5_41) hr), hrun, hended, _, _, rfl, ?_, ⟨_, rfl⟩, hW, hsame.mono (by decide) (by decide)⟩
  show Q5 Z t mo ca ln k f h0 n0 _ T12.heap _
  rw [e12]
  exact ⟨rfl, N0, rfl⟩
theorem pd_3 : parseMethodDescriptor "(I)V" = some ⟨[.int], none⟩ := by decide +kernel
theorem d4_0 : decode prog_41_method_5_code 0 = .ok (.aload_n 0, 1) := by decide +kernel
theorem d4_1 : decode prog_41_method_5_code 1 = .ok (.iconst 1, 1) := by decide +kernel
theorem d4_2 : decode prog_41_method_5_code 2 = .ok (.invokevirtual 21, 3) := by decide +kernel
theorem d4_5 : decode prog_41_method_5_code 5 = .ok (.aload_n 0, 1) := by decide +kernel
theorem d4_6 : decode prog_41_method_5_code 6 = .ok (.getfield 9, 3) := by decide +kernel
theorem d4_9 : decode prog_41_method_5_code 9 = .ok (.aload_n 0, 1) := by decide +kernel
theorem d4_10 : decode prog_41_method_5_code 10 = .ok (.dup, 1) := by decide +kernel
theorem d4_11 : decode prog_41_method_5_code 11 = .ok (.getfield 13, 3) := by decide +kernel
theorem d4_14 : decode prog_41_method_5_code 14 = .ok (.dup_x1, 1) := by decide +kernel
theorem d4_15 : decode prog_41_method_5_code 15 = .ok (.iconst 1, 1) := by decide +kernel
theorem d4_16 : decode prog_41_method_5_code 16 = .ok (.iadd, 1) := by decide +kernel
theorem d4_17 : decode prog_41_method_5_code 17 = .ok (.putfield 13, 3) := by decide +kernel
theorem d4_20 : decode prog_41_method_5_code 20 = .ok (.iload_n 1, 1) := by decide +kernel
theorem d4_21 : decode prog_41_method_5_code 21 = .ok (.castore, 1) := by decide +kernel
theorem d4_22 : decode prog_41_method_5_code 22 = .ok (.aload_n 0, 1) := by decide +kernel
theorem d4_23 : decode prog_41_method_5_code 23 = .ok (.aconst_null, 1) := by decide +kernel
theorem d4_24 : decode prog_41_method_5_code 24 = .ok (.putfield 17, 3) := by decide +kernel
theorem d4_27 : decode prog_41_method_5_code 27 = .ok (.return_, 1) := by decide +kernel
theorem pn_4 : plainName "com/example/abak/abak/io/HeaderText" = true := by first | (simp [plainName, overriddenIn]; done) | decide +kernel
theorem ef_4 (m : MethodId) (x0 : Addr) (x1 : Int32) : entryFrame m #[(.ref x0), (.int x1)] 2 = mkF m 0 #[.val (.ref x0), .val (.int x1)] [] := by first | (simp [entryFrame, mkF, argsToLocals, Value.category]; done) | rfl
def Q4 (Z : State) (t : Addr) (x : Int32) (ca : Addr) (ln : Int32) (k : Nat) (f : Nat → Int32) (h0 : Heap) (n0 : Nat) (rv_ : Option Value) (h : Heap) (LL_ : List Loc) : Prop := rv_ = none ∧ Fr n0 LL_ ∧ Keep h0 h [t, ca] ∧ Fld Z h t "com/example/abak/abak/io/HeaderText" "chars" "[C" (.ref ca) ∧ Fld Z h t "com/example/abak/abak/io/HeaderText" "length" "I" (.int (ln + (1 : Int32))) ∧ Fld Z h t "com/example/abak/abak/io/HeaderText" "string" "Ljava/lang/String;" .null ∧ own_AI Z h ca .char 256 (own_upd f k (x.toUInt32.toUInt16.toUInt32.toInt32))
set_option maxRecDepth 65536 in
set_option maxHeartbeats 40000000 in
theorem rm4 (l : Launch) (Z : State) (a0 : Array Value) (hw : ∀ d ∈ tables_1, d.before a0 Z = true) (ws : List Jvm.Cond) (t : Addr) (x : Int32) (ca : Addr) (ln : Int32) (k : Nat) (f : Nat → Int32) (h0 : Heap) (n0 : Nat) (Z0 : n0 ≤ h0.size) (E_t : Exa Z h0 t "com/example/abak/abak/io/HeaderText") (F_t_chars : Fld Z h0 t "com/example/abak/abak/io/HeaderText" "chars" "[C" (.ref ca)) (F_t_length : Fld Z h0 t "com/example/abak/abak/io/HeaderText" "length" "I" (.int ln)) (F_t_string : Fld Z h0 t "com/example/abak/abak/io/HeaderText" "string" "Ljava/lang/String;" .null) (V_ca : own_AI Z h0 ca .char 256 f) (g_t : n0 ≤ t) (g_ca : n0 ≤ ca) (ne_t_ca : t ≠ ca) (hl : ln.toInt = (k : Int)) (hk : k < 200) :
    MetFree l (⟨"com/example/abak/abak/io/HeaderText", "add", "(C)V"⟩ : MethodName) (head1 (Jvm.Cond.code (⟨"com/example/abak/abak/io/HeaderText", "add", "(C)V"⟩ : MethodName) prog_41_method_5_code 2 none :: ws) ({ frames := 1, cells := 0, slots := 0, locals := 13 } : Room)) (fun aa UU => aa = #[(.ref t), (.int x)] ∧ Z.Warmed39 UU.vm ∧ UU.heap = h0) (fun _ _ _ _ _ => True) (fun _ UU oo UV => ∃ vv LL, oo = .returned vv ∧ Q4 Z t x ca ln k f h0 n0 vv UV.heap LL ∧ FrameEnd UU oo UV LL ({ frames := 1, cells := 0, slots := 0, locals := 13 } : Room).cells ({ frames := 1, cells := 0, slots := 0, locals := 13 } : Room).slots) := by
  refine MetFree.of_bodySF (plainFor_of_name pn_4) hisR ?_
  intro p e s m args below meth c s₁ Bd hml0 hP hK
  obtain ⟨rfl, hZ, hh⟩ := hP
  have hx := Bd.exec
  have hby := Bd.bytes
  have hml : c.maxLocals = 2 := hml0
  have hown : s.vm.findClass "com/example/abak/abak/io/HeaderText" = some m.cls := findClass_of_methodNamed Bd.named
  have hnm := (name_of_methodNamed Bd.named Bd.method).1
  have X0 : Stand p l e ({ frames := 1, cells := 0, slots := 0, locals := 13 } : Room) s m #[(.ref t), (.int x)] below meth c s₁ [] 0 0 := Stand.of_body Bd
  have e0 : s₁.heap = h0 := by rw [← hh, Bd.state]; rfl
  have N0 := Fr.nil n0
  have k0 : ∀ tg_, Steps p.tables e below (s₁.setTop (mkF m 0 #[.val (.ref t), .val (.int x)] [])) tg_ → Steps p.tables e below (s₁.setTop (entryFrame m #[(.ref t), (.int x)] 2)) tg_ := fun tg_ k => castTop (ef_4 m t x) k
  obtain ⟨cq20, q20, q20'⟩ := Exa.cell E_t
  obtain ⟨_, _, ⟨T20, L20, kc20, nc20⟩, -, X20, ⟨Lc20, hQ20, l20, y20, z20⟩, st20⟩ := X0.privateBack hx (y := (⟨"com/example/abak/abak/io/HeaderText", "reserve", "(I)V"⟩ : MethodName)) hown (mvT hZ (hw _ (List.mem_of_getElem? (i := 24) rfl))) (mvT hZ (hw _ (List.mem_of_getElem? (i := 25) rfl))) (own_selP (y' := (⟨"com/example/abak/abak/io/HeaderText", "endsWith", "(C)Z"⟩ : MethodName)) rfl (mvT hZ (hw _ (List.mem_of_getElem? (i := 15) rfl))) (mvT hZ (hw _ (List.mem_of_getElem? (i := 14) rfl))) (mvP hZ (hw _ (List.mem_of_getElem? (i := 26) rfl))) (mvT hZ (hw _ (List.mem_of_getElem? (i := 25) rfl))) (by decide)) (Cond.privateMethod_at (mvP hZ (hw _ (List.mem_of_getElem? (i := 26) rfl)) (args := #[]))) (mvT hZ (hw _ (List.mem_of_getElem? (i := 27) rfl))) (by decide) (backOf (W := 0) (rm5 l Z a0 hw [] t (1 : Int32) ca ln k f h0 n0 F_t_chars F_t_length V_ca rfl hl hk) hZ (hw _ (List.mem_of_getElem? (i := 27) rfl)) (hw _ (List.mem_of_getElem? (i := 2) rfl)) (by decide) (by decide)) (g := (mkF m 2 #[.val (.ref t), .val (.int x)] [(.int (1 : Int32)), (.ref t)])) rfl (by rw [hml]; rfl) (Steps.refl _) (a := t) (by rw [e0]; exact q20) q20' (argsL := [(.int (1 : Int32))]) (rest := []) (lenOf pd_3 rfl) rfl (by show 2 * 0 + _ ≤ _; exact Nat.le_of_eq rfl) (hb hby d4_2) (fun _ _ => ⟨rfl, e0, (by decide : 0 + 0 ≤ _), (by decide : 0 + 0 ≤ _)⟩)
  dsimp only [Pt.U, Pt.locs, Pt.cells, Pt.slots] at X20 l20 y20 z20 st20 hQ20
  subst l20 y20 z20
  obtain ⟨rfl, Nq20, eq20⟩ := hQ20
  have N20 := Fr.app N0 Nq20
  obtain ⟨T21, X21, e21, st21⟩ := getF X20 hx hZ hown (host := "") (Or.inl (hw _ (List.mem_of_getElem? (i := 10) rfl))) Via.refl eq20 F_t_chars (g := (mkF m 6 #[.val (.ref t), .val (.int x)] [(.ref t)])) rfl rfl (hb hby d4_6)
  obtain ⟨T22, X22, e22, st22⟩ := getF X21 hx hZ hown (host := "") (Or.inl (hw _ (List.mem_of_getElem? (i := 17) rfl))) Via.refl e21 F_t_length (g := (mkF m 11 #[.val (.ref t), .val (.int x)] [(.ref t), (.ref t), (.ref ca)])) rfl rfl (hb hby d4_11)
  obtain ⟨T23, h23, X23, e23, W23, st23⟩ := putF X22 hx hZ hown (host := "") (Or.inl (hw _ (List.mem_of_getElem? (i := 17) rfl))) Via.refl e22 F_t_length E_t (Or.inl (hw _ (List.mem_of_getElem? (i := 18) rfl))) (hw _ (List.mem_of_getElem? (i := 1) rfl)) (ty := .int) (by decide) rfl rfl (g := (mkF m 17 #[.val (.ref t), .val (.int x)] [(.int (ln + (1 : Int32))), (.ref t), (.int ln), (.ref ca)])) rfl rfl (hb hby d4_17)
  have N23 := Fr.snoc X23 N20 g_t
  have F23 := Fld.same W23 F_t_length
  have f24 := (V_ca.keep (Keep.of_wr W23) (ninS (Ne.symm ne_t_ca) nin0))
  obtain ⟨T25, h25, X25, e25, W25, V25, st25⟩ := own_stC X23 hx hZ e23 f24 (i := k) hl (by omega) (g := (mkF m 21 #[.val (.ref t), .val (.int x)] [(.int x), (.int ln), (.ref ca)])) rfl rfl (hb hby d4_21)
  have N25 := Fr.snoc X25 N23 g_ca
  have f26 := ((Fld.other W23 F_t_string (Or.inr (slot_ne (Or.inl (hw _ (List.mem_of_getElem? (i := 29) rfl))) (Or.inl (hw _ (List.mem_of_getElem? (i := 18) rfl))) (by decide) (t := (.object "java/lang/String")) (t' := .int) (by decide) (by decide)))).keep (Keep.of_wr W25) (ninS ne_t_ca nin0))
  have f27 := ((E_t.keep (Keep.of_wr W23)).keep (Keep.of_wr W25))
  obtain ⟨T28, h28, X28, e28, W28, st28⟩ := putF X25 hx hZ hown (host := "") (Or.inl (hw _ (List.mem_of_getElem? (i := 28) rfl))) Via.refl e25 f26 f27 (Or.inl (hw _ (List.mem_of_getElem? (i := 29) rfl))) (hw _ (List.mem_of_getElem? (i := 1) rfl)) (ty := (.object "java/lang/String")) (by decide) rfl rfl (g := (mkF m 24 #[.val (.ref t), .val (.int x)] [.null, (.ref t)])) rfl rfl (hb hby d4_24)
  have N28 := Fr.snoc X28 N25 g_t
  have F28 := Fld.same W28 f26
  have k29 : ∀ tg_, Steps p.tables e below (T28.setTop (mkF m 27 #[.val (.ref t), .val (.int x)] [])) tg_ → Steps p.tables e below (s₁.setTop (entryFrame m #[(.ref t), (.int x)] 2)) tg_ := by
    intro tg_ kt
    refine k0 tg_ ?_
    refine XS.aloadN X0.here hx rfl (hb hby d4_0) rfl rfl ?_
    show Steps p.tables e below (s₁.setTop (mkF m 1 #[.val (.ref t), .val (.int x)] [(.ref t)])) _
    refine XS.iconst X0.here hx rfl (hb hby d4_1) ?_
    show Steps p.tables e below (s₁.setTop (mkF m 2 #[.val (.ref t), .val (.int x)] [(.int (1 : Int32)), (.ref t)])) _
    refine st20.trans ?_
    show Steps p.tables e below (T20.setTop (mkF m 5 #[.val (.ref t), .val (.int x)] [])) _
    refine XS.aloadN X20.here hx rfl (hb hby d4_5) rfl rfl ?_
    show Steps p.tables e below (T20.setTop (mkF m 6 #[.val (.ref t), .val (.int x)] [(.ref t)])) _
    refine st21 _ ?_
    show Steps p.tables e below (T21.setTop (mkF m 9 #[.val (.ref t), .val (.int x)] [(.ref ca)])) _
    refine XS.aloadN X21.here hx rfl (hb hby d4_9) rfl rfl ?_
    show Steps p.tables e below (T21.setTop (mkF m 10 #[.val (.ref t), .val (.int x)] [(.ref t), (.ref ca)])) _
    refine XS.dup X21.here hx rfl (hb hby d4_10) rfl rfl ?_
    show Steps p.tables e below (T21.setTop (mkF m 11 #[.val (.ref t), .val (.int x)] [(.ref t), (.ref t), (.ref ca)])) _
    refine st22 _ ?_
    show Steps p.tables e below (T22.setTop (mkF m 14 #[.val (.ref t), .val (.int x)] [(.int ln), (.ref t), (.ref ca)])) _
    refine XS.dupX1 X22.here hx rfl (hb hby d4_14) rfl rfl rfl ?_
    show Steps p.tables e below (T22.setTop (mkF m 15 #[.val (.ref t), .val (.int x)] [(.int ln), (.ref t), (.int ln), (.ref ca)])) _
    refine XS.iconst X22.here hx rfl (hb hby d4_15) ?_
    show Steps p.tables e below (T22.setTop (mkF m 16 #[.val (.ref t), .val (.int x)] [(.int (1 : Int32)), (.int ln), (.ref t), (.int ln), (.ref ca)])) _
    refine XS.iadd X22.here hx rfl (hb hby d4_16) rfl ?_
    show Steps p.tables e below (T22.setTop (mkF m 17 #[.val (.ref t), .val (.int x)] [(.int (ln + (1 : Int32))), (.ref t), (.int ln), (.ref ca)])) _
    refine st23 _ ?_
    show Steps p.tables e below (T23.setTop (mkF m 20 #[.val (.ref t), .val (.int x)] [(.int ln), (.ref ca)])) _
    refine XS.iloadN X23.here hx rfl (hb hby d4_20) rfl ?_
    show Steps p.tables e below (T23.setTop (mkF m 21 #[.val (.ref t), .val (.int x)] [(.int x), (.int ln), (.ref ca)])) _
    refine st25 _ ?_
    show Steps p.tables e below (T25.setTop (mkF m 22 #[.val (.ref t), .val (.int x)] [])) _
    refine XS.aloadN X25.here hx rfl (hb hby d4_22) rfl rfl ?_
    show Steps p.tables e below (T25.setTop (mkF m 23 #[.val (.ref t), .val (.int x)] [(.ref t)])) _
    refine XS.aconstNull X25.here hx rfl (hb hby d4_23) ?_
    show Steps p.tables e below (T25.setTop (mkF m 24 #[.val (.ref t), .val (.int x)] [.null, (.ref t)])) _
    refine st28 _ ?_
    show Steps p.tables e below (T28.setTop (mkF m 27 #[.val (.ref t), .val (.int x)] [])) _
    exact kt
  have f30 := ((((Keep.refl h0 [t, ca]).trans (Keep.of_wr W23) (allS (Or.inl (List.mem_of_getElem? (i := 0) rfl)) all0)).trans (Keep.of_wr W25) (allS (Or.inl (List.mem_of_getElem? (i := 1) rfl)) all0)).trans (Keep.of_wr W28) (allS (Or.inl (List.mem_of_getElem? (i := 0) rfl)) all0))
  have f31 := (Fld.other W28 ((Fld.other W23 F_t_chars (Or.inr (slot_ne (Or.inl (hw _ (List.mem_of_getElem? (i := 11) rfl))) (Or.inl (hw _ (List.mem_of_getElem? (i := 18) rfl))) (by decide) (t := (.array .char)) (t' := .int) (by decide) (by decide)))).keep (Keep.of_wr W25) (ninS ne_t_ca nin0)) (Or.inr (slot_ne (Or.inl (hw _ (List.mem_of_getElem? (i := 11) rfl))) (Or.inl (hw _ (List.mem_of_getElem? (i := 29) rfl))) (by decide) (t := (.array .char)) (t' := (.object "java/lang/String")) (by decide) (by decide))))
  have f32 := (Fld.other W28 (F23.keep (Keep.of_wr W25) (ninS ne_t_ca nin0)) (Or.inr (slot_ne (Or.inl (hw _ (List.mem_of_getElem? (i := 18) rfl))) (Or.inl (hw _ (List.mem_of_getElem? (i := 29) rfl))) (by decide) (t := .int) (t' := (.object "java/lang/String")) (by decide) (by decide))))
  have f33 := (V25.keep (Keep.of_wr W28) (ninS (Ne.symm ne_t_ca) nin0))
  obtain ⟨fs, hr, hrun, hended, hW, hsame⟩ := X28.leave (v := none) (fun _ => rfl)
  refine ⟨_, _, k29 _ (X28.returnOut hx Bd.returns (hb hby d4_27) hr), hrun, hended, _, _, rfl, ?_, ⟨_, rfl⟩, hW, hsame.mono (by decide) (by decide)⟩
  show Q4 Z t x ca ln k f h0 n0 _ T28.heap _
  rw [e28]
  exact ⟨rfl, N28, f30, f31, f32, F28, f33⟩
theorem d6_0 : decode prog_41_method_2_code 0 = .ok (.aload_n 0, 1) := by decide +kernel
theorem d6_1 : decode prog_41_method_2_code 1 = .ok (.iconst 0, 1) := by decide +kernel
theorem d6_2 : decode prog_41_method_2_code 2 = .ok (.putfield 13, 3) := by decide +kernel
theorem d6_5 : decode prog_41_method_2_code 5 = .ok (.aload_n 0, 1) := by decide +kernel
theorem d6_6 : decode prog_41_method_2_code 6 = .ok (.aconst_null, 1) := by decide +kernel
theorem d6_7 : decode prog_41_method_2_code 7 = .ok (.putfield 17, 3) := by decide +kernel
theorem d6_10 : decode prog_41_method_2_code 10 = .ok (.return_, 1) := by decide +kernel
theorem pn_6 : plainName "com/example/abak/abak/io/HeaderText" = true := by first | (simp [plainName, overriddenIn]; done) | decide +kernel
theorem ef_6 (m : MethodId) (x0 : Addr) : entryFrame m #[(.ref x0)] 1 = mkF m 0 #[.val (.ref x0)] [] := by first | (simp [entryFrame, mkF, argsToLocals, Value.category]; done) | rfl
def Q6 (Z : State) (t : Addr) (ca : Addr) (ln : Int32) (h0 : Heap) (n0 : Nat) (rv_ : Option Value) (h : Heap) (LL_ : List Loc) : Prop := rv_ = none ∧ Fr n0 LL_ ∧ Keep h0 h [t] ∧ Fld Z h t "com/example/abak/abak/io/HeaderText" "chars" "[C" (.ref ca) ∧ Fld Z h t "com/example/abak/abak/io/HeaderText" "length" "I" (.int (0 : Int32)) ∧ Fld Z h t "com/example/abak/abak/io/HeaderText" "string" "Ljava/lang/String;" .null
set_option maxRecDepth 65536 in
set_option maxHeartbeats 40000000 in
theorem rm6 (l : Launch) (Z : State) (a0 : Array Value) (hw : ∀ d ∈ tables_1, d.before a0 Z = true) (ws : List Jvm.Cond) (t : Addr) (ca : Addr) (ln : Int32) (h0 : Heap) (n0 : Nat) (Z0 : n0 ≤ h0.size) (E_t : Exa Z h0 t "com/example/abak/abak/io/HeaderText") (F_t_chars : Fld Z h0 t "com/example/abak/abak/io/HeaderText" "chars" "[C" (.ref ca)) (F_t_length : Fld Z h0 t "com/example/abak/abak/io/HeaderText" "length" "I" (.int ln)) (F_t_string : Fld Z h0 t "com/example/abak/abak/io/HeaderText" "string" "Ljava/lang/String;" .null) (g_t : n0 ≤ t) :
    MetFree l (⟨"com/example/abak/abak/io/HeaderText", "clear", "()V"⟩ : MethodName) (head1 (Jvm.Cond.code (⟨"com/example/abak/abak/io/HeaderText", "clear", "()V"⟩ : MethodName) prog_41_method_2_code 1 none :: ws) ({ frames := 0, cells := 0, slots := 0, locals := 0 } : Room)) (fun aa UU => aa = #[(.ref t)] ∧ Z.Warmed39 UU.vm ∧ UU.heap = h0) (fun _ _ _ _ _ => True) (fun _ UU oo UV => ∃ vv LL, oo = .returned vv ∧ Q6 Z t ca ln h0 n0 vv UV.heap LL ∧ FrameEnd UU oo UV LL ({ frames := 0, cells := 0, slots := 0, locals := 0 } : Room).cells ({ frames := 0, cells := 0, slots := 0, locals := 0 } : Room).slots) := by
  refine MetFree.of_bodySF (plainFor_of_name pn_6) hisR ?_
  intro p e s m args below meth c s₁ Bd hml0 hP hK
  obtain ⟨rfl, hZ, hh⟩ := hP
  have hx := Bd.exec
  have hby := Bd.bytes
  have hml : c.maxLocals = 1 := hml0
  have hown : s.vm.findClass "com/example/abak/abak/io/HeaderText" = some m.cls := findClass_of_methodNamed Bd.named
  have hnm := (name_of_methodNamed Bd.named Bd.method).1
  have X0 : Stand p l e ({ frames := 0, cells := 0, slots := 0, locals := 0 } : Room) s m #[(.ref t)] below meth c s₁ [] 0 0 := Stand.of_body Bd
  have e0 : s₁.heap = h0 := by rw [← hh, Bd.state]; rfl
  have N0 := Fr.nil n0
  have k0 : ∀ tg_, Steps p.tables e below (s₁.setTop (mkF m 0 #[.val (.ref t)] [])) tg_ → Steps p.tables e below (s₁.setTop (entryFrame m #[(.ref t)] 1)) tg_ := fun tg_ k => castTop (ef_6 m t) k
  obtain ⟨T34, h34, X34, e34, W34, st34⟩ := putF X0 hx hZ hown (host := "") (Or.inl (hw _ (List.mem_of_getElem? (i := 17) rfl))) Via.refl e0 F_t_length E_t (Or.inl (hw _ (List.mem_of_getElem? (i := 18) rfl))) (hw _ (List.mem_of_getElem? (i := 1) rfl)) (ty := .int) (by decide) rfl rfl (g := (mkF m 2 #[.val (.ref t)] [(.int (0 : Int32)), (.ref t)])) rfl rfl (hb hby d6_2)
  have N34 := Fr.snoc X34 N0 g_t
  have F34 := Fld.same W34 F_t_length
  have f35 := (Fld.other W34 F_t_string (Or.inr (slot_ne (Or.inl (hw _ (List.mem_of_getElem? (i := 29) rfl))) (Or.inl (hw _ (List.mem_of_getElem? (i := 18) rfl))) (by decide) (t := (.object "java/lang/String")) (t' := .int) (by decide) (by decide))))
  have f36 := (E_t.keep (Keep.of_wr W34))
  obtain ⟨T37, h37, X37, e37, W37, st37⟩ := putF X34 hx hZ hown (host := "") (Or.inl (hw _ (List.mem_of_getElem? (i := 28) rfl))) Via.refl e34 f35 f36 (Or.inl (hw _ (List.mem_of_getElem? (i := 29) rfl))) (hw _ (List.mem_of_getElem? (i := 1) rfl)) (ty := (.object "java/lang/String")) (by decide) rfl rfl (g := (mkF m 7 #[.val (.ref t)] [.null, (.ref t)])) rfl rfl (hb hby d6_7)
  have N37 := Fr.snoc X37 N34 g_t
  have F37 := Fld.same W37 f35
  have k38 : ∀ tg_, Steps p.tables e below (T37.setTop (mkF m 10 #[.val (.ref t)] [])) tg_ → Steps p.tables e below (s₁.setTop (entryFrame m #[(.ref t)] 1)) tg_ := by
    intro tg_ kt
    refine k0 tg_ ?_
    refine XS.aloadN X0.here hx rfl (hb hby d6_0) rfl rfl ?_
    show Steps p.tables e below (s₁.setTop (mkF m 1 #[.val (.ref t)] [(.ref t)])) _
    refine XS.iconst X0.here hx rfl (hb hby d6_1) ?_
    show Steps p.tables e below (s₁.setTop (mkF m 2 #[.val (.ref t)] [(.int (0 : Int32)), (.ref t)])) _
    refine st34 _ ?_
    show Steps p.tables e below (T34.setTop (mkF m 5 #[.val (.ref t)] [])) _
    refine XS.aloadN X34.here hx rfl (hb hby d6_5) rfl rfl ?_
    show Steps p.tables e below (T34.setTop (mkF m 6 #[.val (.ref t)] [(.ref t)])) _
    refine XS.aconstNull X34.here hx rfl (hb hby d6_6) ?_
    show Steps p.tables e below (T34.setTop (mkF m 7 #[.val (.ref t)] [.null, (.ref t)])) _
    refine st37 _ ?_
    show Steps p.tables e below (T37.setTop (mkF m 10 #[.val (.ref t)] [])) _
    exact kt
  have f39 := (((Keep.refl h0 [t]).trans (Keep.of_wr W34) (allS (Or.inl (List.mem_of_getElem? (i := 0) rfl)) all0)).trans (Keep.of_wr W37) (allS (Or.inl (List.mem_of_getElem? (i := 0) rfl)) all0))
  have f40 := (Fld.other W37 (Fld.other W34 F_t_chars (Or.inr (slot_ne (Or.inl (hw _ (List.mem_of_getElem? (i := 11) rfl))) (Or.inl (hw _ (List.mem_of_getElem? (i := 18) rfl))) (by decide) (t := (.array .char)) (t' := .int) (by decide) (by decide)))) (Or.inr (slot_ne (Or.inl (hw _ (List.mem_of_getElem? (i := 11) rfl))) (Or.inl (hw _ (List.mem_of_getElem? (i := 29) rfl))) (by decide) (t := (.array .char)) (t' := (.object "java/lang/String")) (by decide) (by decide))))
  have f41 := (Fld.other W37 F34 (Or.inr (slot_ne (Or.inl (hw _ (List.mem_of_getElem? (i := 18) rfl))) (Or.inl (hw _ (List.mem_of_getElem? (i := 29) rfl))) (by decide) (t := .int) (t' := (.object "java/lang/String")) (by decide) (by decide))))
  obtain ⟨fs, hr, hrun, hended, hW, hsame⟩ := X37.leave (v := none) (fun _ => rfl)
  refine ⟨_, _, k38 _ (X37.returnOut hx Bd.returns (hb hby d6_10) hr), hrun, hended, _, _, rfl, ?_, ⟨_, rfl⟩, hW, hsame.mono (by decide) (by decide)⟩
  show Q6 Z t ca ln h0 n0 _ T37.heap _
  rw [e37]
  exact ⟨rfl, N37, f39, f40, f41, F37⟩
theorem d3_0 : decode prog_41_method_6_code 0 = .ok (.aload_n 0, 1) := by decide +kernel
theorem d3_1 : decode prog_41_method_6_code 1 = .ok (.getfield 13, 3) := by decide +kernel
theorem d3_4 : decode prog_41_method_6_code 4 = .ok (.ifCond .le 22, 3) := by decide +kernel
theorem d3_7 : decode prog_41_method_6_code 7 = .ok (.aload_n 0, 1) := by decide +kernel
theorem d3_8 : decode prog_41_method_6_code 8 = .ok (.getfield 9, 3) := by decide +kernel
theorem d3_11 : decode prog_41_method_6_code 11 = .ok (.aload_n 0, 1) := by decide +kernel
theorem d3_12 : decode prog_41_method_6_code 12 = .ok (.getfield 13, 3) := by decide +kernel
theorem d3_15 : decode prog_41_method_6_code 15 = .ok (.iconst 1, 1) := by decide +kernel
theorem d3_16 : decode prog_41_method_6_code 16 = .ok (.isub, 1) := by decide +kernel
theorem d3_17 : decode prog_41_method_6_code 17 = .ok (.caload, 1) := by decide +kernel
theorem d3_18 : decode prog_41_method_6_code 18 = .ok (.iload_n 1, 1) := by decide +kernel
theorem d3_19 : decode prog_41_method_6_code 19 = .ok (.if_icmp .ne 7, 3) := by decide +kernel
theorem d3_22 : decode prog_41_method_6_code 22 = .ok (.iconst 1, 1) := by decide +kernel
theorem d3_23 : decode prog_41_method_6_code 23 = .ok (.goto 4, 3) := by decide +kernel
theorem d3_26 : decode prog_41_method_6_code 26 = .ok (.iconst 0, 1) := by decide +kernel
theorem d3_27 : decode prog_41_method_6_code 27 = .ok (.ireturn, 1) := by decide +kernel
theorem pn_3 : plainName "com/example/abak/abak/io/HeaderText" = true := by first | (simp [plainName, overriddenIn]; done) | decide +kernel
theorem ef_3 (m : MethodId) (x0 : Addr) (x1 : Int32) : entryFrame m #[(.ref x0), (.int x1)] 2 = mkF m 0 #[.val (.ref x0), .val (.int x1)] [] := by first | (simp [entryFrame, mkF, argsToLocals, Value.category]; done) | rfl
def Q3 (Z : State) (t : Addr) (q : Int32) (ca : Addr) (ln : Int32) (k : Nat) (f : Nat → Int32) (h0 : Heap) (n0 : Nat) (rv_ : Option Value) (h : Heap) (LL_ : List Loc) : Prop := rv_ = some (.int (if (0 : Int32) < ln then (if (f (k - 1)) = q then (1 : Int32) else (0 : Int32)) else (0 : Int32))) ∧ Fr n0 LL_ ∧ h = h0
set_option maxRecDepth 65536 in
set_option maxHeartbeats 40000000 in
theorem rm3 (l : Launch) (Z : State) (a0 : Array Value) (hw : ∀ d ∈ tables_1, d.before a0 Z = true) (ws : List Jvm.Cond) (t : Addr) (q : Int32) (ca : Addr) (ln : Int32) (k : Nat) (f : Nat → Int32) (h0 : Heap) (n0 : Nat) (F_t_chars : Fld Z h0 t "com/example/abak/abak/io/HeaderText" "chars" "[C" (.ref ca)) (F_t_length : Fld Z h0 t "com/example/abak/abak/io/HeaderText" "length" "I" (.int ln)) (V_ca : own_AI Z h0 ca .char 256 f) (hl : ln.toInt = (k : Int)) (hk : k < 200) :
    MetFree l (⟨"com/example/abak/abak/io/HeaderText", "endsWith", "(C)Z"⟩ : MethodName) (head1 (Jvm.Cond.code (⟨"com/example/abak/abak/io/HeaderText", "endsWith", "(C)Z"⟩ : MethodName) prog_41_method_6_code 2 (some .boolean) :: ws) ({ frames := 0, cells := 0, slots := 0, locals := 0 } : Room)) (fun aa UU => aa = #[(.ref t), (.int q)] ∧ Z.Warmed39 UU.vm ∧ UU.heap = h0) (fun _ _ _ _ _ => True) (fun _ UU oo UV => ∃ vv LL, oo = .returned vv ∧ Q3 Z t q ca ln k f h0 n0 vv UV.heap LL ∧ FrameEnd UU oo UV LL ({ frames := 0, cells := 0, slots := 0, locals := 0 } : Room).cells ({ frames := 0, cells := 0, slots := 0, locals := 0 } : Room).slots) := by
  refine MetFree.of_bodySF (plainFor_of_name pn_3) hisR ?_
  intro p e s m args below meth c s₁ Bd hml0 hP hK
  obtain ⟨rfl, hZ, hh⟩ := hP
  have hx := Bd.exec
  have hby := Bd.bytes
  have hml : c.maxLocals = 2 := hml0
  have hown : s.vm.findClass "com/example/abak/abak/io/HeaderText" = some m.cls := findClass_of_methodNamed Bd.named
  have hnm := (name_of_methodNamed Bd.named Bd.method).1
  have X0 : Stand p l e ({ frames := 0, cells := 0, slots := 0, locals := 0 } : Room) s m #[(.ref t), (.int q)] below meth c s₁ [] 0 0 := Stand.of_body Bd
  have e0 : s₁.heap = h0 := by rw [← hh, Bd.state]; rfl
  have N0 := Fr.nil n0
  have k0 : ∀ tg_, Steps p.tables e below (s₁.setTop (mkF m 0 #[.val (.ref t), .val (.int q)] [])) tg_ → Steps p.tables e below (s₁.setTop (entryFrame m #[(.ref t), (.int q)] 2)) tg_ := fun tg_ k => castTop (ef_3 m t q) k
  obtain ⟨T42, X42, e42, st42⟩ := getF X0 hx hZ hown (host := "") (Or.inl (hw _ (List.mem_of_getElem? (i := 17) rfl))) Via.refl e0 F_t_length (g := (mkF m 1 #[.val (.ref t), .val (.int q)] [(.ref t)])) rfl rfl (hb hby d3_1)
  have k43 : ∀ tg_, Steps p.tables e below (T42.setTop (mkF m 4 #[.val (.ref t), .val (.int q)] [(.int ln)])) tg_ → Steps p.tables e below (s₁.setTop (entryFrame m #[(.ref t), (.int q)] 2)) tg_ := by
    intro tg_ kt
    refine k0 tg_ ?_
    refine XS.aloadN X0.here hx rfl (hb hby d3_0) rfl rfl ?_
    show Steps p.tables e below (s₁.setTop (mkF m 1 #[.val (.ref t), .val (.int q)] [(.ref t)])) _
    refine st42 _ ?_
    show Steps p.tables e below (T42.setTop (mkF m 4 #[.val (.ref t), .val (.int q)] [(.int ln)])) _
    exact kt
  by_cases hc4_44 : (0 : Int32) < ln
  · obtain ⟨T45, X45, e45, st45⟩ := getF X42 hx hZ hown (host := "") (Or.inl (hw _ (List.mem_of_getElem? (i := 10) rfl))) Via.refl e42 F_t_chars (g := (mkF m 8 #[.val (.ref t), .val (.int q)] [(.ref t)])) rfl rfl (hb hby d3_8)
    obtain ⟨T46, X46, e46, st46⟩ := getF X45 hx hZ hown (host := "") (Or.inl (hw _ (List.mem_of_getElem? (i := 17) rfl))) Via.refl e45 F_t_length (g := (mkF m 12 #[.val (.ref t), .val (.int q)] [(.ref t), (.ref ca)])) rfl rfl (hb hby d3_12)
    have hj47 : (ln - (1 : Int32)).toInt = ((k - 1 : Nat) : Int) := by
      have ar48 : (0 : Int32).toInt = 0 := by decide
      have ar49 := rng32 ln
      have ar50 : (0 : Int32).toInt < ln.toInt := Int32.lt_iff_toInt_lt.mp hc4_44
      have ar51 : (1 : Int32).toInt = 1 := by decide
      have ar52 := rng32 (ln - (1 : Int32))
      first | have ar53 : (ln - (1 : Int32)).toInt = ln.toInt - 1 := (by have qw := c_isub ln (1 : Int32); omega) | (have ar53 := c_isub ln (1 : Int32); skip)
      omega
    have k54 : ∀ tg_, Steps p.tables e below (T46.setTop (mkF m 19 #[.val (.ref t), .val (.int q)] [(.int q), (.int (f (k - 1)))])) tg_ → Steps p.tables e below (s₁.setTop (entryFrame m #[(.ref t), (.int q)] 2)) tg_ := by
      intro tg_ kt
      refine k43 tg_ ?_
      refine XS.ifNo X42.here hx rfl (hb hby d3_4) rfl ((if0 _ _).trans (tlt hc4_44).2.2.2) ?_
      show Steps p.tables e below (T42.setTop (mkF m 7 #[.val (.ref t), .val (.int q)] [])) _
      refine XS.aloadN X42.here hx rfl (hb hby d3_7) rfl rfl ?_
      show Steps p.tables e below (T42.setTop (mkF m 8 #[.val (.ref t), .val (.int q)] [(.ref t)])) _
      refine st45 _ ?_
      show Steps p.tables e below (T45.setTop (mkF m 11 #[.val (.ref t), .val (.int q)] [(.ref ca)])) _
      refine XS.aloadN X45.here hx rfl (hb hby d3_11) rfl rfl ?_
      show Steps p.tables e below (T45.setTop (mkF m 12 #[.val (.ref t), .val (.int q)] [(.ref t), (.ref ca)])) _
      refine st46 _ ?_
      show Steps p.tables e below (T46.setTop (mkF m 15 #[.val (.ref t), .val (.int q)] [(.int ln), (.ref ca)])) _
      refine XS.iconst X46.here hx rfl (hb hby d3_15) ?_
      show Steps p.tables e below (T46.setTop (mkF m 16 #[.val (.ref t), .val (.int q)] [(.int (1 : Int32)), (.int ln), (.ref ca)])) _
      refine XS.isub X46.here hx rfl (hb hby d3_16) rfl ?_
      show Steps p.tables e below (T46.setTop (mkF m 17 #[.val (.ref t), .val (.int q)] [(.int (ln - (1 : Int32))), (.ref ca)])) _
      refine own_ldC X46 hx hZ e46 V_ca (i := (k - 1)) hj47 (by omega) rfl (g := (mkF m 17 #[.val (.ref t), .val (.int q)] [(.int (ln - (1 : Int32))), (.ref ca)])) rfl rfl (hb hby d3_17) _ ?_
      show Steps p.tables e below (T46.setTop (mkF m 18 #[.val (.ref t), .val (.int q)] [(.int (f (k - 1)))])) _
      refine XS.iloadN X46.here hx rfl (hb hby d3_18) rfl ?_
      show Steps p.tables e below (T46.setTop (mkF m 19 #[.val (.ref t), .val (.int q)] [(.int q), (.int (f (k - 1)))])) _
      exact kt
    by_cases hc19_55 : (f (k - 1)) = q
    · have k56 : ∀ tg_, Steps p.tables e below (T46.setTop (mkF m 27 #[.val (.ref t), .val (.int q)] [(.int (1 : Int32))])) tg_ → Steps p.tables e below (s₁.setTop (entryFrame m #[(.ref t), (.int q)] 2)) tg_ := by
        intro tg_ kt
        refine k54 tg_ ?_
        refine XS.icmpNo X46.here hx rfl (hb hby d3_19) rfl (teq hc19_55).2 ?_
        show Steps p.tables e below (T46.setTop (mkF m 22 #[.val (.ref t), .val (.int q)] [])) _
        refine XS.iconst X46.here hx rfl (hb hby d3_22) ?_
        show Steps p.tables e below (T46.setTop (mkF m 23 #[.val (.ref t), .val (.int q)] [(.int (1 : Int32))])) _
        refine XS.goto X46.here hx rfl (pc0 := 23) (pc' := 27) rfl (hb hby d3_23) (by decide) (by decide) ?_
        show Steps p.tables e below (T46.setTop (mkF m 27 #[.val (.ref t), .val (.int q)] [(.int (1 : Int32))])) _
        exact kt
      obtain ⟨fs, hr, hrun, hended, hW, hsame⟩ := X46.leave (v := some (.int (1 : Int32))) (fun h => by rw [Bd.returns] at h; cases h)
      refine ⟨_, _, k56 _ (retN X46 hx (t := .boolean) Bd.returns (by simp) (hb hby d3_27) hr), hrun, hended, _, _, rfl, ?_, ⟨_, rfl⟩, hW, hsame.mono (by decide) (by decide)⟩
      show Q3 Z t q ca ln k f h0 n0 _ T46.heap _
      rw [e46]
      exact ⟨(by rw [if_pos hc4_44, if_pos hc19_55]), N0, rfl⟩
    · have k57 : ∀ tg_, Steps p.tables e below (T46.setTop (mkF m 27 #[.val (.ref t), .val (.int q)] [(.int (0 : Int32))])) tg_ → Steps p.tables e below (s₁.setTop (entryFrame m #[(.ref t), (.int q)] 2)) tg_ := by
        intro tg_ kt
        refine k54 tg_ ?_
        refine XS.icmpYes X46.here hx rfl (pc0 := 19) (pc' := 26) rfl (hb hby d3_19) rfl (feq hc19_55).2 (by decide) (by decide) ?_
        show Steps p.tables e below (T46.setTop (mkF m 26 #[.val (.ref t), .val (.int q)] [])) _
        refine XS.iconst X46.here hx rfl (hb hby d3_26) ?_
        show Steps p.tables e below (T46.setTop (mkF m 27 #[.val (.ref t), .val (.int q)] [(.int (0 : Int32))])) _
        exact kt
      obtain ⟨fs, hr, hrun, hended, hW, hsame⟩ := X46.leave (v := some (.int (0 : Int32))) (fun h => by rw [Bd.returns] at h; cases h)
      refine ⟨_, _, k57 _ (retN X46 hx (t := .boolean) Bd.returns (by simp) (hb hby d3_27) hr), hrun, hended, _, _, rfl, ?_, ⟨_, rfl⟩, hW, hsame.mono (by decide) (by decide)⟩
      show Q3 Z t q ca ln k f h0 n0 _ T46.heap _
      rw [e46]
      exact ⟨(by rw [if_pos hc4_44, if_neg hc19_55]), N0, rfl⟩
  · have k58 : ∀ tg_, Steps p.tables e below (T42.setTop (mkF m 27 #[.val (.ref t), .val (.int q)] [(.int (0 : Int32))])) tg_ → Steps p.tables e below (s₁.setTop (entryFrame m #[(.ref t), (.int q)] 2)) tg_ := by
      intro tg_ kt
      refine k43 tg_ ?_
      refine XS.ifYes X42.here hx rfl (pc0 := 4) (pc' := 26) rfl (hb hby d3_4) rfl ((if0 _ _).trans (flt hc4_44).2.2.2) (by decide) (by decide) ?_
      show Steps p.tables e below (T42.setTop (mkF m 26 #[.val (.ref t), .val (.int q)] [])) _
      refine XS.iconst X42.here hx rfl (hb hby d3_26) ?_
      show Steps p.tables e below (T42.setTop (mkF m 27 #[.val (.ref t), .val (.int q)] [(.int (0 : Int32))])) _
      exact kt
    obtain ⟨fs, hr, hrun, hended, hW, hsame⟩ := X42.leave (v := some (.int (0 : Int32))) (fun h => by rw [Bd.returns] at h; cases h)
    refine ⟨_, _, k58 _ (retN X42 hx (t := .boolean) Bd.returns (by simp) (hb hby d3_27) hr), hrun, hended, _, _, rfl, ?_, ⟨_, rfl⟩, hW, hsame.mono (by decide) (by decide)⟩
    show Q3 Z t q ca ln k f h0 n0 _ T42.heap _
    rw [e42]
    exact ⟨(by rw [if_neg hc4_44]), N0, rfl⟩

theorem own_cc (x : Int32) : x.toUInt32.toUInt16.toUInt32.toInt32.toUInt32.toUInt16.toUInt32.toInt32 = x.toUInt32.toUInt16.toUInt32.toInt32 := by
  apply Int32.toInt_inj.mp
  have a := c_i2c x.toUInt32.toUInt16.toUInt32.toInt32
  have b := c_i2c x
  omega

theorem pd_0 : parseMethodDescriptor "()V" = some ⟨[], none⟩ := by decide +kernel
theorem pd_2 : parseMethodDescriptor "(C)V" = some ⟨[.char], none⟩ := by decide +kernel
theorem pd_1 : parseMethodDescriptor "(C)Z" = some ⟨[.char], some .boolean⟩ := by decide +kernel
theorem pn_0 : plainName "com/example/abak/abak/io/HeaderTextEndsWithPinLaw" = true := by first | (simp [plainName, overriddenIn]; done) | decide +kernel
theorem ef_0 (m : MethodId) (x0 : Int32) (x1 : Int32) (x2 : Int32) (x3 : Int32) (x4 : Int32) : entryFrame m #[(.int x0), (.int x1), (.int x2), (.int x3), (.int x4)] maxLocals = mkF m 0 #[.val (.int x0), .val (.int x1), .val (.int x2), .val (.int x3), .val (.int x4), .unset, .unset, .unset, .unset, .unset, .unset, .unset, .unset, .unset, .unset, .unset, .unset, .unset, .unset] [] := by first | (simp [entryFrame, mkF, argsToLocals, Value.category, maxLocals]; done) | rfl
def Q0 (Z : State) (p0 : Int32) (p1 : Int32) (p2 : Int32) (p3 : Int32) (p4 : Int32) (h0 : Heap) (n0 : Nat) (rv_ : Option Value) (h : Heap) (LL_ : List Loc) : Prop := rv_ = some (.int 1) ∧ Fr n0 LL_
set_option maxRecDepth 65536 in
set_option maxHeartbeats 40000000 in
theorem rm0 (l : Launch) (Z : State) (a0 : Array Value) (hw : ∀ d ∈ tables_1, d.before a0 Z = true) (ws : List Jvm.Cond) (p0 : Int32) (p1 : Int32) (p2 : Int32) (p3 : Int32) (p4 : Int32) (h0 : Heap) (n0 : Nat) (Z0 : n0 ≤ h0.size) :
    MetFree l x (head1 (Jvm.Cond.code x code maxLocals ret :: ws) room_1) (fun aa UU => aa = #[(.int p0), (.int p1), (.int p2), (.int p3), (.int p4)] ∧ Z.Warmed39 UU.vm ∧ UU.heap = h0) (fun _ _ _ _ _ => True) (fun _ UU oo UV => ∃ vv LL, oo = .returned vv ∧ Q0 Z p0 p1 p2 p3 p4 h0 n0 vv UV.heap LL ∧ FrameEnd UU oo UV LL room_1.cells room_1.slots) := by
  refine MetFree.of_bodySF (plainFor_of_name pn_0) hisR ?_
  intro p e s m args below meth c s₁ Bd hml0 hP hK
  obtain ⟨rfl, hZ, hh⟩ := hP
  have hx := Bd.exec
  have hby := Bd.bytes
  have hml : c.maxLocals = 19 := hml0
  have hown : s.vm.findClass "com/example/abak/abak/io/HeaderTextEndsWithPinLaw" = some m.cls := findClass_of_methodNamed Bd.named
  have hnm := (name_of_methodNamed Bd.named Bd.method).1
  have X0 : Stand p l e room_1 s m #[(.int p0), (.int p1), (.int p2), (.int p3), (.int p4)] below meth c s₁ [] 0 0 := Stand.of_body Bd
  have e0 : s₁.heap = h0 := by rw [← hh, Bd.state]; rfl
  have N0 := Fr.nil n0
  have k0 : ∀ tg_, Steps p.tables e below (s₁.setTop (mkF m 0 #[.val (.int p0), .val (.int p1), .val (.int p2), .val (.int p3), .val (.int p4), .unset, .unset, .unset, .unset, .unset, .unset, .unset, .unset, .unset, .unset, .unset, .unset, .unset, .unset] [])) tg_ → Steps p.tables e below (s₁.setTop (entryFrame m #[(.int p0), (.int p1), (.int p2), (.int p3), (.int p4)] maxLocals)) tg_ := fun tg_ k => castTop (ef_0 m p0 p1 p2 p3 p4) k
  have k59 : ∀ tg_, Steps p.tables e below (s₁.setTop (mkF m 3 #[.val (.int p0), .val (.int p1), .val (.int p2), .val (.int p3), .val (.int p4), .unset, .unset, .unset, .unset, .unset, .unset, .unset, .unset, .unset, .unset, .unset, .unset, .unset, .unset] [(.int (p0 &&& (3 : Int32)))])) tg_ → Steps p.tables e below (s₁.setTop (entryFrame m #[(.int p0), (.int p1), (.int p2), (.int p3), (.int p4)] maxLocals)) tg_ := by
    intro tg_ kt
    refine k0 tg_ ?_
    refine XS.iloadN X0.here hx rfl (hb hby at_0) rfl ?_
    show Steps p.tables e below (s₁.setTop (mkF m 1 #[.val (.int p0), .val (.int p1), .val (.int p2), .val (.int p3), .val (.int p4), .unset, .unset, .unset, .unset, .unset, .unset, .unset, .unset, .unset, .unset, .unset, .unset, .unset, .unset] [(.int p0)])) _
    refine XS.iconst X0.here hx rfl (hb hby at_1) ?_
    show Steps p.tables e below (s₁.setTop (mkF m 2 #[.val (.int p0), .val (.int p1), .val (.int p2), .val (.int p3), .val (.int p4), .unset, .unset, .unset, .unset, .unset, .unset, .unset, .unset, .unset, .unset, .unset, .unset, .unset, .unset] [(.int (3 : Int32)), (.int p0)])) _
    refine XS.iand X0.here hx rfl (hb hby at_2) rfl ?_
    show Steps p.tables e below (s₁.setTop (mkF m 3 #[.val (.int p0), .val (.int p1), .val (.int p2), .val (.int p3), .val (.int p4), .unset, .unset, .unset, .unset, .unset, .unset, .unset, .unset, .unset, .unset, .unset, .unset, .unset, .unset] [(.int (p0 &&& (3 : Int32)))])) _
    exact kt
  obtain ⟨v60, hv60⟩ : ∃ z : Int32, z = (p0 &&& (3 : Int32)) := ⟨_, rfl⟩
  rw [← hv60] at k59
  have k61 : ∀ tg_, Steps p.tables e below (s₁.setTop (mkF m 10 #[.val (.int p0), .val (.int p1), .val (.int p2), .val (.int p3), .val (.int p4), .val (.int v60), .unset, .unset, .unset, .unset, .unset, .unset, .unset, .unset, .unset, .unset, .unset, .unset, .unset] [(.int (((p0.toUInt32 >>> ((2 : Int32) &&& 31).toUInt32).toInt32) &&& (1 : Int32)))])) tg_ → Steps p.tables e below (s₁.setTop (entryFrame m #[(.int p0), (.int p1), (.int p2), (.int p3), (.int p4)] maxLocals)) tg_ := by
    intro tg_ kt
    refine k59 tg_ ?_
    refine XS.istore X0.here hx rfl (hb hby at_3) rfl (l' := #[.val (.int p0), .val (.int p1), .val (.int p2), .val (.int p3), .val (.int p4), .val (.int v60), .unset, .unset, .unset, .unset, .unset, .unset, .unset, .unset, .unset, .unset, .unset, .unset, .unset]) rfl ?_
    show Steps p.tables e below (s₁.setTop (mkF m 5 #[.val (.int p0), .val (.int p1), .val (.int p2), .val (.int p3), .val (.int p4), .val (.int v60), .unset, .unset, .unset, .unset, .unset, .unset, .unset, .unset, .unset, .unset, .unset, .unset, .unset] [])) _
    refine XS.iloadN X0.here hx rfl (hb hby at_5) rfl ?_
    show Steps p.tables e below (s₁.setTop (mkF m 6 #[.val (.int p0), .val (.int p1), .val (.int p2), .val (.int p3), .val (.int p4), .val (.int v60), .unset, .unset, .unset, .unset, .unset, .unset, .unset, .unset, .unset, .unset, .unset, .unset, .unset] [(.int p0)])) _
    refine XS.iconst X0.here hx rfl (hb hby at_6) ?_
    show Steps p.tables e below (s₁.setTop (mkF m 7 #[.val (.int p0), .val (.int p1), .val (.int p2), .val (.int p3), .val (.int p4), .val (.int v60), .unset, .unset, .unset, .unset, .unset, .unset, .unset, .unset, .unset, .unset, .unset, .unset, .unset] [(.int (2 : Int32)), (.int p0)])) _
    refine XS.iushr X0.here hx rfl (hb hby at_7) rfl ?_
    show Steps p.tables e below (s₁.setTop (mkF m 8 #[.val (.int p0), .val (.int p1), .val (.int p2), .val (.int p3), .val (.int p4), .val (.int v60), .unset, .unset, .unset, .unset, .unset, .unset, .unset, .unset, .unset, .unset, .unset, .unset, .unset] [(.int ((p0.toUInt32 >>> ((2 : Int32) &&& 31).toUInt32).toInt32))])) _
    refine XS.iconst X0.here hx rfl (hb hby at_8) ?_
    show Steps p.tables e below (s₁.setTop (mkF m 9 #[.val (.int p0), .val (.int p1), .val (.int p2), .val (.int p3), .val (.int p4), .val (.int v60), .unset, .unset, .unset, .unset, .unset, .unset, .unset, .unset, .unset, .unset, .unset, .unset, .unset] [(.int (1 : Int32)), (.int ((p0.toUInt32 >>> ((2 : Int32) &&& 31).toUInt32).toInt32))])) _
    refine XS.iand X0.here hx rfl (hb hby at_9) rfl ?_
    show Steps p.tables e below (s₁.setTop (mkF m 10 #[.val (.int p0), .val (.int p1), .val (.int p2), .val (.int p3), .val (.int p4), .val (.int v60), .unset, .unset, .unset, .unset, .unset, .unset, .unset, .unset, .unset, .unset, .unset, .unset, .unset] [(.int (((p0.toUInt32 >>> ((2 : Int32) &&& 31).toUInt32).toInt32) &&& (1 : Int32)))])) _
    exact kt
  have k63 : ∀ tg_, Steps p.tables e below (s₁.setTop (mkF m 18 #[.val (.int p0), .val (.int p1), .val (.int p2), .val (.int p3), .val (.int p4), .val (.int v60), .unset, .unset, .unset, .unset, .unset, .unset, .unset, .unset, .unset, .unset, .unset, .unset, .unset] [(.int (if (((p0.toUInt32 >>> ((2 : Int32) &&& 31).toUInt32).toInt32) &&& (1 : Int32)) = (0 : Int32) then (0 : Int32) else (1 : Int32)))])) tg_ → Steps p.tables e below (s₁.setTop (entryFrame m #[(.int p0), (.int p1), (.int p2), (.int p3), (.int p4)] maxLocals)) tg_ := by
    intro tg_ kt
    refine k61 tg_ ?_
    by_cases hj10_62 : (((p0.toUInt32 >>> ((2 : Int32) &&& 31).toUInt32).toInt32) &&& (1 : Int32)) = (0 : Int32)
    · refine XS.ifYes X0.here hx rfl (pc0 := 10) (pc' := 17) rfl (hb hby at_10) rfl ((if0 _ _).trans (teq hj10_62).1) (by decide) (by decide) ?_
      show Steps p.tables e below (s₁.setTop (mkF m 17 #[.val (.int p0), .val (.int p1), .val (.int p2), .val (.int p3), .val (.int p4), .val (.int v60), .unset, .unset, .unset, .unset, .unset, .unset, .unset, .unset, .unset, .unset, .unset, .unset, .unset] [])) _
      refine XS.iconst X0.here hx rfl (hb hby at_17) ?_
      show Steps p.tables e below (s₁.setTop (mkF m 18 #[.val (.int p0), .val (.int p1), .val (.int p2), .val (.int p3), .val (.int p4), .val (.int v60), .unset, .unset, .unset, .unset, .unset, .unset, .unset, .unset, .unset, .unset, .unset, .unset, .unset] [(.int (0 : Int32))])) _
      simpa only [if_pos hj10_62] using kt
    · refine XS.ifNo X0.here hx rfl (hb hby at_10) rfl ((if0 _ _).trans (feq hj10_62).1) ?_
      show Steps p.tables e below (s₁.setTop (mkF m 13 #[.val (.int p0), .val (.int p1), .val (.int p2), .val (.int p3), .val (.int p4), .val (.int v60), .unset, .unset, .unset, .unset, .unset, .unset, .unset, .unset, .unset, .unset, .unset, .unset, .unset] [])) _
      refine XS.iconst X0.here hx rfl (hb hby at_13) ?_
      show Steps p.tables e below (s₁.setTop (mkF m 14 #[.val (.int p0), .val (.int p1), .val (.int p2), .val (.int p3), .val (.int p4), .val (.int v60), .unset, .unset, .unset, .unset, .unset, .unset, .unset, .unset, .unset, .unset, .unset, .unset, .unset] [(.int (1 : Int32))])) _
      refine XS.goto X0.here hx rfl (pc0 := 14) (pc' := 18) rfl (hb hby at_14) (by decide) (by decide) ?_
      show Steps p.tables e below (s₁.setTop (mkF m 18 #[.val (.int p0), .val (.int p1), .val (.int p2), .val (.int p3), .val (.int p4), .val (.int v60), .unset, .unset, .unset, .unset, .unset, .unset, .unset, .unset, .unset, .unset, .unset, .unset, .unset] [(.int (1 : Int32))])) _
      simpa only [if_neg hj10_62] using kt
  obtain ⟨v64, hv64⟩ : ∃ z : Int32, z = (if (((p0.toUInt32 >>> ((2 : Int32) &&& 31).toUInt32).toInt32) &&& (1 : Int32)) = (0 : Int32) then (0 : Int32) else (1 : Int32)) := ⟨_, rfl⟩
  rw [← hv64] at k63
  have k65 : ∀ tg_, Steps p.tables e below (s₁.setTop (mkF m 25 #[.val (.int p0), .val (.int p1), .val (.int p2), .val (.int p3), .val (.int p4), .val (.int v60), .val (.int v64), .unset, .unset, .unset, .unset, .unset, .unset, .unset, .unset, .unset, .unset, .unset, .unset] [(.int (((p0.toUInt32 >>> ((3 : Int32) &&& 31).toUInt32).toInt32) &&& (3 : Int32)))])) tg_ → Steps p.tables e below (s₁.setTop (entryFrame m #[(.int p0), (.int p1), (.int p2), (.int p3), (.int p4)] maxLocals)) tg_ := by
    intro tg_ kt
    refine k63 tg_ ?_
    refine XS.istore X0.here hx rfl (hb hby at_18) rfl (l' := #[.val (.int p0), .val (.int p1), .val (.int p2), .val (.int p3), .val (.int p4), .val (.int v60), .val (.int v64), .unset, .unset, .unset, .unset, .unset, .unset, .unset, .unset, .unset, .unset, .unset, .unset]) rfl ?_
    show Steps p.tables e below (s₁.setTop (mkF m 20 #[.val (.int p0), .val (.int p1), .val (.int p2), .val (.int p3), .val (.int p4), .val (.int v60), .val (.int v64), .unset, .unset, .unset, .unset, .unset, .unset, .unset, .unset, .unset, .unset, .unset, .unset] [])) _
    refine XS.iloadN X0.here hx rfl (hb hby at_20) rfl ?_
    show Steps p.tables e below (s₁.setTop (mkF m 21 #[.val (.int p0), .val (.int p1), .val (.int p2), .val (.int p3), .val (.int p4), .val (.int v60), .val (.int v64), .unset, .unset, .unset, .unset, .unset, .unset, .unset, .unset, .unset, .unset, .unset, .unset] [(.int p0)])) _
    refine XS.iconst X0.here hx rfl (hb hby at_21) ?_
    show Steps p.tables e below (s₁.setTop (mkF m 22 #[.val (.int p0), .val (.int p1), .val (.int p2), .val (.int p3), .val (.int p4), .val (.int v60), .val (.int v64), .unset, .unset, .unset, .unset, .unset, .unset, .unset, .unset, .unset, .unset, .unset, .unset] [(.int (3 : Int32)), (.int p0)])) _
    refine XS.iushr X0.here hx rfl (hb hby at_22) rfl ?_
    show Steps p.tables e below (s₁.setTop (mkF m 23 #[.val (.int p0), .val (.int p1), .val (.int p2), .val (.int p3), .val (.int p4), .val (.int v60), .val (.int v64), .unset, .unset, .unset, .unset, .unset, .unset, .unset, .unset, .unset, .unset, .unset, .unset] [(.int ((p0.toUInt32 >>> ((3 : Int32) &&& 31).toUInt32).toInt32))])) _
    refine XS.iconst X0.here hx rfl (hb hby at_23) ?_
    show Steps p.tables e below (s₁.setTop (mkF m 24 #[.val (.int p0), .val (.int p1), .val (.int p2), .val (.int p3), .val (.int p4), .val (.int v60), .val (.int v64), .unset, .unset, .unset, .unset, .unset, .unset, .unset, .unset, .unset, .unset, .unset, .unset] [(.int (3 : Int32)), (.int ((p0.toUInt32 >>> ((3 : Int32) &&& 31).toUInt32).toInt32))])) _
    refine XS.iand X0.here hx rfl (hb hby at_24) rfl ?_
    show Steps p.tables e below (s₁.setTop (mkF m 25 #[.val (.int p0), .val (.int p1), .val (.int p2), .val (.int p3), .val (.int p4), .val (.int v60), .val (.int v64), .unset, .unset, .unset, .unset, .unset, .unset, .unset, .unset, .unset, .unset, .unset, .unset] [(.int (((p0.toUInt32 >>> ((3 : Int32) &&& 31).toUInt32).toInt32) &&& (3 : Int32)))])) _
    exact kt
  obtain ⟨v66, hv66⟩ : ∃ z : Int32, z = (((p0.toUInt32 >>> ((3 : Int32) &&& 31).toUInt32).toInt32) &&& (3 : Int32)) := ⟨_, rfl⟩
  rw [← hv66] at k65
  have k67 : ∀ tg_, Steps p.tables e below (s₁.setTop (mkF m 29 #[.val (.int p0), .val (.int p1), .val (.int p2), .val (.int p3), .val (.int p4), .val (.int v60), .val (.int v64), .val (.int v66), .unset, .unset, .unset, .unset, .unset, .unset, .unset, .unset, .unset, .unset, .unset] [(.int (p1.toUInt32.toUInt16.toUInt32.toInt32))])) tg_ → Steps p.tables e below (s₁.setTop (entryFrame m #[(.int p0), (.int p1), (.int p2), (.int p3), (.int p4)] maxLocals)) tg_ := by
    intro tg_ kt
    refine k65 tg_ ?_
    refine XS.istore X0.here hx rfl (hb hby at_25) rfl (l' := #[.val (.int p0), .val (.int p1), .val (.int p2), .val (.int p3), .val (.int p4), .val (.int v60), .val (.int v64), .val (.int v66), .unset, .unset, .unset, .unset, .unset, .unset, .unset, .unset, .unset, .unset, .unset]) rfl ?_
    show Steps p.tables e below (s₁.setTop (mkF m 27 #[.val (.int p0), .val (.int p1), .val (.int p2), .val (.int p3), .val (.int p4), .val (.int v60), .val (.int v64), .val (.int v66), .unset, .unset, .unset, .unset, .unset, .unset, .unset, .unset, .unset, .unset, .unset] [])) _
    refine XS.iloadN X0.here hx rfl (hb hby at_27) rfl ?_
    show Steps p.tables e below (s₁.setTop (mkF m 28 #[.val (.int p0), .val (.int p1), .val (.int p2), .val (.int p3), .val (.int p4), .val (.int v60), .val (.int v64), .val (.int v66), .unset, .unset, .unset, .unset, .unset, .unset, .unset, .unset, .unset, .unset, .unset] [(.int p1)])) _
    refine XS.i2c X0.here hx rfl (hb hby at_28) rfl ?_
    show Steps p.tables e below (s₁.setTop (mkF m 29 #[.val (.int p0), .val (.int p1), .val (.int p2), .val (.int p3), .val (.int p4), .val (.int v60), .val (.int v64), .val (.int v66), .unset, .unset, .unset, .unset, .unset, .unset, .unset, .unset, .unset, .unset, .unset] [(.int (p1.toUInt32.toUInt16.toUInt32.toInt32))])) _
    exact kt
  obtain ⟨v68, hv68⟩ : ∃ z : Int32, z = (p1.toUInt32.toUInt16.toUInt32.toInt32) := ⟨_, rfl⟩
  rw [← hv68] at k67
  have k69 : ∀ tg_, Steps p.tables e below (s₁.setTop (mkF m 36 #[.val (.int p0), .val (.int p1), .val (.int p2), .val (.int p3), .val (.int p4), .val (.int v60), .val (.int v64), .val (.int v66), .val (.int v68), .unset, .unset, .unset, .unset, .unset, .unset, .unset, .unset, .unset, .unset] [(.int (((p1.toUInt32 >>> ((16 : Int32) &&& 31).toUInt32).toInt32).toUInt32.toUInt16.toUInt32.toInt32))])) tg_ → Steps p.tables e below (s₁.setTop (entryFrame m #[(.int p0), (.int p1), (.int p2), (.int p3), (.int p4)] maxLocals)) tg_ := by
    intro tg_ kt
    refine k67 tg_ ?_
    refine XS.istore X0.here hx rfl (hb hby at_29) rfl (l' := #[.val (.int p0), .val (.int p1), .val (.int p2), .val (.int p3), .val (.int p4), .val (.int v60), .val (.int v64), .val (.int v66), .val (.int v68), .unset, .unset, .unset, .unset, .unset, .unset, .unset, .unset, .unset, .unset]) rfl ?_
    show Steps p.tables e below (s₁.setTop (mkF m 31 #[.val (.int p0), .val (.int p1), .val (.int p2), .val (.int p3), .val (.int p4), .val (.int v60), .val (.int v64), .val (.int v66), .val (.int v68), .unset, .unset, .unset, .unset, .unset, .unset, .unset, .unset, .unset, .unset] [])) _
    refine XS.iloadN X0.here hx rfl (hb hby at_31) rfl ?_
    show Steps p.tables e below (s₁.setTop (mkF m 32 #[.val (.int p0), .val (.int p1), .val (.int p2), .val (.int p3), .val (.int p4), .val (.int v60), .val (.int v64), .val (.int v66), .val (.int v68), .unset, .unset, .unset, .unset, .unset, .unset, .unset, .unset, .unset, .unset] [(.int p1)])) _
    refine XS.bipush X0.here hx rfl (hb hby at_32) ?_
    show Steps p.tables e below (s₁.setTop (mkF m 34 #[.val (.int p0), .val (.int p1), .val (.int p2), .val (.int p3), .val (.int p4), .val (.int v60), .val (.int v64), .val (.int v66), .val (.int v68), .unset, .unset, .unset, .unset, .unset, .unset, .unset, .unset, .unset, .unset] [(.int (16 : Int32)), (.int p1)])) _
    refine XS.iushr X0.here hx rfl (hb hby at_34) rfl ?_
    show Steps p.tables e below (s₁.setTop (mkF m 35 #[.val (.int p0), .val (.int p1), .val (.int p2), .val (.int p3), .val (.int p4), .val (.int v60), .val (.int v64), .val (.int v66), .val (.int v68), .unset, .unset, .unset, .unset, .unset, .unset, .unset, .unset, .unset, .unset] [(.int ((p1.toUInt32 >>> ((16 : Int32) &&& 31).toUInt32).toInt32))])) _
    refine XS.i2c X0.here hx rfl (hb hby at_35) rfl ?_
    show Steps p.tables e below (s₁.setTop (mkF m 36 #[.val (.int p0), .val (.int p1), .val (.int p2), .val (.int p3), .val (.int p4), .val (.int v60), .val (.int v64), .val (.int v66), .val (.int v68), .unset, .unset, .unset, .unset, .unset, .unset, .unset, .unset, .unset, .unset] [(.int (((p1.toUInt32 >>> ((16 : Int32) &&& 31).toUInt32).toInt32).toUInt32.toUInt16.toUInt32.toInt32))])) _
    exact kt
  obtain ⟨v70, hv70⟩ : ∃ z : Int32, z = (((p1.toUInt32 >>> ((16 : Int32) &&& 31).toUInt32).toInt32).toUInt32.toUInt16.toUInt32.toInt32) := ⟨_, rfl⟩
  rw [← hv70] at k69
  have k71 : ∀ tg_, Steps p.tables e below (s₁.setTop (mkF m 40 #[.val (.int p0), .val (.int p1), .val (.int p2), .val (.int p3), .val (.int p4), .val (.int v60), .val (.int v64), .val (.int v66), .val (.int v68), .val (.int v70), .unset, .unset, .unset, .unset, .unset, .unset, .unset, .unset, .unset] [(.int (p2.toUInt32.toUInt16.toUInt32.toInt32))])) tg_ → Steps p.tables e below (s₁.setTop (entryFrame m #[(.int p0), (.int p1), (.int p2), (.int p3), (.int p4)] maxLocals)) tg_ := by
    intro tg_ kt
    refine k69 tg_ ?_
    refine XS.istore X0.here hx rfl (hb hby at_36) rfl (l' := #[.val (.int p0), .val (.int p1), .val (.int p2), .val (.int p3), .val (.int p4), .val (.int v60), .val (.int v64), .val (.int v66), .val (.int v68), .val (.int v70), .unset, .unset, .unset, .unset, .unset, .unset, .unset, .unset, .unset]) rfl ?_
    show Steps p.tables e below (s₁.setTop (mkF m 38 #[.val (.int p0), .val (.int p1), .val (.int p2), .val (.int p3), .val (.int p4), .val (.int v60), .val (.int v64), .val (.int v66), .val (.int v68), .val (.int v70), .unset, .unset, .unset, .unset, .unset, .unset, .unset, .unset, .unset] [])) _
    refine XS.iloadN X0.here hx rfl (hb hby at_38) rfl ?_
    show Steps p.tables e below (s₁.setTop (mkF m 39 #[.val (.int p0), .val (.int p1), .val (.int p2), .val (.int p3), .val (.int p4), .val (.int v60), .val (.int v64), .val (.int v66), .val (.int v68), .val (.int v70), .unset, .unset, .unset, .unset, .unset, .unset, .unset, .unset, .unset] [(.int p2)])) _
    refine XS.i2c X0.here hx rfl (hb hby at_39) rfl ?_
    show Steps p.tables e below (s₁.setTop (mkF m 40 #[.val (.int p0), .val (.int p1), .val (.int p2), .val (.int p3), .val (.int p4), .val (.int v60), .val (.int v64), .val (.int v66), .val (.int v68), .val (.int v70), .unset, .unset, .unset, .unset, .unset, .unset, .unset, .unset, .unset] [(.int (p2.toUInt32.toUInt16.toUInt32.toInt32))])) _
    exact kt
  obtain ⟨v72, hv72⟩ : ∃ z : Int32, z = (p2.toUInt32.toUInt16.toUInt32.toInt32) := ⟨_, rfl⟩
  rw [← hv72] at k71
  have k73 : ∀ tg_, Steps p.tables e below (s₁.setTop (mkF m 47 #[.val (.int p0), .val (.int p1), .val (.int p2), .val (.int p3), .val (.int p4), .val (.int v60), .val (.int v64), .val (.int v66), .val (.int v68), .val (.int v70), .val (.int v72), .unset, .unset, .unset, .unset, .unset, .unset, .unset, .unset] [(.int (((p2.toUInt32 >>> ((16 : Int32) &&& 31).toUInt32).toInt32).toUInt32.toUInt16.toUInt32.toInt32))])) tg_ → Steps p.tables e below (s₁.setTop (entryFrame m #[(.int p0), (.int p1), (.int p2), (.int p3), (.int p4)] maxLocals)) tg_ := by
    intro tg_ kt
    refine k71 tg_ ?_
    refine XS.istore X0.here hx rfl (hb hby at_40) rfl (l' := #[.val (.int p0), .val (.int p1), .val (.int p2), .val (.int p3), .val (.int p4), .val (.int v60), .val (.int v64), .val (.int v66), .val (.int v68), .val (.int v70), .val (.int v72), .unset, .unset, .unset, .unset, .unset, .unset, .unset, .unset]) rfl ?_
    show Steps p.tables e below (s₁.setTop (mkF m 42 #[.val (.int p0), .val (.int p1), .val (.int p2), .val (.int p3), .val (.int p4), .val (.int v60), .val (.int v64), .val (.int v66), .val (.int v68), .val (.int v70), .val (.int v72), .unset, .unset, .unset, .unset, .unset, .unset, .unset, .unset] [])) _
    refine XS.iloadN X0.here hx rfl (hb hby at_42) rfl ?_
    show Steps p.tables e below (s₁.setTop (mkF m 43 #[.val (.int p0), .val (.int p1), .val (.int p2), .val (.int p3), .val (.int p4), .val (.int v60), .val (.int v64), .val (.int v66), .val (.int v68), .val (.int v70), .val (.int v72), .unset, .unset, .unset, .unset, .unset, .unset, .unset, .unset] [(.int p2)])) _
    refine XS.bipush X0.here hx rfl (hb hby at_43) ?_
    show Steps p.tables e below (s₁.setTop (mkF m 45 #[.val (.int p0), .val (.int p1), .val (.int p2), .val (.int p3), .val (.int p4), .val (.int v60), .val (.int v64), .val (.int v66), .val (.int v68), .val (.int v70), .val (.int v72), .unset, .unset, .unset, .unset, .unset, .unset, .unset, .unset] [(.int (16 : Int32)), (.int p2)])) _
    refine XS.iushr X0.here hx rfl (hb hby at_45) rfl ?_
    show Steps p.tables e below (s₁.setTop (mkF m 46 #[.val (.int p0), .val (.int p1), .val (.int p2), .val (.int p3), .val (.int p4), .val (.int v60), .val (.int v64), .val (.int v66), .val (.int v68), .val (.int v70), .val (.int v72), .unset, .unset, .unset, .unset, .unset, .unset, .unset, .unset] [(.int ((p2.toUInt32 >>> ((16 : Int32) &&& 31).toUInt32).toInt32))])) _
    refine XS.i2c X0.here hx rfl (hb hby at_46) rfl ?_
    show Steps p.tables e below (s₁.setTop (mkF m 47 #[.val (.int p0), .val (.int p1), .val (.int p2), .val (.int p3), .val (.int p4), .val (.int v60), .val (.int v64), .val (.int v66), .val (.int v68), .val (.int v70), .val (.int v72), .unset, .unset, .unset, .unset, .unset, .unset, .unset, .unset] [(.int (((p2.toUInt32 >>> ((16 : Int32) &&& 31).toUInt32).toInt32).toUInt32.toUInt16.toUInt32.toInt32))])) _
    exact kt
  obtain ⟨v74, hv74⟩ : ∃ z : Int32, z = (((p2.toUInt32 >>> ((16 : Int32) &&& 31).toUInt32).toInt32).toUInt32.toUInt16.toUInt32.toInt32) := ⟨_, rfl⟩
  rw [← hv74] at k73
  obtain ⟨T75, h75, X75, e75, E75, A75, D75, -, st75⟩ := newO X0 hx hZ hown (hw _ (List.mem_of_getElem? (i := 0) rfl)) (hw _ (List.mem_of_getElem? (i := 1) rfl)) (hw _ (List.mem_of_getElem? (i := 2) rfl)) e0 (g := (mkF m 49 #[.val (.int p0), .val (.int p1), .val (.int p2), .val (.int p3), .val (.int p4), .val (.int v60), .val (.int v64), .val (.int v66), .val (.int v68), .val (.int v70), .val (.int v72), .val (.int v74), .unset, .unset, .unset, .unset, .unset, .unset, .unset] [])) rfl (hb hby at_49) (by decide) (by decide)
  obtain ⟨b75, g75⟩ : ∃ z, z = h0.size := ⟨_, rfl⟩
  rw [← g75] at A75 D75 st75
  have ge_b75 : n0 ≤ b75 := Nat.le_trans Z0 (Nat.le_of_eq g75.symm)
  have F76 : Fld Z h75 b75 "com/example/abak/abak/io/HeaderText" "chars" "[C" .null := D75 (Or.inl (hw _ (List.mem_of_getElem? (i := 11) rfl))) (ty := (.array .char)) (by decide)
  have F77 : Fld Z h75 b75 "com/example/abak/abak/io/HeaderText" "length" "I" (.int (0 : Int32)) := D75 (Or.inl (hw _ (List.mem_of_getElem? (i := 18) rfl))) (ty := .int) (by decide)
  have F78 : Fld Z h75 b75 "com/example/abak/abak/io/HeaderText" "string" "Ljava/lang/String;" .null := D75 (Or.inl (hw _ (List.mem_of_getElem? (i := 29) rfl))) (ty := (.object "java/lang/String")) (by decide)
  have f79 := (Nat.le_trans Z0 ((Keep.refl _ []).ext E75).1)
  obtain ⟨_, _, ⟨T80, L80, kc80, nc80⟩, -, X80, ⟨Lc80, hQ80, l80, y80, z80⟩, st80⟩ := X75.specialBack hx (y := (⟨"com/example/abak/abak/io/HeaderText", "<init>", "()V"⟩ : MethodName)) rfl hown (mvT hZ (hw _ (List.mem_of_getElem? (i := 3) rfl))) (mvT hZ (hw _ (List.mem_of_getElem? (i := 4) rfl))) (mvT hZ (hw _ (List.mem_of_getElem? (i := 5) rfl))) (by decide) (backOf (W := 1) (rm1 l Z a0 hw [] b75 h75 n0 f79 A75 F76 F77 F78 ge_b75) hZ (hw _ (List.mem_of_getElem? (i := 5) rfl)) (hw _ (List.mem_of_getElem? (i := 2) rfl)) (by decide) (by decide)) (g := (mkF m 53 #[.val (.int p0), .val (.int p1), .val (.int p2), .val (.int p3), .val (.int p4), .val (.int v60), .val (.int v64), .val (.int v66), .val (.int v68), .val (.int v70), .val (.int v72), .val (.int v74), .unset, .unset, .unset, .unset, .unset, .unset, .unset] [(.ref b75), (.ref b75)])) rfl (by rw [hml]; rfl) (Steps.refl _) (a := b75) (argsL := []) (rest := [(.ref b75)]) (lenOf pd_0 rfl) rfl (by show 2 * 0 + _ ≤ _; exact Nat.le_of_eq rfl) (hb hby at_53) (fun _ _ => ⟨rfl, e75, (by decide : 1 + 1 ≤ _), (by decide : 3 + 256 ≤ _)⟩)
  dsimp only [Pt.U, Pt.locs, Pt.cells, Pt.slots] at X80 l80 y80 z80 st80 hQ80
  subst l80 y80 z80
  obtain ⟨rfl, Nq80, oK80, oFtlength80, oFtstring80, m0_80⟩ := hQ80
  have N80 := Fr.app N0 Nq80
  obtain ⟨ca80, Fc80, Vc80, gc80, nc_80⟩ := m0_80
  have k81 : ∀ tg_, Steps p.tables e below (T80.setTop (mkF m 67 #[.val (.int p0), .val (.int p1), .val (.int p2), .val (.int p3), .val (.int p4), .val (.int v60), .val (.int v64), .val (.int v66), .val (.int v68), .val (.int v70), .val (.int v72), .val (.int v74), .val (.ref b75), .val (.int (0 : Int32)), .val (.int (0 : Int32)), .val (.int (0 : Int32)), .unset, .unset, .unset] [])) tg_ → Steps p.tables e below (s₁.setTop (entryFrame m #[(.int p0), (.int p1), (.int p2), (.int p3), (.int p4)] maxLocals)) tg_ := by
    intro tg_ kt
    refine k73 tg_ ?_
    refine XS.istore X0.here hx rfl (hb hby at_47) rfl (l' := #[.val (.int p0), .val (.int p1), .val (.int p2), .val (.int p3), .val (.int p4), .val (.int v60), .val (.int v64), .val (.int v66), .val (.int v68), .val (.int v70), .val (.int v72), .val (.int v74), .unset, .unset, .unset, .unset, .unset, .unset, .unset]) rfl ?_
    show Steps p.tables e below (s₁.setTop (mkF m 49 #[.val (.int p0), .val (.int p1), .val (.int p2), .val (.int p3), .val (.int p4), .val (.int v60), .val (.int v64), .val (.int v66), .val (.int v68), .val (.int v70), .val (.int v72), .val (.int v74), .unset, .unset, .unset, .unset, .unset, .unset, .unset] [])) _
    refine st75 _ ?_
    show Steps p.tables e below (T75.setTop (mkF m 52 #[.val (.int p0), .val (.int p1), .val (.int p2), .val (.int p3), .val (.int p4), .val (.int v60), .val (.int v64), .val (.int v66), .val (.int v68), .val (.int v70), .val (.int v72), .val (.int v74), .unset, .unset, .unset, .unset, .unset, .unset, .unset] [(.ref b75)])) _
    refine XS.dup X75.here hx rfl (hb hby at_52) rfl rfl ?_
    show Steps p.tables e below (T75.setTop (mkF m 53 #[.val (.int p0), .val (.int p1), .val (.int p2), .val (.int p3), .val (.int p4), .val (.int v60), .val (.int v64), .val (.int v66), .val (.int v68), .val (.int v70), .val (.int v72), .val (.int v74), .unset, .unset, .unset, .unset, .unset, .unset, .unset] [(.ref b75), (.ref b75)])) _
    refine st80.trans ?_
    show Steps p.tables e below (T80.setTop (mkF m 56 #[.val (.int p0), .val (.int p1), .val (.int p2), .val (.int p3), .val (.int p4), .val (.int v60), .val (.int v64), .val (.int v66), .val (.int v68), .val (.int v70), .val (.int v72), .val (.int v74), .unset, .unset, .unset, .unset, .unset, .unset, .unset] [(.ref b75)])) _
    refine XS.astore X80.here hx rfl (hb hby at_56) rfl rfl (l' := #[.val (.int p0), .val (.int p1), .val (.int p2), .val (.int p3), .val (.int p4), .val (.int v60), .val (.int v64), .val (.int v66), .val (.int v68), .val (.int v70), .val (.int v72), .val (.int v74), .val (.ref b75), .unset, .unset, .unset, .unset, .unset, .unset]) rfl ?_
    show Steps p.tables e below (T80.setTop (mkF m 58 #[.val (.int p0), .val (.int p1), .val (.int p2), .val (.int p3), .val (.int p4), .val (.int v60), .val (.int v64), .val (.int v66), .val (.int v68), .val (.int v70), .val (.int v72), .val (.int v74), .val (.ref b75), .unset, .unset, .unset, .unset, .unset, .unset] [])) _
    refine XS.iconst X80.here hx rfl (hb hby at_58) ?_
    show Steps p.tables e below (T80.setTop (mkF m 59 #[.val (.int p0), .val (.int p1), .val (.int p2), .val (.int p3), .val (.int p4), .val (.int v60), .val (.int v64), .val (.int v66), .val (.int v68), .val (.int v70), .val (.int v72), .val (.int v74), .val (.ref b75), .unset, .unset, .unset, .unset, .unset, .unset] [(.int (0 : Int32))])) _
    refine XS.istore X80.here hx rfl (hb hby at_59) rfl (l' := #[.val (.int p0), .val (.int p1), .val (.int p2), .val (.int p3), .val (.int p4), .val (.int v60), .val (.int v64), .val (.int v66), .val (.int v68), .val (.int v70), .val (.int v72), .val (.int v74), .val (.ref b75), .val (.int (0 : Int32)), .unset, .unset, .unset, .unset, .unset]) rfl ?_
    show Steps p.tables e below (T80.setTop (mkF m 61 #[.val (.int p0), .val (.int p1), .val (.int p2), .val (.int p3), .val (.int p4), .val (.int v60), .val (.int v64), .val (.int v66), .val (.int v68), .val (.int v70), .val (.int v72), .val (.int v74), .val (.ref b75), .val (.int (0 : Int32)), .unset, .unset, .unset, .unset, .unset] [])) _
    refine XS.iconst X80.here hx rfl (hb hby at_61) ?_
    show Steps p.tables e below (T80.setTop (mkF m 62 #[.val (.int p0), .val (.int p1), .val (.int p2), .val (.int p3), .val (.int p4), .val (.int v60), .val (.int v64), .val (.int v66), .val (.int v68), .val (.int v70), .val (.int v72), .val (.int v74), .val (.ref b75), .val (.int (0 : Int32)), .unset, .unset, .unset, .unset, .unset] [(.int (0 : Int32))])) _
    refine XS.istore X80.here hx rfl (hb hby at_62) rfl (l' := #[.val (.int p0), .val (.int p1), .val (.int p2), .val (.int p3), .val (.int p4), .val (.int v60), .val (.int v64), .val (.int v66), .val (.int v68), .val (.int v70), .val (.int v72), .val (.int v74), .val (.ref b75), .val (.int (0 : Int32)), .val (.int (0 : Int32)), .unset, .unset, .unset, .unset]) rfl ?_
    show Steps p.tables e below (T80.setTop (mkF m 64 #[.val (.int p0), .val (.int p1), .val (.int p2), .val (.int p3), .val (.int p4), .val (.int v60), .val (.int v64), .val (.int v66), .val (.int v68), .val (.int v70), .val (.int v72), .val (.int v74), .val (.ref b75), .val (.int (0 : Int32)), .val (.int (0 : Int32)), .unset, .unset, .unset, .unset] [])) _
    refine XS.iconst X80.here hx rfl (hb hby at_64) ?_
    show Steps p.tables e below (T80.setTop (mkF m 65 #[.val (.int p0), .val (.int p1), .val (.int p2), .val (.int p3), .val (.int p4), .val (.int v60), .val (.int v64), .val (.int v66), .val (.int v68), .val (.int v70), .val (.int v72), .val (.int v74), .val (.ref b75), .val (.int (0 : Int32)), .val (.int (0 : Int32)), .unset, .unset, .unset, .unset] [(.int (0 : Int32))])) _
    refine XS.istore X80.here hx rfl (hb hby at_65) rfl (l' := #[.val (.int p0), .val (.int p1), .val (.int p2), .val (.int p3), .val (.int p4), .val (.int v60), .val (.int v64), .val (.int v66), .val (.int v68), .val (.int v70), .val (.int v72), .val (.int v74), .val (.ref b75), .val (.int (0 : Int32)), .val (.int (0 : Int32)), .val (.int (0 : Int32)), .unset, .unset, .unset]) rfl ?_
    show Steps p.tables e below (T80.setTop (mkF m 67 #[.val (.int p0), .val (.int p1), .val (.int p2), .val (.int p3), .val (.int p4), .val (.int v60), .val (.int v64), .val (.int v66), .val (.int v68), .val (.int v70), .val (.int v72), .val (.int v74), .val (.ref b75), .val (.int (0 : Int32)), .val (.int (0 : Int32)), .val (.int (0 : Int32)), .unset, .unset, .unset] [])) _
    exact kt
  obtain ⟨T82, lc82, h82, ln82, la82, fi82, lf82, f82, X82, e82, N82, z82, j0_82, j1_82, j2_82, j3_82, j4_82, pr0_82, pr1_82, pr2_82, pr3_82, k82⟩ : ∃ (T82 : State) (lc82 : List Loc) (h82 : Heap) (ln82 : Int32) (la82 : Int32) (fi82 : Int32) (lf82 : Int32) (f82 : Nat → Int32), Stand p l e room_1 s m #[(.int p0), (.int p1), (.int p2), (.int p3), (.int p4)] below meth c T82 lc82 2 259 ∧ T82.heap = h82 ∧ Fr n0 lc82 ∧ n0 ≤ h82.size ∧ Exa Z h82 b75 "com/example/abak/abak/io/HeaderText" ∧ Fld Z h82 b75 "com/example/abak/abak/io/HeaderText" "chars" "[C" (.ref ca80) ∧ Fld Z h82 b75 "com/example/abak/abak/io/HeaderText" "length" "I" (.int lf82) ∧ Fld Z h82 b75 "com/example/abak/abak/io/HeaderText" "string" "Ljava/lang/String;" .null ∧ own_AI Z h82 ca80 .char 256 f82 ∧ (lf82 = ln82) ∧ (0 ≤ ln82.toInt ∧ ln82.toInt ≤ 1) ∧ ((0 < ln82.toInt → f82 (ln82.toInt.toNat - 1) = la82)) ∧ (¬ (v60 < (1 : Int32)) → ln82 = (1 : Int32)) ∧ ∀ tg_, Steps p.tables e below (T82.setTop (mkF m 91 #[.val (.int p0), .val (.int p1), .val (.int p2), .val (.int p3), .val (.int p4), .val (.int v60), .val (.int v64), .val (.int v66), .val (.int v68), .val (.int v70), .val (.int v72), .val (.int v74), .val (.ref b75), .val (.int ln82), .val (.int la82), .val (.int fi82), .unset, .unset, .unset] [])) tg_ → Steps p.tables e below (s₁.setTop (entryFrame m #[(.int p0), (.int p1), (.int p2), (.int p3), (.int p4)] maxLocals)) tg_ := by
    have k83 : ∀ tg_, Steps p.tables e below (T80.setTop (mkF m 70 #[.val (.int p0), .val (.int p1), .val (.int p2), .val (.int p3), .val (.int p4), .val (.int v60), .val (.int v64), .val (.int v66), .val (.int v68), .val (.int v70), .val (.int v72), .val (.int v74), .val (.ref b75), .val (.int (0 : Int32)), .val (.int (0 : Int32)), .val (.int (0 : Int32)), .unset, .unset, .unset] [(.int (1 : Int32)), (.int v60)])) tg_ → Steps p.tables e below (s₁.setTop (entryFrame m #[(.int p0), (.int p1), (.int p2), (.int p3), (.int p4)] maxLocals)) tg_ := by
      intro tg_ kt
      refine k81 tg_ ?_
      refine XS.iload X80.here hx rfl (hb hby at_67) rfl ?_
      show Steps p.tables e below (T80.setTop (mkF m 69 #[.val (.int p0), .val (.int p1), .val (.int p2), .val (.int p3), .val (.int p4), .val (.int v60), .val (.int v64), .val (.int v66), .val (.int v68), .val (.int v70), .val (.int v72), .val (.int v74), .val (.ref b75), .val (.int (0 : Int32)), .val (.int (0 : Int32)), .val (.int (0 : Int32)), .unset, .unset, .unset] [(.int v60)])) _
      refine XS.iconst X80.here hx rfl (hb hby at_69) ?_
      show Steps p.tables e below (T80.setTop (mkF m 70 #[.val (.int p0), .val (.int p1), .val (.int p2), .val (.int p3), .val (.int p4), .val (.int v60), .val (.int v64), .val (.int v66), .val (.int v68), .val (.int v70), .val (.int v72), .val (.int v74), .val (.ref b75), .val (.int (0 : Int32)), .val (.int (0 : Int32)), .val (.int (0 : Int32)), .unset, .unset, .unset] [(.int (1 : Int32)), (.int v60)])) _
      exact kt
    by_cases hc70_84 : v60 < (1 : Int32)
    · have k85 : ∀ tg_, Steps p.tables e below (T80.setTop (mkF m 91 #[.val (.int p0), .val (.int p1), .val (.int p2), .val (.int p3), .val (.int p4), .val (.int v60), .val (.int v64), .val (.int v66), .val (.int v68), .val (.int v70), .val (.int v72), .val (.int v74), .val (.ref b75), .val (.int (0 : Int32)), .val (.int (0 : Int32)), .val (.int (0 : Int32)), .unset, .unset, .unset] [])) tg_ → Steps p.tables e below (s₁.setTop (entryFrame m #[(.int p0), (.int p1), (.int p2), (.int p3), (.int p4)] maxLocals)) tg_ := by
        intro tg_ kt
        refine k83 tg_ ?_
        refine XS.icmpYes X80.here hx rfl (pc0 := 70) (pc' := 91) rfl (hb hby at_70) rfl (tlt hc70_84).1 (by decide) (by decide) ?_
        show Steps p.tables e below (T80.setTop (mkF m 91 #[.val (.int p0), .val (.int p1), .val (.int p2), .val (.int p3), .val (.int p4), .val (.int v60), .val (.int v64), .val (.int v66), .val (.int v68), .val (.int v70), .val (.int v72), .val (.int v74), .val (.ref b75), .val (.int (0 : Int32)), .val (.int (0 : Int32)), .val (.int (0 : Int32)), .unset, .unset, .unset] [])) _
        exact kt
      have f86 := (Nat.le_trans f79 oK80.1)
      have f87 := (A75.keep oK80)
      exact ⟨T80, _, T80.heap, (0 : Int32), (0 : Int32), (0 : Int32), (0 : Int32), (fun _ => 0), X80, rfl, N80, f86, f87, Fc80, oFtlength80, oFtstring80, Vc80, rfl, (by decide), (fun q => absurd q (by decide)), (fun qq_ => absurd hc70_84 qq_), k85⟩
    · have f90 := (Nat.le_trans f79 oK80.1)
      have f91 := (A75.keep oK80)
      obtain ⟨cq92, kq92, q92a, q92b, q92c⟩ := isOf hZ rfl f91
      obtain ⟨_, _, ⟨T92, L92, kc92, nc92⟩, -, X92, ⟨Lc92, hQ92, l92, y92, z92⟩, st92⟩ := X80.virtualBack hx (y := (⟨"com/example/abak/abak/io/HeaderText", "add", "(C)V"⟩ : MethodName)) (z := (⟨"com/example/abak/abak/io/HeaderText", "add", "(C)V"⟩ : MethodName)) hown (mvT hZ (hw _ (List.mem_of_getElem? (i := 19) rfl))) (mvT hZ (hw _ (List.mem_of_getElem? (i := 20) rfl))) (notFace_of_selects (args := #[]) (mvT hZ (hw _ (List.mem_of_getElem? (i := 22) rfl)))) (mvT hZ (hw _ (List.mem_of_getElem? (i := 22) rfl))) (mvT hZ (hw _ (List.mem_of_getElem? (i := 21) rfl))) (by decide) (backOf (W := 0) (rm4 l Z a0 hw [] b75 v68 ca80 (0 : Int32) 0 (fun _ => 0) T80.heap n0 f90 f91 Fc80 oFtlength80 oFtstring80 Vc80 ge_b75 gc80 nc_80 (by decide) (by decide)) hZ (hw _ (List.mem_of_getElem? (i := 23) rfl)) (hw _ (List.mem_of_getElem? (i := 2) rfl)) (by decide) (by decide)) q92a q92c (g := (mkF m 77 #[.val (.int p0), .val (.int p1), .val (.int p2), .val (.int p3), .val (.int p4), .val (.int v60), .val (.int v64), .val (.int v66), .val (.int v68), .val (.int v70), .val (.int v72), .val (.int v74), .val (.ref b75), .val (.int (0 : Int32)), .val (.int (0 : Int32)), .val (.int (0 : Int32)), .unset, .unset, .unset] [(.int v68), (.ref b75)])) rfl (by rw [hml]; rfl) (Steps.refl _) (argsL := [(.int v68)]) (rest := []) (lenOf pd_2 rfl) rfl (by show 2 * 0 + _ ≤ _; exact Nat.le_of_eq rfl) (hb hby at_77) (fun _ _ => ⟨rfl, rfl, (by decide : 2 + 0 ≤ _), (by decide : 259 + 0 ≤ _)⟩)
      dsimp only [Pt.U, Pt.locs, Pt.cells, Pt.slots] at X92 l92 y92 z92 st92 hQ92
      subst l92 y92 z92
      obtain ⟨rfl, Nq92, oK92, oFtchars92, oFtlength92, oFtstring92, oAca92⟩ := hQ92
      have N92 := Fr.app N80 Nq92
      have k93 : ∀ tg_, Steps p.tables e below (T92.setTop (mkF m 91 #[.val (.int p0), .val (.int p1), .val (.int p2), .val (.int p3), .val (.int p4), .val (.int v60), .val (.int v64), .val (.int v66), .val (.int v68), .val (.int v70), .val (.int v72), .val (.int v74), .val (.ref b75), .val (.int (1 : Int32)), .val (.int v68), .val (.int v68), .unset, .unset, .unset] [])) tg_ → Steps p.tables e below (s₁.setTop (entryFrame m #[(.int p0), (.int p1), (.int p2), (.int p3), (.int p4)] maxLocals)) tg_ := by
        intro tg_ kt
        refine k83 tg_ ?_
        refine XS.icmpNo X80.here hx rfl (hb hby at_70) rfl (flt hc70_84).1 ?_
        show Steps p.tables e below (T80.setTop (mkF m 73 #[.val (.int p0), .val (.int p1), .val (.int p2), .val (.int p3), .val (.int p4), .val (.int v60), .val (.int v64), .val (.int v66), .val (.int v68), .val (.int v70), .val (.int v72), .val (.int v74), .val (.ref b75), .val (.int (0 : Int32)), .val (.int (0 : Int32)), .val (.int (0 : Int32)), .unset, .unset, .unset] [])) _
        refine XS.aload X80.here hx rfl (hb hby at_73) rfl rfl ?_
        show Steps p.tables e below (T80.setTop (mkF m 75 #[.val (.int p0), .val (.int p1), .val (.int p2), .val (.int p3), .val (.int p4), .val (.int v60), .val (.int v64), .val (.int v66), .val (.int v68), .val (.int v70), .val (.int v72), .val (.int v74), .val (.ref b75), .val (.int (0 : Int32)), .val (.int (0 : Int32)), .val (.int (0 : Int32)), .unset, .unset, .unset] [(.ref b75)])) _
        refine XS.iload X80.here hx rfl (hb hby at_75) rfl ?_
        show Steps p.tables e below (T80.setTop (mkF m 77 #[.val (.int p0), .val (.int p1), .val (.int p2), .val (.int p3), .val (.int p4), .val (.int v60), .val (.int v64), .val (.int v66), .val (.int v68), .val (.int v70), .val (.int v72), .val (.int v74), .val (.ref b75), .val (.int (0 : Int32)), .val (.int (0 : Int32)), .val (.int (0 : Int32)), .unset, .unset, .unset] [(.int v68), (.ref b75)])) _
        refine st92.trans ?_
        show Steps p.tables e below (T92.setTop (mkF m 80 #[.val (.int p0), .val (.int p1), .val (.int p2), .val (.int p3), .val (.int p4), .val (.int v60), .val (.int v64), .val (.int v66), .val (.int v68), .val (.int v70), .val (.int v72), .val (.int v74), .val (.ref b75), .val (.int (0 : Int32)), .val (.int (0 : Int32)), .val (.int (0 : Int32)), .unset, .unset, .unset] [])) _
        refine XS.iconst X92.here hx rfl (hb hby at_80) ?_
        show Steps p.tables e below (T92.setTop (mkF m 81 #[.val (.int p0), .val (.int p1), .val (.int p2), .val (.int p3), .val (.int p4), .val (.int v60), .val (.int v64), .val (.int v66), .val (.int v68), .val (.int v70), .val (.int v72), .val (.int v74), .val (.ref b75), .val (.int (0 : Int32)), .val (.int (0 : Int32)), .val (.int (0 : Int32)), .unset, .unset, .unset] [(.int (1 : Int32))])) _
        refine XS.istore X92.here hx rfl (hb hby at_81) rfl (l' := #[.val (.int p0), .val (.int p1), .val (.int p2), .val (.int p3), .val (.int p4), .val (.int v60), .val (.int v64), .val (.int v66), .val (.int v68), .val (.int v70), .val (.int v72), .val (.int v74), .val (.ref b75), .val (.int (1 : Int32)), .val (.int (0 : Int32)), .val (.int (0 : Int32)), .unset, .unset, .unset]) rfl ?_
        show Steps p.tables e below (T92.setTop (mkF m 83 #[.val (.int p0), .val (.int p1), .val (.int p2), .val (.int p3), .val (.int p4), .val (.int v60), .val (.int v64), .val (.int v66), .val (.int v68), .val (.int v70), .val (.int v72), .val (.int v74), .val (.ref b75), .val (.int (1 : Int32)), .val (.int (0 : Int32)), .val (.int (0 : Int32)), .unset, .unset, .unset] [])) _
        refine XS.iload X92.here hx rfl (hb hby at_83) rfl ?_
        show Steps p.tables e below (T92.setTop (mkF m 85 #[.val (.int p0), .val (.int p1), .val (.int p2), .val (.int p3), .val (.int p4), .val (.int v60), .val (.int v64), .val (.int v66), .val (.int v68), .val (.int v70), .val (.int v72), .val (.int v74), .val (.ref b75), .val (.int (1 : Int32)), .val (.int (0 : Int32)), .val (.int (0 : Int32)), .unset, .unset, .unset] [(.int v68)])) _
        refine XS.istore X92.here hx rfl (hb hby at_85) rfl (l' := #[.val (.int p0), .val (.int p1), .val (.int p2), .val (.int p3), .val (.int p4), .val (.int v60), .val (.int v64), .val (.int v66), .val (.int v68), .val (.int v70), .val (.int v72), .val (.int v74), .val (.ref b75), .val (.int (1 : Int32)), .val (.int v68), .val (.int (0 : Int32)), .unset, .unset, .unset]) rfl ?_
        show Steps p.tables e below (T92.setTop (mkF m 87 #[.val (.int p0), .val (.int p1), .val (.int p2), .val (.int p3), .val (.int p4), .val (.int v60), .val (.int v64), .val (.int v66), .val (.int v68), .val (.int v70), .val (.int v72), .val (.int v74), .val (.ref b75), .val (.int (1 : Int32)), .val (.int v68), .val (.int (0 : Int32)), .unset, .unset, .unset] [])) _
        refine XS.iload X92.here hx rfl (hb hby at_87) rfl ?_
        show Steps p.tables e below (T92.setTop (mkF m 89 #[.val (.int p0), .val (.int p1), .val (.int p2), .val (.int p3), .val (.int p4), .val (.int v60), .val (.int v64), .val (.int v66), .val (.int v68), .val (.int v70), .val (.int v72), .val (.int v74), .val (.ref b75), .val (.int (1 : Int32)), .val (.int v68), .val (.int (0 : Int32)), .unset, .unset, .unset] [(.int v68)])) _
        refine XS.istore X92.here hx rfl (hb hby at_89) rfl (l' := #[.val (.int p0), .val (.int p1), .val (.int p2), .val (.int p3), .val (.int p4), .val (.int v60), .val (.int v64), .val (.int v66), .val (.int v68), .val (.int v70), .val (.int v72), .val (.int v74), .val (.ref b75), .val (.int (1 : Int32)), .val (.int v68), .val (.int v68), .unset, .unset, .unset]) rfl ?_
        show Steps p.tables e below (T92.setTop (mkF m 91 #[.val (.int p0), .val (.int p1), .val (.int p2), .val (.int p3), .val (.int p4), .val (.int v60), .val (.int v64), .val (.int v66), .val (.int v68), .val (.int v70), .val (.int v72), .val (.int v74), .val (.ref b75), .val (.int (1 : Int32)), .val (.int v68), .val (.int v68), .unset, .unset, .unset] [])) _
        exact kt
      have f94 := (Nat.le_trans f90 oK92.1)
      have f95 := (f91.keep oK92)
      have hla96 : 0 < (1 : Int32).toInt → (own_upd (fun _ => 0) 0 (v68.toUInt32.toUInt16.toUInt32.toInt32)) ((1 : Int32).toInt.toNat - 1) = v68 := fun _ => by
        have ar97 : (1 : Int32).toInt = 1 := by decide
        simp only [own_upd]
        rw [if_pos (by first | omega | decide), hv68]
        exact own_cc _
      exact ⟨T92, _, T92.heap, (1 : Int32), v68, v68, ((0 : Int32) + (1 : Int32)), (own_upd (fun _ => 0) 0 (v68.toUInt32.toUInt16.toUInt32.toInt32)), X92, rfl, N92, f94, f95, oFtchars92, oFtlength92, oFtstring92, oAca92, (by decide), (by decide), hla96, (fun _ => rfl), k93⟩
  subst pr0_82
  have hb91 := pr1_82
  obtain ⟨T98, lc98, h98, ln98, la98, fi98, lf98, f98, X98, e98, N98, z98, j0_98, j1_98, j2_98, j3_98, j4_98, pr0_98, pr1_98, pr2_98, k98⟩ : ∃ (T98 : State) (lc98 : List Loc) (h98 : Heap) (ln98 : Int32) (la98 : Int32) (fi98 : Int32) (lf98 : Int32) (f98 : Nat → Int32), Stand p l e room_1 s m #[(.int p0), (.int p1), (.int p2), (.int p3), (.int p4)] below meth c T98 lc98 2 259 ∧ T98.heap = h98 ∧ Fr n0 lc98 ∧ n0 ≤ h98.size ∧ Exa Z h98 b75 "com/example/abak/abak/io/HeaderText" ∧ Fld Z h98 b75 "com/example/abak/abak/io/HeaderText" "chars" "[C" (.ref ca80) ∧ Fld Z h98 b75 "com/example/abak/abak/io/HeaderText" "length" "I" (.int lf98) ∧ Fld Z h98 b75 "com/example/abak/abak/io/HeaderText" "string" "Ljava/lang/String;" .null ∧ own_AI Z h98 ca80 .char 256 f98 ∧ (lf98 = ln98) ∧ (0 ≤ ln98.toInt ∧ ln98.toInt ≤ 2) ∧ ((0 < ln98.toInt → f98 (ln98.toInt.toNat - 1) = la98)) ∧ ∀ tg_, Steps p.tables e below (T98.setTop (mkF m 111 #[.val (.int p0), .val (.int p1), .val (.int p2), .val (.int p3), .val (.int p4), .val (.int v60), .val (.int v64), .val (.int v66), .val (.int v68), .val (.int v70), .val (.int v72), .val (.int v74), .val (.ref b75), .val (.int ln98), .val (.int la98), .val (.int fi98), .unset, .unset, .unset] [])) tg_ → Steps p.tables e below (s₁.setTop (entryFrame m #[(.int p0), (.int p1), (.int p2), (.int p3), (.int p4)] maxLocals)) tg_ := by
    have k99 : ∀ tg_, Steps p.tables e below (T82.setTop (mkF m 94 #[.val (.int p0), .val (.int p1), .val (.int p2), .val (.int p3), .val (.int p4), .val (.int v60), .val (.int v64), .val (.int v66), .val (.int v68), .val (.int v70), .val (.int v72), .val (.int v74), .val (.ref b75), .val (.int lf82), .val (.int la82), .val (.int fi82), .unset, .unset, .unset] [(.int (2 : Int32)), (.int v60)])) tg_ → Steps p.tables e below (s₁.setTop (entryFrame m #[(.int p0), (.int p1), (.int p2), (.int p3), (.int p4)] maxLocals)) tg_ := by
      intro tg_ kt
      refine k82 tg_ ?_
      refine XS.iload X82.here hx rfl (hb hby at_91) rfl ?_
      show Steps p.tables e below (T82.setTop (mkF m 93 #[.val (.int p0), .val (.int p1), .val (.int p2), .val (.int p3), .val (.int p4), .val (.int v60), .val (.int v64), .val (.int v66), .val (.int v68), .val (.int v70), .val (.int v72), .val (.int v74), .val (.ref b75), .val (.int lf82), .val (.int la82), .val (.int fi82), .unset, .unset, .unset] [(.int v60)])) _
      refine XS.iconst X82.here hx rfl (hb hby at_93) ?_
      show Steps p.tables e below (T82.setTop (mkF m 94 #[.val (.int p0), .val (.int p1), .val (.int p2), .val (.int p3), .val (.int p4), .val (.int v60), .val (.int v64), .val (.int v66), .val (.int v68), .val (.int v70), .val (.int v72), .val (.int v74), .val (.ref b75), .val (.int lf82), .val (.int la82), .val (.int fi82), .unset, .unset, .unset] [(.int (2 : Int32)), (.int v60)])) _
      exact kt
    by_cases hc94_100 : v60 < (2 : Int32)
    · have k101 : ∀ tg_, Steps p.tables e below (T82.setTop (mkF m 111 #[.val (.int p0), .val (.int p1), .val (.int p2), .val (.int p3), .val (.int p4), .val (.int v60), .val (.int v64), .val (.int v66), .val (.int v68), .val (.int v70), .val (.int v72), .val (.int v74), .val (.ref b75), .val (.int lf82), .val (.int la82), .val (.int fi82), .unset, .unset, .unset] [])) tg_ → Steps p.tables e below (s₁.setTop (entryFrame m #[(.int p0), (.int p1), (.int p2), (.int p3), (.int p4)] maxLocals)) tg_ := by
        intro tg_ kt
        refine k99 tg_ ?_
        refine XS.icmpYes X82.here hx rfl (pc0 := 94) (pc' := 111) rfl (hb hby at_94) rfl (tlt hc94_100).1 (by decide) (by decide) ?_
        show Steps p.tables e below (T82.setTop (mkF m 111 #[.val (.int p0), .val (.int p1), .val (.int p2), .val (.int p3), .val (.int p4), .val (.int v60), .val (.int v64), .val (.int v66), .val (.int v68), .val (.int v70), .val (.int v72), .val (.int v74), .val (.ref b75), .val (.int lf82), .val (.int la82), .val (.int fi82), .unset, .unset, .unset] [])) _
        exact kt
      have hbd102 : 0 ≤ lf82.toInt ∧ lf82.toInt ≤ 2 := by
        have ar103 := rng32 lf82
        omega
      exact ⟨T82, _, h82, lf82, la82, fi82, lf82, f82, X82, e82, N82, z82, j0_82, j1_82, j2_82, j3_82, j4_82, rfl, hbd102, pr2_82, k101⟩
    · obtain ⟨kn105, hkn105, hkl105⟩ : ∃ k : Nat, lf82.toInt = (k : Int) ∧ k < 200 := ⟨lf82.toInt.toNat, by omega, by omega⟩
      obtain ⟨cq106, kq106, q106a, q106b, q106c⟩ := isOf hZ e82 j0_82
      obtain ⟨_, _, ⟨T106, L106, kc106, nc106⟩, -, X106, ⟨Lc106, hQ106, l106, y106, z106⟩, st106⟩ := X82.virtualBack hx (y := (⟨"com/example/abak/abak/io/HeaderText", "add", "(C)V"⟩ : MethodName)) (z := (⟨"com/example/abak/abak/io/HeaderText", "add", "(C)V"⟩ : MethodName)) hown (mvT hZ (hw _ (List.mem_of_getElem? (i := 19) rfl))) (mvT hZ (hw _ (List.mem_of_getElem? (i := 20) rfl))) (notFace_of_selects (args := #[]) (mvT hZ (hw _ (List.mem_of_getElem? (i := 22) rfl)))) (mvT hZ (hw _ (List.mem_of_getElem? (i := 22) rfl))) (mvT hZ (hw _ (List.mem_of_getElem? (i := 21) rfl))) (by decide) (backOf (W := 0) (rm4 l Z a0 hw [] b75 v70 ca80 lf82 kn105 f82 h82 n0 z82 j0_82 j1_82 j2_82 j3_82 j4_82 ge_b75 gc80 nc_80 hkn105 hkl105) hZ (hw _ (List.mem_of_getElem? (i := 23) rfl)) (hw _ (List.mem_of_getElem? (i := 2) rfl)) (by decide) (by decide)) q106a q106c (g := (mkF m 101 #[.val (.int p0), .val (.int p1), .val (.int p2), .val (.int p3), .val (.int p4), .val (.int v60), .val (.int v64), .val (.int v66), .val (.int v68), .val (.int v70), .val (.int v72), .val (.int v74), .val (.ref b75), .val (.int lf82), .val (.int la82), .val (.int fi82), .unset, .unset, .unset] [(.int v70), (.ref b75)])) rfl (by rw [hml]; rfl) (Steps.refl _) (argsL := [(.int v70)]) (rest := []) (lenOf pd_2 rfl) rfl (by show 2 * 0 + _ ≤ _; exact Nat.le_of_eq rfl) (hb hby at_101) (fun _ _ => ⟨rfl, e82, (by decide : 2 + 0 ≤ _), (by decide : 259 + 0 ≤ _)⟩)
      dsimp only [Pt.U, Pt.locs, Pt.cells, Pt.slots] at X106 l106 y106 z106 st106 hQ106
      subst l106 y106 z106
      obtain ⟨rfl, Nq106, oK106, oFtchars106, oFtlength106, oFtstring106, oAca106⟩ := hQ106
      have N106 := Fr.app N82 Nq106
      have k107 : ∀ tg_, Steps p.tables e below (T106.setTop (mkF m 111 #[.val (.int p0), .val (.int p1), .val (.int p2), .val (.int p3), .val (.int p4), .val (.int v60), .val (.int v64), .val (.int v66), .val (.int v68), .val (.int v70), .val (.int v72), .val (.int v74), .val (.ref b75), .val (.int (2 : Int32)), .val (.int v70), .val (.int fi82), .unset, .unset, .unset] [])) tg_ → Steps p.tables e below (s₁.setTop (entryFrame m #[(.int p0), (.int p1), (.int p2), (.int p3), (.int p4)] maxLocals)) tg_ := by
        intro tg_ kt
        refine k99 tg_ ?_
        refine XS.icmpNo X82.here hx rfl (hb hby at_94) rfl (flt hc94_100).1 ?_
        show Steps p.tables e below (T82.setTop (mkF m 97 #[.val (.int p0), .val (.int p1), .val (.int p2), .val (.int p3), .val (.int p4), .val (.int v60), .val (.int v64), .val (.int v66), .val (.int v68), .val (.int v70), .val (.int v72), .val (.int v74), .val (.ref b75), .val (.int lf82), .val (.int la82), .val (.int fi82), .unset, .unset, .unset] [])) _
        refine XS.aload X82.here hx rfl (hb hby at_97) rfl rfl ?_
        show Steps p.tables e below (T82.setTop (mkF m 99 #[.val (.int p0), .val (.int p1), .val (.int p2), .val (.int p3), .val (.int p4), .val (.int v60), .val (.int v64), .val (.int v66), .val (.int v68), .val (.int v70), .val (.int v72), .val (.int v74), .val (.ref b75), .val (.int lf82), .val (.int la82), .val (.int fi82), .unset, .unset, .unset] [(.ref b75)])) _
        refine XS.iload X82.here hx rfl (hb hby at_99) rfl ?_
        show Steps p.tables e below (T82.setTop (mkF m 101 #[.val (.int p0), .val (.int p1), .val (.int p2), .val (.int p3), .val (.int p4), .val (.int v60), .val (.int v64), .val (.int v66), .val (.int v68), .val (.int v70), .val (.int v72), .val (.int v74), .val (.ref b75), .val (.int lf82), .val (.int la82), .val (.int fi82), .unset, .unset, .unset] [(.int v70), (.ref b75)])) _
        refine st106.trans ?_
        show Steps p.tables e below (T106.setTop (mkF m 104 #[.val (.int p0), .val (.int p1), .val (.int p2), .val (.int p3), .val (.int p4), .val (.int v60), .val (.int v64), .val (.int v66), .val (.int v68), .val (.int v70), .val (.int v72), .val (.int v74), .val (.ref b75), .val (.int lf82), .val (.int la82), .val (.int fi82), .unset, .unset, .unset] [])) _
        refine XS.iconst X106.here hx rfl (hb hby at_104) ?_
        show Steps p.tables e below (T106.setTop (mkF m 105 #[.val (.int p0), .val (.int p1), .val (.int p2), .val (.int p3), .val (.int p4), .val (.int v60), .val (.int v64), .val (.int v66), .val (.int v68), .val (.int v70), .val (.int v72), .val (.int v74), .val (.ref b75), .val (.int lf82), .val (.int la82), .val (.int fi82), .unset, .unset, .unset] [(.int (2 : Int32))])) _
        refine XS.istore X106.here hx rfl (hb hby at_105) rfl (l' := #[.val (.int p0), .val (.int p1), .val (.int p2), .val (.int p3), .val (.int p4), .val (.int v60), .val (.int v64), .val (.int v66), .val (.int v68), .val (.int v70), .val (.int v72), .val (.int v74), .val (.ref b75), .val (.int (2 : Int32)), .val (.int la82), .val (.int fi82), .unset, .unset, .unset]) rfl ?_
        show Steps p.tables e below (T106.setTop (mkF m 107 #[.val (.int p0), .val (.int p1), .val (.int p2), .val (.int p3), .val (.int p4), .val (.int v60), .val (.int v64), .val (.int v66), .val (.int v68), .val (.int v70), .val (.int v72), .val (.int v74), .val (.ref b75), .val (.int (2 : Int32)), .val (.int la82), .val (.int fi82), .unset, .unset, .unset] [])) _
        refine XS.iload X106.here hx rfl (hb hby at_107) rfl ?_
        show Steps p.tables e below (T106.setTop (mkF m 109 #[.val (.int p0), .val (.int p1), .val (.int p2), .val (.int p3), .val (.int p4), .val (.int v60), .val (.int v64), .val (.int v66), .val (.int v68), .val (.int v70), .val (.int v72), .val (.int v74), .val (.ref b75), .val (.int (2 : Int32)), .val (.int la82), .val (.int fi82), .unset, .unset, .unset] [(.int v70)])) _
        refine XS.istore X106.here hx rfl (hb hby at_109) rfl (l' := #[.val (.int p0), .val (.int p1), .val (.int p2), .val (.int p3), .val (.int p4), .val (.int v60), .val (.int v64), .val (.int v66), .val (.int v68), .val (.int v70), .val (.int v72), .val (.int v74), .val (.ref b75), .val (.int (2 : Int32)), .val (.int v70), .val (.int fi82), .unset, .unset, .unset]) rfl ?_
        show Steps p.tables e below (T106.setTop (mkF m 111 #[.val (.int p0), .val (.int p1), .val (.int p2), .val (.int p3), .val (.int p4), .val (.int v60), .val (.int v64), .val (.int v66), .val (.int v68), .val (.int v70), .val (.int v72), .val (.int v74), .val (.ref b75), .val (.int (2 : Int32)), .val (.int v70), .val (.int fi82), .unset, .unset, .unset] [])) _
        exact kt
      have f108 := (Nat.le_trans z82 oK106.1)
      have f109 := (j0_82.keep oK106)
      have hone110 : lf82 = (1 : Int32) := pr3_82 (by
          have ar111 := rng32 v60
          have ar112 : (2 : Int32).toInt = 2 := by decide
          have ar113 : ¬ (v60.toInt < (2 : Int32).toInt) := fun qq_ => hc94_100 (Int32.lt_iff_toInt_lt.mpr qq_)
          have ar114 : (1 : Int32).toInt = 1 := by decide
          exact fun qq_ => absurd (Int32.lt_iff_toInt_lt.mp qq_) (by omega))
      have hla115 : 0 < (2 : Int32).toInt → (own_upd f82 kn105 (v70.toUInt32.toUInt16.toUInt32.toInt32)) ((2 : Int32).toInt.toNat - 1) = v70 := fun _ => by
        have hone := hone110
        have hone' := congrArg Int32.toInt hone
        have o1 : (1 : Int32).toInt = 1 := by decide
        have ar116 : (2 : Int32).toInt = 2 := by decide
        have hkk := hkn105
        simp only [own_upd]
        rw [if_pos (by first | omega | decide), hv70]
        exact own_cc _
      exact ⟨T106, _, T106.heap, (2 : Int32), v70, fi82, (lf82 + (1 : Int32)), (own_upd f82 kn105 (v70.toUInt32.toUInt16.toUInt32.toInt32)), X106, rfl, N106, f108, f109, oFtchars106, oFtlength106, oFtstring106, oAca106, (by rw [hone110]; rfl), (by decide), hla115, k107⟩
  subst pr0_98
  have hb111 := pr1_98
  obtain ⟨T117, lc117, h117, ln117, la117, fi117, lf117, f117, X117, e117, N117, z117, j0_117, j1_117, j2_117, j3_117, j4_117, pr0_117, pr1_117, pr2_117, k117⟩ : ∃ (T117 : State) (lc117 : List Loc) (h117 : Heap) (ln117 : Int32) (la117 : Int32) (fi117 : Int32) (lf117 : Int32) (f117 : Nat → Int32), Stand p l e room_1 s m #[(.int p0), (.int p1), (.int p2), (.int p3), (.int p4)] below meth c T117 lc117 2 259 ∧ T117.heap = h117 ∧ Fr n0 lc117 ∧ n0 ≤ h117.size ∧ Exa Z h117 b75 "com/example/abak/abak/io/HeaderText" ∧ Fld Z h117 b75 "com/example/abak/abak/io/HeaderText" "chars" "[C" (.ref ca80) ∧ Fld Z h117 b75 "com/example/abak/abak/io/HeaderText" "length" "I" (.int lf117) ∧ Fld Z h117 b75 "com/example/abak/abak/io/HeaderText" "string" "Ljava/lang/String;" .null ∧ own_AI Z h117 ca80 .char 256 f117 ∧ (lf117 = ln117) ∧ (0 ≤ ln117.toInt ∧ ln117.toInt ≤ 2) ∧ ((0 < ln117.toInt → f117 (ln117.toInt.toNat - 1) = la117)) ∧ ∀ tg_, Steps p.tables e below (T117.setTop (mkF m 124 #[.val (.int p0), .val (.int p1), .val (.int p2), .val (.int p3), .val (.int p4), .val (.int v60), .val (.int v64), .val (.int v66), .val (.int v68), .val (.int v70), .val (.int v72), .val (.int v74), .val (.ref b75), .val (.int ln117), .val (.int la117), .val (.int fi117), .unset, .unset, .unset] [])) tg_ → Steps p.tables e below (s₁.setTop (entryFrame m #[(.int p0), (.int p1), (.int p2), (.int p3), (.int p4)] maxLocals)) tg_ := by
    have k118 : ∀ tg_, Steps p.tables e below (T98.setTop (mkF m 113 #[.val (.int p0), .val (.int p1), .val (.int p2), .val (.int p3), .val (.int p4), .val (.int v60), .val (.int v64), .val (.int v66), .val (.int v68), .val (.int v70), .val (.int v72), .val (.int v74), .val (.ref b75), .val (.int lf98), .val (.int la98), .val (.int fi98), .unset, .unset, .unset] [(.int v64)])) tg_ → Steps p.tables e below (s₁.setTop (entryFrame m #[(.int p0), (.int p1), (.int p2), (.int p3), (.int p4)] maxLocals)) tg_ := by
      intro tg_ kt
      refine k98 tg_ ?_
      refine XS.iload X98.here hx rfl (hb hby at_111) rfl ?_
      show Steps p.tables e below (T98.setTop (mkF m 113 #[.val (.int p0), .val (.int p1), .val (.int p2), .val (.int p3), .val (.int p4), .val (.int v60), .val (.int v64), .val (.int v66), .val (.int v68), .val (.int v70), .val (.int v72), .val (.int v74), .val (.ref b75), .val (.int lf98), .val (.int la98), .val (.int fi98), .unset, .unset, .unset] [(.int v64)])) _
      exact kt
    by_cases hc113_119 : v64 = (0 : Int32)
    · have k120 : ∀ tg_, Steps p.tables e below (T98.setTop (mkF m 124 #[.val (.int p0), .val (.int p1), .val (.int p2), .val (.int p3), .val (.int p4), .val (.int v60), .val (.int v64), .val (.int v66), .val (.int v68), .val (.int v70), .val (.int v72), .val (.int v74), .val (.ref b75), .val (.int lf98), .val (.int la98), .val (.int fi98), .unset, .unset, .unset] [])) tg_ → Steps p.tables e below (s₁.setTop (entryFrame m #[(.int p0), (.int p1), (.int p2), (.int p3), (.int p4)] maxLocals)) tg_ := by
        intro tg_ kt
        refine k118 tg_ ?_
        refine XS.ifYes X98.here hx rfl (pc0 := 113) (pc' := 124) rfl (hb hby at_113) rfl ((if0 _ _).trans (teq hc113_119).1) (by decide) (by decide) ?_
        show Steps p.tables e below (T98.setTop (mkF m 124 #[.val (.int p0), .val (.int p1), .val (.int p2), .val (.int p3), .val (.int p4), .val (.int v60), .val (.int v64), .val (.int v66), .val (.int v68), .val (.int v70), .val (.int v72), .val (.int v74), .val (.ref b75), .val (.int lf98), .val (.int la98), .val (.int fi98), .unset, .unset, .unset] [])) _
        exact kt
      have hbd121 : 0 ≤ lf98.toInt ∧ lf98.toInt ≤ 2 := by
        have ar122 := rng32 lf98
        omega
      exact ⟨T98, _, h98, lf98, la98, fi98, lf98, f98, X98, e98, N98, z98, j0_98, j1_98, j2_98, j3_98, j4_98, rfl, hbd121, pr2_98, k120⟩
    · obtain ⟨cq124, kq124, q124a, q124b, q124c⟩ := isOf hZ e98 j0_98
      obtain ⟨_, _, ⟨T124, L124, kc124, nc124⟩, -, X124, ⟨Lc124, hQ124, l124, y124, z124⟩, st124⟩ := X98.virtualBack hx (y := (⟨"com/example/abak/abak/io/HeaderText", "clear", "()V"⟩ : MethodName)) (z := (⟨"com/example/abak/abak/io/HeaderText", "clear", "()V"⟩ : MethodName)) hown (mvT hZ (hw _ (List.mem_of_getElem? (i := 30) rfl))) (mvT hZ (hw _ (List.mem_of_getElem? (i := 31) rfl))) (notFace_of_selects (args := #[]) (mvT hZ (hw _ (List.mem_of_getElem? (i := 33) rfl)))) (mvT hZ (hw _ (List.mem_of_getElem? (i := 33) rfl))) (mvT hZ (hw _ (List.mem_of_getElem? (i := 32) rfl))) (by decide) (backOf (W := 0) (rm6 l Z a0 hw [] b75 ca80 lf98 h98 n0 z98 j0_98 j1_98 j2_98 j3_98 ge_b75) hZ (hw _ (List.mem_of_getElem? (i := 34) rfl)) (hw _ (List.mem_of_getElem? (i := 2) rfl)) (by decide) (by decide)) q124a q124c (g := (mkF m 118 #[.val (.int p0), .val (.int p1), .val (.int p2), .val (.int p3), .val (.int p4), .val (.int v60), .val (.int v64), .val (.int v66), .val (.int v68), .val (.int v70), .val (.int v72), .val (.int v74), .val (.ref b75), .val (.int lf98), .val (.int la98), .val (.int fi98), .unset, .unset, .unset] [(.ref b75)])) rfl (by rw [hml]; rfl) (Steps.refl _) (argsL := []) (rest := []) (lenOf pd_0 rfl) rfl (by show 2 * 0 + _ ≤ _; exact Nat.le_of_eq rfl) (hb hby at_118) (fun _ _ => ⟨rfl, e98, (by decide : 2 + 0 ≤ _), (by decide : 259 + 0 ≤ _)⟩)
      dsimp only [Pt.U, Pt.locs, Pt.cells, Pt.slots] at X124 l124 y124 z124 st124 hQ124
      subst l124 y124 z124
      obtain ⟨rfl, Nq124, oK124, oFtchars124, oFtlength124, oFtstring124⟩ := hQ124
      have N124 := Fr.app N98 Nq124
      have k125 : ∀ tg_, Steps p.tables e below (T124.setTop (mkF m 124 #[.val (.int p0), .val (.int p1), .val (.int p2), .val (.int p3), .val (.int p4), .val (.int v60), .val (.int v64), .val (.int v66), .val (.int v68), .val (.int v70), .val (.int v72), .val (.int v74), .val (.ref b75), .val (.int (0 : Int32)), .val (.int la98), .val (.int fi98), .unset, .unset, .unset] [])) tg_ → Steps p.tables e below (s₁.setTop (entryFrame m #[(.int p0), (.int p1), (.int p2), (.int p3), (.int p4)] maxLocals)) tg_ := by
        intro tg_ kt
        refine k118 tg_ ?_
        refine XS.ifNo X98.here hx rfl (hb hby at_113) rfl ((if0 _ _).trans (feq hc113_119).1) ?_
        show Steps p.tables e below (T98.setTop (mkF m 116 #[.val (.int p0), .val (.int p1), .val (.int p2), .val (.int p3), .val (.int p4), .val (.int v60), .val (.int v64), .val (.int v66), .val (.int v68), .val (.int v70), .val (.int v72), .val (.int v74), .val (.ref b75), .val (.int lf98), .val (.int la98), .val (.int fi98), .unset, .unset, .unset] [])) _
        refine XS.aload X98.here hx rfl (hb hby at_116) rfl rfl ?_
        show Steps p.tables e below (T98.setTop (mkF m 118 #[.val (.int p0), .val (.int p1), .val (.int p2), .val (.int p3), .val (.int p4), .val (.int v60), .val (.int v64), .val (.int v66), .val (.int v68), .val (.int v70), .val (.int v72), .val (.int v74), .val (.ref b75), .val (.int lf98), .val (.int la98), .val (.int fi98), .unset, .unset, .unset] [(.ref b75)])) _
        refine st124.trans ?_
        show Steps p.tables e below (T124.setTop (mkF m 121 #[.val (.int p0), .val (.int p1), .val (.int p2), .val (.int p3), .val (.int p4), .val (.int v60), .val (.int v64), .val (.int v66), .val (.int v68), .val (.int v70), .val (.int v72), .val (.int v74), .val (.ref b75), .val (.int lf98), .val (.int la98), .val (.int fi98), .unset, .unset, .unset] [])) _
        refine XS.iconst X124.here hx rfl (hb hby at_121) ?_
        show Steps p.tables e below (T124.setTop (mkF m 122 #[.val (.int p0), .val (.int p1), .val (.int p2), .val (.int p3), .val (.int p4), .val (.int v60), .val (.int v64), .val (.int v66), .val (.int v68), .val (.int v70), .val (.int v72), .val (.int v74), .val (.ref b75), .val (.int lf98), .val (.int la98), .val (.int fi98), .unset, .unset, .unset] [(.int (0 : Int32))])) _
        refine XS.istore X124.here hx rfl (hb hby at_122) rfl (l' := #[.val (.int p0), .val (.int p1), .val (.int p2), .val (.int p3), .val (.int p4), .val (.int v60), .val (.int v64), .val (.int v66), .val (.int v68), .val (.int v70), .val (.int v72), .val (.int v74), .val (.ref b75), .val (.int (0 : Int32)), .val (.int la98), .val (.int fi98), .unset, .unset, .unset]) rfl ?_
        show Steps p.tables e below (T124.setTop (mkF m 124 #[.val (.int p0), .val (.int p1), .val (.int p2), .val (.int p3), .val (.int p4), .val (.int v60), .val (.int v64), .val (.int v66), .val (.int v68), .val (.int v70), .val (.int v72), .val (.int v74), .val (.ref b75), .val (.int (0 : Int32)), .val (.int la98), .val (.int fi98), .unset, .unset, .unset] [])) _
        exact kt
      have f126 := (Nat.le_trans z98 oK124.1)
      have f127 := (j0_98.keep oK124)
      have f128 := (j4_98.keep oK124 (ninS (Ne.symm nc_80) nin0))
      exact ⟨T124, _, T124.heap, (0 : Int32), la98, fi98, (0 : Int32), f98, X124, rfl, N124, f126, f127, oFtchars124, oFtlength124, oFtstring124, f128, rfl, (by decide), (fun q => absurd q (by decide)), k125⟩
  subst pr0_117
  have hb124 := pr1_117
  obtain ⟨T130, lc130, h130, ln130, la130, fi130, lf130, f130, X130, e130, N130, z130, j0_130, j1_130, j2_130, j3_130, j4_130, pr0_130, pr1_130, pr2_130, k130⟩ : ∃ (T130 : State) (lc130 : List Loc) (h130 : Heap) (ln130 : Int32) (la130 : Int32) (fi130 : Int32) (lf130 : Int32) (f130 : Nat → Int32), Stand p l e room_1 s m #[(.int p0), (.int p1), (.int p2), (.int p3), (.int p4)] below meth c T130 lc130 2 259 ∧ T130.heap = h130 ∧ Fr n0 lc130 ∧ n0 ≤ h130.size ∧ Exa Z h130 b75 "com/example/abak/abak/io/HeaderText" ∧ Fld Z h130 b75 "com/example/abak/abak/io/HeaderText" "chars" "[C" (.ref ca80) ∧ Fld Z h130 b75 "com/example/abak/abak/io/HeaderText" "length" "I" (.int lf130) ∧ Fld Z h130 b75 "com/example/abak/abak/io/HeaderText" "string" "Ljava/lang/String;" .null ∧ own_AI Z h130 ca80 .char 256 f130 ∧ (lf130 = ln130) ∧ (0 ≤ ln130.toInt ∧ ln130.toInt ≤ 3) ∧ ((0 < ln130.toInt → f130 (ln130.toInt.toNat - 1) = la130)) ∧ ∀ tg_, Steps p.tables e below (T130.setTop (mkF m 156 #[.val (.int p0), .val (.int p1), .val (.int p2), .val (.int p3), .val (.int p4), .val (.int v60), .val (.int v64), .val (.int v66), .val (.int v68), .val (.int v70), .val (.int v72), .val (.int v74), .val (.ref b75), .val (.int ln130), .val (.int la130), .val (.int fi130), .unset, .unset, .unset] [])) tg_ → Steps p.tables e below (s₁.setTop (entryFrame m #[(.int p0), (.int p1), (.int p2), (.int p3), (.int p4)] maxLocals)) tg_ := by
    have k131 : ∀ tg_, Steps p.tables e below (T117.setTop (mkF m 127 #[.val (.int p0), .val (.int p1), .val (.int p2), .val (.int p3), .val (.int p4), .val (.int v60), .val (.int v64), .val (.int v66), .val (.int v68), .val (.int v70), .val (.int v72), .val (.int v74), .val (.ref b75), .val (.int lf117), .val (.int la117), .val (.int fi117), .unset, .unset, .unset] [(.int (1 : Int32)), (.int v66)])) tg_ → Steps p.tables e below (s₁.setTop (entryFrame m #[(.int p0), (.int p1), (.int p2), (.int p3), (.int p4)] maxLocals)) tg_ := by
      intro tg_ kt
      refine k117 tg_ ?_
      refine XS.iload X117.here hx rfl (hb hby at_124) rfl ?_
      show Steps p.tables e below (T117.setTop (mkF m 126 #[.val (.int p0), .val (.int p1), .val (.int p2), .val (.int p3), .val (.int p4), .val (.int v60), .val (.int v64), .val (.int v66), .val (.int v68), .val (.int v70), .val (.int v72), .val (.int v74), .val (.ref b75), .val (.int lf117), .val (.int la117), .val (.int fi117), .unset, .unset, .unset] [(.int v66)])) _
      refine XS.iconst X117.here hx rfl (hb hby at_126) ?_
      show Steps p.tables e below (T117.setTop (mkF m 127 #[.val (.int p0), .val (.int p1), .val (.int p2), .val (.int p3), .val (.int p4), .val (.int v60), .val (.int v64), .val (.int v66), .val (.int v68), .val (.int v70), .val (.int v72), .val (.int v74), .val (.ref b75), .val (.int lf117), .val (.int la117), .val (.int fi117), .unset, .unset, .unset] [(.int (1 : Int32)), (.int v66)])) _
      exact kt
    by_cases hc127_132 : v66 < (1 : Int32)
    · have k133 : ∀ tg_, Steps p.tables e below (T117.setTop (mkF m 156 #[.val (.int p0), .val (.int p1), .val (.int p2), .val (.int p3), .val (.int p4), .val (.int v60), .val (.int v64), .val (.int v66), .val (.int v68), .val (.int v70), .val (.int v72), .val (.int v74), .val (.ref b75), .val (.int lf117), .val (.int la117), .val (.int fi117), .unset, .unset, .unset] [])) tg_ → Steps p.tables e below (s₁.setTop (entryFrame m #[(.int p0), (.int p1), (.int p2), (.int p3), (.int p4)] maxLocals)) tg_ := by
        intro tg_ kt
        refine k131 tg_ ?_
        refine XS.icmpYes X117.here hx rfl (pc0 := 127) (pc' := 156) rfl (hb hby at_127) rfl (tlt hc127_132).1 (by decide) (by decide) ?_
        show Steps p.tables e below (T117.setTop (mkF m 156 #[.val (.int p0), .val (.int p1), .val (.int p2), .val (.int p3), .val (.int p4), .val (.int v60), .val (.int v64), .val (.int v66), .val (.int v68), .val (.int v70), .val (.int v72), .val (.int v74), .val (.ref b75), .val (.int lf117), .val (.int la117), .val (.int fi117), .unset, .unset, .unset] [])) _
        exact kt
      have hbd134 : 0 ≤ lf117.toInt ∧ lf117.toInt ≤ 3 := by
        have ar135 := rng32 lf117
        omega
      exact ⟨T117, _, h117, lf117, la117, fi117, lf117, f117, X117, e117, N117, z117, j0_117, j1_117, j2_117, j3_117, j4_117, rfl, hbd134, pr2_117, k133⟩
    · obtain ⟨kn137, hkn137, hkl137⟩ : ∃ k : Nat, lf117.toInt = (k : Int) ∧ k < 200 := ⟨lf117.toInt.toNat, by omega, by omega⟩
      obtain ⟨cq138, kq138, q138a, q138b, q138c⟩ := isOf hZ e117 j0_117
      obtain ⟨_, _, ⟨T138, L138, kc138, nc138⟩, -, X138, ⟨Lc138, hQ138, l138, y138, z138⟩, st138⟩ := X117.virtualBack hx (y := (⟨"com/example/abak/abak/io/HeaderText", "add", "(C)V"⟩ : MethodName)) (z := (⟨"com/example/abak/abak/io/HeaderText", "add", "(C)V"⟩ : MethodName)) hown (mvT hZ (hw _ (List.mem_of_getElem? (i := 19) rfl))) (mvT hZ (hw _ (List.mem_of_getElem? (i := 20) rfl))) (notFace_of_selects (args := #[]) (mvT hZ (hw _ (List.mem_of_getElem? (i := 22) rfl)))) (mvT hZ (hw _ (List.mem_of_getElem? (i := 22) rfl))) (mvT hZ (hw _ (List.mem_of_getElem? (i := 21) rfl))) (by decide) (backOf (W := 0) (rm4 l Z a0 hw [] b75 v72 ca80 lf117 kn137 f117 h117 n0 z117 j0_117 j1_117 j2_117 j3_117 j4_117 ge_b75 gc80 nc_80 hkn137 hkl137) hZ (hw _ (List.mem_of_getElem? (i := 23) rfl)) (hw _ (List.mem_of_getElem? (i := 2) rfl)) (by decide) (by decide)) q138a q138c (g := (mkF m 134 #[.val (.int p0), .val (.int p1), .val (.int p2), .val (.int p3), .val (.int p4), .val (.int v60), .val (.int v64), .val (.int v66), .val (.int v68), .val (.int v70), .val (.int v72), .val (.int v74), .val (.ref b75), .val (.int lf117), .val (.int la117), .val (.int fi117), .unset, .unset, .unset] [(.int v72), (.ref b75)])) rfl (by rw [hml]; rfl) (Steps.refl _) (argsL := [(.int v72)]) (rest := []) (lenOf pd_2 rfl) rfl (by show 2 * 0 + _ ≤ _; exact Nat.le_of_eq rfl) (hb hby at_134) (fun _ _ => ⟨rfl, e117, (by decide : 2 + 0 ≤ _), (by decide : 259 + 0 ≤ _)⟩)
      dsimp only [Pt.U, Pt.locs, Pt.cells, Pt.slots] at X138 l138 y138 z138 st138 hQ138
      subst l138 y138 z138
      obtain ⟨rfl, Nq138, oK138, oFtchars138, oFtlength138, oFtstring138, oAca138⟩ := hQ138
      have N138 := Fr.app N117 Nq138
      have k139 : ∀ tg_, Steps p.tables e below (T138.setTop (mkF m 139 #[.val (.int p0), .val (.int p1), .val (.int p2), .val (.int p3), .val (.int p4), .val (.int v60), .val (.int v64), .val (.int v66), .val (.int v68), .val (.int v70), .val (.int v72), .val (.int v74), .val (.ref b75), .val (.int lf117), .val (.int la117), .val (.int fi117), .unset, .unset, .unset] [(.int lf117)])) tg_ → Steps p.tables e below (s₁.setTop (entryFrame m #[(.int p0), (.int p1), (.int p2), (.int p3), (.int p4)] maxLocals)) tg_ := by
        intro tg_ kt
        refine k131 tg_ ?_
        refine XS.icmpNo X117.here hx rfl (hb hby at_127) rfl (flt hc127_132).1 ?_
        show Steps p.tables e below (T117.setTop (mkF m 130 #[.val (.int p0), .val (.int p1), .val (.int p2), .val (.int p3), .val (.int p4), .val (.int v60), .val (.int v64), .val (.int v66), .val (.int v68), .val (.int v70), .val (.int v72), .val (.int v74), .val (.ref b75), .val (.int lf117), .val (.int la117), .val (.int fi117), .unset, .unset, .unset] [])) _
        refine XS.aload X117.here hx rfl (hb hby at_130) rfl rfl ?_
        show Steps p.tables e below (T117.setTop (mkF m 132 #[.val (.int p0), .val (.int p1), .val (.int p2), .val (.int p3), .val (.int p4), .val (.int v60), .val (.int v64), .val (.int v66), .val (.int v68), .val (.int v70), .val (.int v72), .val (.int v74), .val (.ref b75), .val (.int lf117), .val (.int la117), .val (.int fi117), .unset, .unset, .unset] [(.ref b75)])) _
        refine XS.iload X117.here hx rfl (hb hby at_132) rfl ?_
        show Steps p.tables e below (T117.setTop (mkF m 134 #[.val (.int p0), .val (.int p1), .val (.int p2), .val (.int p3), .val (.int p4), .val (.int v60), .val (.int v64), .val (.int v66), .val (.int v68), .val (.int v70), .val (.int v72), .val (.int v74), .val (.ref b75), .val (.int lf117), .val (.int la117), .val (.int fi117), .unset, .unset, .unset] [(.int v72), (.ref b75)])) _
        refine st138.trans ?_
        show Steps p.tables e below (T138.setTop (mkF m 137 #[.val (.int p0), .val (.int p1), .val (.int p2), .val (.int p3), .val (.int p4), .val (.int v60), .val (.int v64), .val (.int v66), .val (.int v68), .val (.int v70), .val (.int v72), .val (.int v74), .val (.ref b75), .val (.int lf117), .val (.int la117), .val (.int fi117), .unset, .unset, .unset] [])) _
        refine XS.iload X138.here hx rfl (hb hby at_137) rfl ?_
        show Steps p.tables e below (T138.setTop (mkF m 139 #[.val (.int p0), .val (.int p1), .val (.int p2), .val (.int p3), .val (.int p4), .val (.int v60), .val (.int v64), .val (.int v66), .val (.int v68), .val (.int v70), .val (.int v72), .val (.int v74), .val (.ref b75), .val (.int lf117), .val (.int la117), .val (.int fi117), .unset, .unset, .unset] [(.int lf117)])) _
        exact kt
      have k141 : ∀ tg_, Steps p.tables e below (T138.setTop (mkF m 146 #[.val (.int p0), .val (.int p1), .val (.int p2), .val (.int p3), .val (.int p4), .val (.int v60), .val (.int v64), .val (.int v66), .val (.int v68), .val (.int v70), .val (.int v72), .val (.int v74), .val (.ref b75), .val (.int lf117), .val (.int la117), .val (.int (if lf117 = (0 : Int32) then v72 else fi117)), .unset, .unset, .unset] [])) tg_ → Steps p.tables e below (s₁.setTop (entryFrame m #[(.int p0), (.int p1), (.int p2), (.int p3), (.int p4)] maxLocals)) tg_ := by
        intro tg_ kt
        refine k139 tg_ ?_
        by_cases hj139_140 : lf117 = (0 : Int32)
        · refine XS.ifNo X138.here hx rfl (hb hby at_139) rfl ((if0 _ _).trans (teq hj139_140).2) ?_
          show Steps p.tables e below (T138.setTop (mkF m 142 #[.val (.int p0), .val (.int p1), .val (.int p2), .val (.int p3), .val (.int p4), .val (.int v60), .val (.int v64), .val (.int v66), .val (.int v68), .val (.int v70), .val (.int v72), .val (.int v74), .val (.ref b75), .val (.int lf117), .val (.int la117), .val (.int fi117), .unset, .unset, .unset] [])) _
          refine XS.iload X138.here hx rfl (hb hby at_142) rfl ?_
          show Steps p.tables e below (T138.setTop (mkF m 144 #[.val (.int p0), .val (.int p1), .val (.int p2), .val (.int p3), .val (.int p4), .val (.int v60), .val (.int v64), .val (.int v66), .val (.int v68), .val (.int v70), .val (.int v72), .val (.int v74), .val (.ref b75), .val (.int lf117), .val (.int la117), .val (.int fi117), .unset, .unset, .unset] [(.int v72)])) _
          refine XS.istore X138.here hx rfl (hb hby at_144) rfl (l' := #[.val (.int p0), .val (.int p1), .val (.int p2), .val (.int p3), .val (.int p4), .val (.int v60), .val (.int v64), .val (.int v66), .val (.int v68), .val (.int v70), .val (.int v72), .val (.int v74), .val (.ref b75), .val (.int lf117), .val (.int la117), .val (.int v72), .unset, .unset, .unset]) rfl ?_
          show Steps p.tables e below (T138.setTop (mkF m 146 #[.val (.int p0), .val (.int p1), .val (.int p2), .val (.int p3), .val (.int p4), .val (.int v60), .val (.int v64), .val (.int v66), .val (.int v68), .val (.int v70), .val (.int v72), .val (.int v74), .val (.ref b75), .val (.int lf117), .val (.int la117), .val (.int v72), .unset, .unset, .unset] [])) _
          simpa only [if_pos hj139_140] using kt
        · refine XS.ifYes X138.here hx rfl (pc0 := 139) (pc' := 146) rfl (hb hby at_139) rfl ((if0 _ _).trans (feq hj139_140).2) (by decide) (by decide) ?_
          show Steps p.tables e below (T138.setTop (mkF m 146 #[.val (.int p0), .val (.int p1), .val (.int p2), .val (.int p3), .val (.int p4), .val (.int v60), .val (.int v64), .val (.int v66), .val (.int v68), .val (.int v70), .val (.int v72), .val (.int v74), .val (.ref b75), .val (.int lf117), .val (.int la117), .val (.int fi117), .unset, .unset, .unset] [])) _
          simpa only [if_neg hj139_140] using kt
      obtain ⟨v142, hv142⟩ : ∃ z : Int32, z = (if lf117 = (0 : Int32) then v72 else fi117) := ⟨_, rfl⟩
      rw [← hv142] at k141
      have k143 : ∀ tg_, Steps p.tables e below (T138.setTop (mkF m 150 #[.val (.int p0), .val (.int p1), .val (.int p2), .val (.int p3), .val (.int p4), .val (.int v60), .val (.int v64), .val (.int v66), .val (.int v68), .val (.int v70), .val (.int v72), .val (.int v74), .val (.ref b75), .val (.int lf117), .val (.int la117), .val (.int v142), .unset, .unset, .unset] [(.int (lf117 + (1 : Int32)))])) tg_ → Steps p.tables e below (s₁.setTop (entryFrame m #[(.int p0), (.int p1), (.int p2), (.int p3), (.int p4)] maxLocals)) tg_ := by
        intro tg_ kt
        refine k141 tg_ ?_
        refine XS.iload X138.here hx rfl (hb hby at_146) rfl ?_
        show Steps p.tables e below (T138.setTop (mkF m 148 #[.val (.int p0), .val (.int p1), .val (.int p2), .val (.int p3), .val (.int p4), .val (.int v60), .val (.int v64), .val (.int v66), .val (.int v68), .val (.int v70), .val (.int v72), .val (.int v74), .val (.ref b75), .val (.int lf117), .val (.int la117), .val (.int v142), .unset, .unset, .unset] [(.int lf117)])) _
        refine XS.iconst X138.here hx rfl (hb hby at_148) ?_
        show Steps p.tables e below (T138.setTop (mkF m 149 #[.val (.int p0), .val (.int p1), .val (.int p2), .val (.int p3), .val (.int p4), .val (.int v60), .val (.int v64), .val (.int v66), .val (.int v68), .val (.int v70), .val (.int v72), .val (.int v74), .val (.ref b75), .val (.int lf117), .val (.int la117), .val (.int v142), .unset, .unset, .unset] [(.int (1 : Int32)), (.int lf117)])) _
        refine XS.iadd X138.here hx rfl (hb hby at_149) rfl ?_
        show Steps p.tables e below (T138.setTop (mkF m 150 #[.val (.int p0), .val (.int p1), .val (.int p2), .val (.int p3), .val (.int p4), .val (.int v60), .val (.int v64), .val (.int v66), .val (.int v68), .val (.int v70), .val (.int v72), .val (.int v74), .val (.ref b75), .val (.int lf117), .val (.int la117), .val (.int v142), .unset, .unset, .unset] [(.int (lf117 + (1 : Int32)))])) _
        exact kt
      obtain ⟨v144, hv144⟩ : ∃ z : Int32, z = (lf117 + (1 : Int32)) := ⟨_, rfl⟩
      rw [← hv144] at k143
      have k145 : ∀ tg_, Steps p.tables e below (T138.setTop (mkF m 156 #[.val (.int p0), .val (.int p1), .val (.int p2), .val (.int p3), .val (.int p4), .val (.int v60), .val (.int v64), .val (.int v66), .val (.int v68), .val (.int v70), .val (.int v72), .val (.int v74), .val (.ref b75), .val (.int v144), .val (.int v72), .val (.int v142), .unset, .unset, .unset] [])) tg_ → Steps p.tables e below (s₁.setTop (entryFrame m #[(.int p0), (.int p1), (.int p2), (.int p3), (.int p4)] maxLocals)) tg_ := by
        intro tg_ kt
        refine k143 tg_ ?_
        refine XS.istore X138.here hx rfl (hb hby at_150) rfl (l' := #[.val (.int p0), .val (.int p1), .val (.int p2), .val (.int p3), .val (.int p4), .val (.int v60), .val (.int v64), .val (.int v66), .val (.int v68), .val (.int v70), .val (.int v72), .val (.int v74), .val (.ref b75), .val (.int v144), .val (.int la117), .val (.int v142), .unset, .unset, .unset]) rfl ?_
        show Steps p.tables e below (T138.setTop (mkF m 152 #[.val (.int p0), .val (.int p1), .val (.int p2), .val (.int p3), .val (.int p4), .val (.int v60), .val (.int v64), .val (.int v66), .val (.int v68), .val (.int v70), .val (.int v72), .val (.int v74), .val (.ref b75), .val (.int v144), .val (.int la117), .val (.int v142), .unset, .unset, .unset] [])) _
        refine XS.iload X138.here hx rfl (hb hby at_152) rfl ?_
        show Steps p.tables e below (T138.setTop (mkF m 154 #[.val (.int p0), .val (.int p1), .val (.int p2), .val (.int p3), .val (.int p4), .val (.int v60), .val (.int v64), .val (.int v66), .val (.int v68), .val (.int v70), .val (.int v72), .val (.int v74), .val (.ref b75), .val (.int v144), .val (.int la117), .val (.int v142), .unset, .unset, .unset] [(.int v72)])) _
        refine XS.istore X138.here hx rfl (hb hby at_154) rfl (l' := #[.val (.int p0), .val (.int p1), .val (.int p2), .val (.int p3), .val (.int p4), .val (.int v60), .val (.int v64), .val (.int v66), .val (.int v68), .val (.int v70), .val (.int v72), .val (.int v74), .val (.ref b75), .val (.int v144), .val (.int v72), .val (.int v142), .unset, .unset, .unset]) rfl ?_
        show Steps p.tables e below (T138.setTop (mkF m 156 #[.val (.int p0), .val (.int p1), .val (.int p2), .val (.int p3), .val (.int p4), .val (.int v60), .val (.int v64), .val (.int v66), .val (.int v68), .val (.int v70), .val (.int v72), .val (.int v74), .val (.ref b75), .val (.int v144), .val (.int v72), .val (.int v142), .unset, .unset, .unset] [])) _
        exact kt
      have f146 := (Nat.le_trans z117 oK138.1)
      have f147 := (j0_117.keep oK138)
      have hbd148 : 0 ≤ v144.toInt ∧ v144.toInt ≤ 3 := by
        have ar149 := rng32 v144
        have ar150 := rng32 lf117
        have ar151 : (1 : Int32).toInt = 1 := by decide
        have ar152 := rng32 (lf117 + (1 : Int32))
        first | have ar153 : (lf117 + (1 : Int32)).toInt = lf117.toInt + 1 := (by have qw := c_iadd lf117 (1 : Int32); omega) | (have ar153 := c_iadd lf117 (1 : Int32); skip)
        have ar154 := congrArg Int32.toInt hv144
        omega
      have hla155 : 0 < v144.toInt → (own_upd f117 kn137 (v72.toUInt32.toUInt16.toUInt32.toInt32)) (v144.toInt.toNat - 1) = v72 := fun _ => by
        have ar156 := rng32 v144
        have ar157 := rng32 lf117
        have ar158 : (1 : Int32).toInt = 1 := by decide
        have ar159 := rng32 (lf117 + (1 : Int32))
        first | have ar160 : (lf117 + (1 : Int32)).toInt = lf117.toInt + 1 := (by have qw := c_iadd lf117 (1 : Int32); omega) | (have ar160 := c_iadd lf117 (1 : Int32); skip)
        have ar161 := congrArg Int32.toInt hv144
        have hkk := hkn137
        simp only [own_upd]
        rw [if_pos (by first | omega | decide), hv72]
        exact own_cc _
      exact ⟨T138, _, T138.heap, v144, v72, v142, (lf117 + (1 : Int32)), (own_upd f117 kn137 (v72.toUInt32.toUInt16.toUInt32.toInt32)), X138, rfl, N138, f146, f147, oFtchars138, oFtlength138, oFtstring138, oAca138, hv144.symm, hbd148, hla155, k145⟩
  subst pr0_130
  have hb156 := pr1_130
  obtain ⟨T162, lc162, h162, ln162, la162, fi162, lf162, f162, X162, e162, N162, z162, j0_162, j1_162, j2_162, j3_162, j4_162, pr0_162, pr1_162, pr2_162, k162⟩ : ∃ (T162 : State) (lc162 : List Loc) (h162 : Heap) (ln162 : Int32) (la162 : Int32) (fi162 : Int32) (lf162 : Int32) (f162 : Nat → Int32), Stand p l e room_1 s m #[(.int p0), (.int p1), (.int p2), (.int p3), (.int p4)] below meth c T162 lc162 2 259 ∧ T162.heap = h162 ∧ Fr n0 lc162 ∧ n0 ≤ h162.size ∧ Exa Z h162 b75 "com/example/abak/abak/io/HeaderText" ∧ Fld Z h162 b75 "com/example/abak/abak/io/HeaderText" "chars" "[C" (.ref ca80) ∧ Fld Z h162 b75 "com/example/abak/abak/io/HeaderText" "length" "I" (.int lf162) ∧ Fld Z h162 b75 "com/example/abak/abak/io/HeaderText" "string" "Ljava/lang/String;" .null ∧ own_AI Z h162 ca80 .char 256 f162 ∧ (lf162 = ln162) ∧ (0 ≤ ln162.toInt ∧ ln162.toInt ≤ 4) ∧ ((0 < ln162.toInt → f162 (ln162.toInt.toNat - 1) = la162)) ∧ ∀ tg_, Steps p.tables e below (T162.setTop (mkF m 179 #[.val (.int p0), .val (.int p1), .val (.int p2), .val (.int p3), .val (.int p4), .val (.int v60), .val (.int v64), .val (.int v66), .val (.int v68), .val (.int v70), .val (.int v72), .val (.int v74), .val (.ref b75), .val (.int ln162), .val (.int la162), .val (.int fi162), .unset, .unset, .unset] [])) tg_ → Steps p.tables e below (s₁.setTop (entryFrame m #[(.int p0), (.int p1), (.int p2), (.int p3), (.int p4)] maxLocals)) tg_ := by
    have k163 : ∀ tg_, Steps p.tables e below (T130.setTop (mkF m 159 #[.val (.int p0), .val (.int p1), .val (.int p2), .val (.int p3), .val (.int p4), .val (.int v60), .val (.int v64), .val (.int v66), .val (.int v68), .val (.int v70), .val (.int v72), .val (.int v74), .val (.ref b75), .val (.int lf130), .val (.int la130), .val (.int fi130), .unset, .unset, .unset] [(.int (2 : Int32)), (.int v66)])) tg_ → Steps p.tables e below (s₁.setTop (entryFrame m #[(.int p0), (.int p1), (.int p2), (.int p3), (.int p4)] maxLocals)) tg_ := by
      intro tg_ kt
      refine k130 tg_ ?_
      refine XS.iload X130.here hx rfl (hb hby at_156) rfl ?_
      show Steps p.tables e below (T130.setTop (mkF m 158 #[.val (.int p0), .val (.int p1), .val (.int p2), .val (.int p3), .val (.int p4), .val (.int v60), .val (.int v64), .val (.int v66), .val (.int v68), .val (.int v70), .val (.int v72), .val (.int v74), .val (.ref b75), .val (.int lf130), .val (.int la130), .val (.int fi130), .unset, .unset, .unset] [(.int v66)])) _
      refine XS.iconst X130.here hx rfl (hb hby at_158) ?_
      show Steps p.tables e below (T130.setTop (mkF m 159 #[.val (.int p0), .val (.int p1), .val (.int p2), .val (.int p3), .val (.int p4), .val (.int v60), .val (.int v64), .val (.int v66), .val (.int v68), .val (.int v70), .val (.int v72), .val (.int v74), .val (.ref b75), .val (.int lf130), .val (.int la130), .val (.int fi130), .unset, .unset, .unset] [(.int (2 : Int32)), (.int v66)])) _
      exact kt
    by_cases hc159_164 : v66 < (2 : Int32)
    · have k165 : ∀ tg_, Steps p.tables e below (T130.setTop (mkF m 179 #[.val (.int p0), .val (.int p1), .val (.int p2), .val (.int p3), .val (.int p4), .val (.int v60), .val (.int v64), .val (.int v66), .val (.int v68), .val (.int v70), .val (.int v72), .val (.int v74), .val (.ref b75), .val (.int lf130), .val (.int la130), .val (.int fi130), .unset, .unset, .unset] [])) tg_ → Steps p.tables e below (s₁.setTop (entryFrame m #[(.int p0), (.int p1), (.int p2), (.int p3), (.int p4)] maxLocals)) tg_ := by
        intro tg_ kt
        refine k163 tg_ ?_
        refine XS.icmpYes X130.here hx rfl (pc0 := 159) (pc' := 179) rfl (hb hby at_159) rfl (tlt hc159_164).1 (by decide) (by decide) ?_
        show Steps p.tables e below (T130.setTop (mkF m 179 #[.val (.int p0), .val (.int p1), .val (.int p2), .val (.int p3), .val (.int p4), .val (.int v60), .val (.int v64), .val (.int v66), .val (.int v68), .val (.int v70), .val (.int v72), .val (.int v74), .val (.ref b75), .val (.int lf130), .val (.int la130), .val (.int fi130), .unset, .unset, .unset] [])) _
        exact kt
      have hbd166 : 0 ≤ lf130.toInt ∧ lf130.toInt ≤ 4 := by
        have ar167 := rng32 lf130
        omega
      exact ⟨T130, _, h130, lf130, la130, fi130, lf130, f130, X130, e130, N130, z130, j0_130, j1_130, j2_130, j3_130, j4_130, rfl, hbd166, pr2_130, k165⟩
    · obtain ⟨kn169, hkn169, hkl169⟩ : ∃ k : Nat, lf130.toInt = (k : Int) ∧ k < 200 := ⟨lf130.toInt.toNat, by omega, by omega⟩
      obtain ⟨cq170, kq170, q170a, q170b, q170c⟩ := isOf hZ e130 j0_130
      obtain ⟨_, _, ⟨T170, L170, kc170, nc170⟩, -, X170, ⟨Lc170, hQ170, l170, y170, z170⟩, st170⟩ := X130.virtualBack hx (y := (⟨"com/example/abak/abak/io/HeaderText", "add", "(C)V"⟩ : MethodName)) (z := (⟨"com/example/abak/abak/io/HeaderText", "add", "(C)V"⟩ : MethodName)) hown (mvT hZ (hw _ (List.mem_of_getElem? (i := 19) rfl))) (mvT hZ (hw _ (List.mem_of_getElem? (i := 20) rfl))) (notFace_of_selects (args := #[]) (mvT hZ (hw _ (List.mem_of_getElem? (i := 22) rfl)))) (mvT hZ (hw _ (List.mem_of_getElem? (i := 22) rfl))) (mvT hZ (hw _ (List.mem_of_getElem? (i := 21) rfl))) (by decide) (backOf (W := 0) (rm4 l Z a0 hw [] b75 v74 ca80 lf130 kn169 f130 h130 n0 z130 j0_130 j1_130 j2_130 j3_130 j4_130 ge_b75 gc80 nc_80 hkn169 hkl169) hZ (hw _ (List.mem_of_getElem? (i := 23) rfl)) (hw _ (List.mem_of_getElem? (i := 2) rfl)) (by decide) (by decide)) q170a q170c (g := (mkF m 166 #[.val (.int p0), .val (.int p1), .val (.int p2), .val (.int p3), .val (.int p4), .val (.int v60), .val (.int v64), .val (.int v66), .val (.int v68), .val (.int v70), .val (.int v72), .val (.int v74), .val (.ref b75), .val (.int lf130), .val (.int la130), .val (.int fi130), .unset, .unset, .unset] [(.int v74), (.ref b75)])) rfl (by rw [hml]; rfl) (Steps.refl _) (argsL := [(.int v74)]) (rest := []) (lenOf pd_2 rfl) rfl (by show 2 * 0 + _ ≤ _; exact Nat.le_of_eq rfl) (hb hby at_166) (fun _ _ => ⟨rfl, e130, (by decide : 2 + 0 ≤ _), (by decide : 259 + 0 ≤ _)⟩)
      dsimp only [Pt.U, Pt.locs, Pt.cells, Pt.slots] at X170 l170 y170 z170 st170 hQ170
      subst l170 y170 z170
      obtain ⟨rfl, Nq170, oK170, oFtchars170, oFtlength170, oFtstring170, oAca170⟩ := hQ170
      have N170 := Fr.app N130 Nq170
      have k171 : ∀ tg_, Steps p.tables e below (T170.setTop (mkF m 173 #[.val (.int p0), .val (.int p1), .val (.int p2), .val (.int p3), .val (.int p4), .val (.int v60), .val (.int v64), .val (.int v66), .val (.int v68), .val (.int v70), .val (.int v72), .val (.int v74), .val (.ref b75), .val (.int lf130), .val (.int la130), .val (.int fi130), .unset, .unset, .unset] [(.int (lf130 + (1 : Int32)))])) tg_ → Steps p.tables e below (s₁.setTop (entryFrame m #[(.int p0), (.int p1), (.int p2), (.int p3), (.int p4)] maxLocals)) tg_ := by
        intro tg_ kt
        refine k163 tg_ ?_
        refine XS.icmpNo X130.here hx rfl (hb hby at_159) rfl (flt hc159_164).1 ?_
        show Steps p.tables e below (T130.setTop (mkF m 162 #[.val (.int p0), .val (.int p1), .val (.int p2), .val (.int p3), .val (.int p4), .val (.int v60), .val (.int v64), .val (.int v66), .val (.int v68), .val (.int v70), .val (.int v72), .val (.int v74), .val (.ref b75), .val (.int lf130), .val (.int la130), .val (.int fi130), .unset, .unset, .unset] [])) _
        refine XS.aload X130.here hx rfl (hb hby at_162) rfl rfl ?_
        show Steps p.tables e below (T130.setTop (mkF m 164 #[.val (.int p0), .val (.int p1), .val (.int p2), .val (.int p3), .val (.int p4), .val (.int v60), .val (.int v64), .val (.int v66), .val (.int v68), .val (.int v70), .val (.int v72), .val (.int v74), .val (.ref b75), .val (.int lf130), .val (.int la130), .val (.int fi130), .unset, .unset, .unset] [(.ref b75)])) _
        refine XS.iload X130.here hx rfl (hb hby at_164) rfl ?_
        show Steps p.tables e below (T130.setTop (mkF m 166 #[.val (.int p0), .val (.int p1), .val (.int p2), .val (.int p3), .val (.int p4), .val (.int v60), .val (.int v64), .val (.int v66), .val (.int v68), .val (.int v70), .val (.int v72), .val (.int v74), .val (.ref b75), .val (.int lf130), .val (.int la130), .val (.int fi130), .unset, .unset, .unset] [(.int v74), (.ref b75)])) _
        refine st170.trans ?_
        show Steps p.tables e below (T170.setTop (mkF m 169 #[.val (.int p0), .val (.int p1), .val (.int p2), .val (.int p3), .val (.int p4), .val (.int v60), .val (.int v64), .val (.int v66), .val (.int v68), .val (.int v70), .val (.int v72), .val (.int v74), .val (.ref b75), .val (.int lf130), .val (.int la130), .val (.int fi130), .unset, .unset, .unset] [])) _
        refine XS.iload X170.here hx rfl (hb hby at_169) rfl ?_
        show Steps p.tables e below (T170.setTop (mkF m 171 #[.val (.int p0), .val (.int p1), .val (.int p2), .val (.int p3), .val (.int p4), .val (.int v60), .val (.int v64), .val (.int v66), .val (.int v68), .val (.int v70), .val (.int v72), .val (.int v74), .val (.ref b75), .val (.int lf130), .val (.int la130), .val (.int fi130), .unset, .unset, .unset] [(.int lf130)])) _
        refine XS.iconst X170.here hx rfl (hb hby at_171) ?_
        show Steps p.tables e below (T170.setTop (mkF m 172 #[.val (.int p0), .val (.int p1), .val (.int p2), .val (.int p3), .val (.int p4), .val (.int v60), .val (.int v64), .val (.int v66), .val (.int v68), .val (.int v70), .val (.int v72), .val (.int v74), .val (.ref b75), .val (.int lf130), .val (.int la130), .val (.int fi130), .unset, .unset, .unset] [(.int (1 : Int32)), (.int lf130)])) _
        refine XS.iadd X170.here hx rfl (hb hby at_172) rfl ?_
        show Steps p.tables e below (T170.setTop (mkF m 173 #[.val (.int p0), .val (.int p1), .val (.int p2), .val (.int p3), .val (.int p4), .val (.int v60), .val (.int v64), .val (.int v66), .val (.int v68), .val (.int v70), .val (.int v72), .val (.int v74), .val (.ref b75), .val (.int lf130), .val (.int la130), .val (.int fi130), .unset, .unset, .unset] [(.int (lf130 + (1 : Int32)))])) _
        exact kt
      obtain ⟨v172, hv172⟩ : ∃ z : Int32, z = (lf130 + (1 : Int32)) := ⟨_, rfl⟩
      rw [← hv172] at k171
      have k173 : ∀ tg_, Steps p.tables e below (T170.setTop (mkF m 179 #[.val (.int p0), .val (.int p1), .val (.int p2), .val (.int p3), .val (.int p4), .val (.int v60), .val (.int v64), .val (.int v66), .val (.int v68), .val (.int v70), .val (.int v72), .val (.int v74), .val (.ref b75), .val (.int v172), .val (.int v74), .val (.int fi130), .unset, .unset, .unset] [])) tg_ → Steps p.tables e below (s₁.setTop (entryFrame m #[(.int p0), (.int p1), (.int p2), (.int p3), (.int p4)] maxLocals)) tg_ := by
        intro tg_ kt
        refine k171 tg_ ?_
        refine XS.istore X170.here hx rfl (hb hby at_173) rfl (l' := #[.val (.int p0), .val (.int p1), .val (.int p2), .val (.int p3), .val (.int p4), .val (.int v60), .val (.int v64), .val (.int v66), .val (.int v68), .val (.int v70), .val (.int v72), .val (.int v74), .val (.ref b75), .val (.int v172), .val (.int la130), .val (.int fi130), .unset, .unset, .unset]) rfl ?_
        show Steps p.tables e below (T170.setTop (mkF m 175 #[.val (.int p0), .val (.int p1), .val (.int p2), .val (.int p3), .val (.int p4), .val (.int v60), .val (.int v64), .val (.int v66), .val (.int v68), .val (.int v70), .val (.int v72), .val (.int v74), .val (.ref b75), .val (.int v172), .val (.int la130), .val (.int fi130), .unset, .unset, .unset] [])) _
        refine XS.iload X170.here hx rfl (hb hby at_175) rfl ?_
        show Steps p.tables e below (T170.setTop (mkF m 177 #[.val (.int p0), .val (.int p1), .val (.int p2), .val (.int p3), .val (.int p4), .val (.int v60), .val (.int v64), .val (.int v66), .val (.int v68), .val (.int v70), .val (.int v72), .val (.int v74), .val (.ref b75), .val (.int v172), .val (.int la130), .val (.int fi130), .unset, .unset, .unset] [(.int v74)])) _
        refine XS.istore X170.here hx rfl (hb hby at_177) rfl (l' := #[.val (.int p0), .val (.int p1), .val (.int p2), .val (.int p3), .val (.int p4), .val (.int v60), .val (.int v64), .val (.int v66), .val (.int v68), .val (.int v70), .val (.int v72), .val (.int v74), .val (.ref b75), .val (.int v172), .val (.int v74), .val (.int fi130), .unset, .unset, .unset]) rfl ?_
        show Steps p.tables e below (T170.setTop (mkF m 179 #[.val (.int p0), .val (.int p1), .val (.int p2), .val (.int p3), .val (.int p4), .val (.int v60), .val (.int v64), .val (.int v66), .val (.int v68), .val (.int v70), .val (.int v72), .val (.int v74), .val (.ref b75), .val (.int v172), .val (.int v74), .val (.int fi130), .unset, .unset, .unset] [])) _
        exact kt
      have f174 := (Nat.le_trans z130 oK170.1)
      have f175 := (j0_130.keep oK170)
      have hbd176 : 0 ≤ v172.toInt ∧ v172.toInt ≤ 4 := by
        have ar177 := rng32 v172
        have ar178 := rng32 lf130
        have ar179 : (1 : Int32).toInt = 1 := by decide
        have ar180 := rng32 (lf130 + (1 : Int32))
        first | have ar181 : (lf130 + (1 : Int32)).toInt = lf130.toInt + 1 := (by have qw := c_iadd lf130 (1 : Int32); omega) | (have ar181 := c_iadd lf130 (1 : Int32); skip)
        have ar182 := congrArg Int32.toInt hv172
        omega
      have hla183 : 0 < v172.toInt → (own_upd f130 kn169 (v74.toUInt32.toUInt16.toUInt32.toInt32)) (v172.toInt.toNat - 1) = v74 := fun _ => by
        have ar184 := rng32 v172
        have ar185 := rng32 lf130
        have ar186 : (1 : Int32).toInt = 1 := by decide
        have ar187 := rng32 (lf130 + (1 : Int32))
        first | have ar188 : (lf130 + (1 : Int32)).toInt = lf130.toInt + 1 := (by have qw := c_iadd lf130 (1 : Int32); omega) | (have ar188 := c_iadd lf130 (1 : Int32); skip)
        have ar189 := congrArg Int32.toInt hv172
        have hkk := hkn169
        simp only [own_upd]
        rw [if_pos (by first | omega | decide), hv74]
        exact own_cc _
      exact ⟨T170, _, T170.heap, v172, v74, fi130, (lf130 + (1 : Int32)), (own_upd f130 kn169 (v74.toUInt32.toUInt16.toUInt32.toInt32)), X170, rfl, N170, f174, f175, oFtchars170, oFtlength170, oFtstring170, oAca170, hv172.symm, hbd176, hla183, k173⟩
  subst pr0_162
  have hb179 := pr1_162
  have k190 : ∀ tg_, Steps p.tables e below (T162.setTop (mkF m 182 #[.val (.int p0), .val (.int p1), .val (.int p2), .val (.int p3), .val (.int p4), .val (.int v60), .val (.int v64), .val (.int v66), .val (.int v68), .val (.int v70), .val (.int v72), .val (.int v74), .val (.ref b75), .val (.int lf162), .val (.int la162), .val (.int fi162), .unset, .unset, .unset] [(.int (p3 &&& (3 : Int32)))])) tg_ → Steps p.tables e below (s₁.setTop (entryFrame m #[(.int p0), (.int p1), (.int p2), (.int p3), (.int p4)] maxLocals)) tg_ := by
    intro tg_ kt
    refine k162 tg_ ?_
    refine XS.iloadN X162.here hx rfl (hb hby at_179) rfl ?_
    show Steps p.tables e below (T162.setTop (mkF m 180 #[.val (.int p0), .val (.int p1), .val (.int p2), .val (.int p3), .val (.int p4), .val (.int v60), .val (.int v64), .val (.int v66), .val (.int v68), .val (.int v70), .val (.int v72), .val (.int v74), .val (.ref b75), .val (.int lf162), .val (.int la162), .val (.int fi162), .unset, .unset, .unset] [(.int p3)])) _
    refine XS.iconst X162.here hx rfl (hb hby at_180) ?_
    show Steps p.tables e below (T162.setTop (mkF m 181 #[.val (.int p0), .val (.int p1), .val (.int p2), .val (.int p3), .val (.int p4), .val (.int v60), .val (.int v64), .val (.int v66), .val (.int v68), .val (.int v70), .val (.int v72), .val (.int v74), .val (.ref b75), .val (.int lf162), .val (.int la162), .val (.int fi162), .unset, .unset, .unset] [(.int (3 : Int32)), (.int p3)])) _
    refine XS.iand X162.here hx rfl (hb hby at_181) rfl ?_
    show Steps p.tables e below (T162.setTop (mkF m 182 #[.val (.int p0), .val (.int p1), .val (.int p2), .val (.int p3), .val (.int p4), .val (.int v60), .val (.int v64), .val (.int v66), .val (.int v68), .val (.int v70), .val (.int v72), .val (.int v74), .val (.ref b75), .val (.int lf162), .val (.int la162), .val (.int fi162), .unset, .unset, .unset] [(.int (p3 &&& (3 : Int32)))])) _
    exact kt
  obtain ⟨v191, hv191⟩ : ∃ z : Int32, z = (p3 &&& (3 : Int32)) := ⟨_, rfl⟩
  rw [← hv191] at k190
  have k192 : ∀ tg_, Steps p.tables e below (T162.setTop (mkF m 186 #[.val (.int p0), .val (.int p1), .val (.int p2), .val (.int p3), .val (.int p4), .val (.int v60), .val (.int v64), .val (.int v66), .val (.int v68), .val (.int v70), .val (.int v72), .val (.int v74), .val (.ref b75), .val (.int lf162), .val (.int la162), .val (.int fi162), .val (.int v191), .unset, .unset] [(.int v191)])) tg_ → Steps p.tables e below (s₁.setTop (entryFrame m #[(.int p0), (.int p1), (.int p2), (.int p3), (.int p4)] maxLocals)) tg_ := by
    intro tg_ kt
    refine k190 tg_ ?_
    refine XS.istore X162.here hx rfl (hb hby at_182) rfl (l' := #[.val (.int p0), .val (.int p1), .val (.int p2), .val (.int p3), .val (.int p4), .val (.int v60), .val (.int v64), .val (.int v66), .val (.int v68), .val (.int v70), .val (.int v72), .val (.int v74), .val (.ref b75), .val (.int lf162), .val (.int la162), .val (.int fi162), .val (.int v191), .unset, .unset]) rfl ?_
    show Steps p.tables e below (T162.setTop (mkF m 184 #[.val (.int p0), .val (.int p1), .val (.int p2), .val (.int p3), .val (.int p4), .val (.int v60), .val (.int v64), .val (.int v66), .val (.int v68), .val (.int v70), .val (.int v72), .val (.int v74), .val (.ref b75), .val (.int lf162), .val (.int la162), .val (.int fi162), .val (.int v191), .unset, .unset] [])) _
    refine XS.iload X162.here hx rfl (hb hby at_184) rfl ?_
    show Steps p.tables e below (T162.setTop (mkF m 186 #[.val (.int p0), .val (.int p1), .val (.int p2), .val (.int p3), .val (.int p4), .val (.int v60), .val (.int v64), .val (.int v66), .val (.int v68), .val (.int v70), .val (.int v72), .val (.int v74), .val (.ref b75), .val (.int lf162), .val (.int la162), .val (.int fi162), .val (.int v191), .unset, .unset] [(.int v191)])) _
    exact kt
  have k196 : ∀ tg_, Steps p.tables e below (T162.setTop (mkF m 236 #[.val (.int p0), .val (.int p1), .val (.int p2), .val (.int p3), .val (.int p4), .val (.int v60), .val (.int v64), .val (.int v66), .val (.int v68), .val (.int v70), .val (.int v72), .val (.int v74), .val (.ref b75), .val (.int lf162), .val (.int la162), .val (.int fi162), .val (.int v191), .val (.int (if v191 = (0 : Int32) then (p4.toUInt32.toUInt16.toUInt32.toInt32) else (if v191 = (1 : Int32) then la162 else (if v191 = (2 : Int32) then ((la162 ^^^ ((1 : Int32) <<< ((p4 &&& (15 : Int32)) &&& 31))).toUInt32.toUInt16.toUInt32.toInt32) else fi162)))), .unset] [])) tg_ → Steps p.tables e below (s₁.setTop (entryFrame m #[(.int p0), (.int p1), (.int p2), (.int p3), (.int p4)] maxLocals)) tg_ := by
    intro tg_ kt
    refine k192 tg_ ?_
    by_cases hj186_193 : v191 = (0 : Int32)
    · refine XS.ifNo X162.here hx rfl (hb hby at_186) rfl ((if0 _ _).trans (teq hj186_193).2) ?_
      show Steps p.tables e below (T162.setTop (mkF m 189 #[.val (.int p0), .val (.int p1), .val (.int p2), .val (.int p3), .val (.int p4), .val (.int v60), .val (.int v64), .val (.int v66), .val (.int v68), .val (.int v70), .val (.int v72), .val (.int v74), .val (.ref b75), .val (.int lf162), .val (.int la162), .val (.int fi162), .val (.int v191), .unset, .unset] [])) _
      refine XS.iload X162.here hx rfl (hb hby at_189) rfl ?_
      show Steps p.tables e below (T162.setTop (mkF m 191 #[.val (.int p0), .val (.int p1), .val (.int p2), .val (.int p3), .val (.int p4), .val (.int v60), .val (.int v64), .val (.int v66), .val (.int v68), .val (.int v70), .val (.int v72), .val (.int v74), .val (.ref b75), .val (.int lf162), .val (.int la162), .val (.int fi162), .val (.int v191), .unset, .unset] [(.int p4)])) _
      refine XS.i2c X162.here hx rfl (hb hby at_191) rfl ?_
      show Steps p.tables e below (T162.setTop (mkF m 192 #[.val (.int p0), .val (.int p1), .val (.int p2), .val (.int p3), .val (.int p4), .val (.int v60), .val (.int v64), .val (.int v66), .val (.int v68), .val (.int v70), .val (.int v72), .val (.int v74), .val (.ref b75), .val (.int lf162), .val (.int la162), .val (.int fi162), .val (.int v191), .unset, .unset] [(.int (p4.toUInt32.toUInt16.toUInt32.toInt32))])) _
      refine XS.istore X162.here hx rfl (hb hby at_192) rfl (l' := #[.val (.int p0), .val (.int p1), .val (.int p2), .val (.int p3), .val (.int p4), .val (.int v60), .val (.int v64), .val (.int v66), .val (.int v68), .val (.int v70), .val (.int v72), .val (.int v74), .val (.ref b75), .val (.int lf162), .val (.int la162), .val (.int fi162), .val (.int v191), .val (.int (p4.toUInt32.toUInt16.toUInt32.toInt32)), .unset]) rfl ?_
      show Steps p.tables e below (T162.setTop (mkF m 194 #[.val (.int p0), .val (.int p1), .val (.int p2), .val (.int p3), .val (.int p4), .val (.int v60), .val (.int v64), .val (.int v66), .val (.int v68), .val (.int v70), .val (.int v72), .val (.int v74), .val (.ref b75), .val (.int lf162), .val (.int la162), .val (.int fi162), .val (.int v191), .val (.int (p4.toUInt32.toUInt16.toUInt32.toInt32)), .unset] [])) _
      refine XS.goto X162.here hx rfl (pc0 := 194) (pc' := 236) rfl (hb hby at_194) (by decide) (by decide) ?_
      show Steps p.tables e below (T162.setTop (mkF m 236 #[.val (.int p0), .val (.int p1), .val (.int p2), .val (.int p3), .val (.int p4), .val (.int v60), .val (.int v64), .val (.int v66), .val (.int v68), .val (.int v70), .val (.int v72), .val (.int v74), .val (.ref b75), .val (.int lf162), .val (.int la162), .val (.int fi162), .val (.int v191), .val (.int (p4.toUInt32.toUInt16.toUInt32.toInt32)), .unset] [])) _
      simpa only [if_pos hj186_193] using kt
    · refine XS.ifYes X162.here hx rfl (pc0 := 186) (pc' := 197) rfl (hb hby at_186) rfl ((if0 _ _).trans (feq hj186_193).2) (by decide) (by decide) ?_
      show Steps p.tables e below (T162.setTop (mkF m 197 #[.val (.int p0), .val (.int p1), .val (.int p2), .val (.int p3), .val (.int p4), .val (.int v60), .val (.int v64), .val (.int v66), .val (.int v68), .val (.int v70), .val (.int v72), .val (.int v74), .val (.ref b75), .val (.int lf162), .val (.int la162), .val (.int fi162), .val (.int v191), .unset, .unset] [])) _
      refine XS.iload X162.here hx rfl (hb hby at_197) rfl ?_
      show Steps p.tables e below (T162.setTop (mkF m 199 #[.val (.int p0), .val (.int p1), .val (.int p2), .val (.int p3), .val (.int p4), .val (.int v60), .val (.int v64), .val (.int v66), .val (.int v68), .val (.int v70), .val (.int v72), .val (.int v74), .val (.ref b75), .val (.int lf162), .val (.int la162), .val (.int fi162), .val (.int v191), .unset, .unset] [(.int v191)])) _
      refine XS.iconst X162.here hx rfl (hb hby at_199) ?_
      show Steps p.tables e below (T162.setTop (mkF m 200 #[.val (.int p0), .val (.int p1), .val (.int p2), .val (.int p3), .val (.int p4), .val (.int v60), .val (.int v64), .val (.int v66), .val (.int v68), .val (.int v70), .val (.int v72), .val (.int v74), .val (.ref b75), .val (.int lf162), .val (.int la162), .val (.int fi162), .val (.int v191), .unset, .unset] [(.int (1 : Int32)), (.int v191)])) _
      by_cases hj200_194 : v191 = (1 : Int32)
      · refine XS.icmpNo X162.here hx rfl (hb hby at_200) rfl (teq hj200_194).2 ?_
        show Steps p.tables e below (T162.setTop (mkF m 203 #[.val (.int p0), .val (.int p1), .val (.int p2), .val (.int p3), .val (.int p4), .val (.int v60), .val (.int v64), .val (.int v66), .val (.int v68), .val (.int v70), .val (.int v72), .val (.int v74), .val (.ref b75), .val (.int lf162), .val (.int la162), .val (.int fi162), .val (.int v191), .unset, .unset] [])) _
        refine XS.iload X162.here hx rfl (hb hby at_203) rfl ?_
        show Steps p.tables e below (T162.setTop (mkF m 205 #[.val (.int p0), .val (.int p1), .val (.int p2), .val (.int p3), .val (.int p4), .val (.int v60), .val (.int v64), .val (.int v66), .val (.int v68), .val (.int v70), .val (.int v72), .val (.int v74), .val (.ref b75), .val (.int lf162), .val (.int la162), .val (.int fi162), .val (.int v191), .unset, .unset] [(.int la162)])) _
        refine XS.istore X162.here hx rfl (hb hby at_205) rfl (l' := #[.val (.int p0), .val (.int p1), .val (.int p2), .val (.int p3), .val (.int p4), .val (.int v60), .val (.int v64), .val (.int v66), .val (.int v68), .val (.int v70), .val (.int v72), .val (.int v74), .val (.ref b75), .val (.int lf162), .val (.int la162), .val (.int fi162), .val (.int v191), .val (.int la162), .unset]) rfl ?_
        show Steps p.tables e below (T162.setTop (mkF m 207 #[.val (.int p0), .val (.int p1), .val (.int p2), .val (.int p3), .val (.int p4), .val (.int v60), .val (.int v64), .val (.int v66), .val (.int v68), .val (.int v70), .val (.int v72), .val (.int v74), .val (.ref b75), .val (.int lf162), .val (.int la162), .val (.int fi162), .val (.int v191), .val (.int la162), .unset] [])) _
        refine XS.goto X162.here hx rfl (pc0 := 207) (pc' := 236) rfl (hb hby at_207) (by decide) (by decide) ?_
        show Steps p.tables e below (T162.setTop (mkF m 236 #[.val (.int p0), .val (.int p1), .val (.int p2), .val (.int p3), .val (.int p4), .val (.int v60), .val (.int v64), .val (.int v66), .val (.int v68), .val (.int v70), .val (.int v72), .val (.int v74), .val (.ref b75), .val (.int lf162), .val (.int la162), .val (.int fi162), .val (.int v191), .val (.int la162), .unset] [])) _
        simpa only [if_neg hj186_193, if_pos hj200_194] using kt
      · refine XS.icmpYes X162.here hx rfl (pc0 := 200) (pc' := 210) rfl (hb hby at_200) rfl (feq hj200_194).2 (by decide) (by decide) ?_
        show Steps p.tables e below (T162.setTop (mkF m 210 #[.val (.int p0), .val (.int p1), .val (.int p2), .val (.int p3), .val (.int p4), .val (.int v60), .val (.int v64), .val (.int v66), .val (.int v68), .val (.int v70), .val (.int v72), .val (.int v74), .val (.ref b75), .val (.int lf162), .val (.int la162), .val (.int fi162), .val (.int v191), .unset, .unset] [])) _
        refine XS.iload X162.here hx rfl (hb hby at_210) rfl ?_
        show Steps p.tables e below (T162.setTop (mkF m 212 #[.val (.int p0), .val (.int p1), .val (.int p2), .val (.int p3), .val (.int p4), .val (.int v60), .val (.int v64), .val (.int v66), .val (.int v68), .val (.int v70), .val (.int v72), .val (.int v74), .val (.ref b75), .val (.int lf162), .val (.int la162), .val (.int fi162), .val (.int v191), .unset, .unset] [(.int v191)])) _
        refine XS.iconst X162.here hx rfl (hb hby at_212) ?_
        show Steps p.tables e below (T162.setTop (mkF m 213 #[.val (.int p0), .val (.int p1), .val (.int p2), .val (.int p3), .val (.int p4), .val (.int v60), .val (.int v64), .val (.int v66), .val (.int v68), .val (.int v70), .val (.int v72), .val (.int v74), .val (.ref b75), .val (.int lf162), .val (.int la162), .val (.int fi162), .val (.int v191), .unset, .unset] [(.int (2 : Int32)), (.int v191)])) _
        by_cases hj213_195 : v191 = (2 : Int32)
        · refine XS.icmpNo X162.here hx rfl (hb hby at_213) rfl (teq hj213_195).2 ?_
          show Steps p.tables e below (T162.setTop (mkF m 216 #[.val (.int p0), .val (.int p1), .val (.int p2), .val (.int p3), .val (.int p4), .val (.int v60), .val (.int v64), .val (.int v66), .val (.int v68), .val (.int v70), .val (.int v72), .val (.int v74), .val (.ref b75), .val (.int lf162), .val (.int la162), .val (.int fi162), .val (.int v191), .unset, .unset] [])) _
          refine XS.iload X162.here hx rfl (hb hby at_216) rfl ?_
          show Steps p.tables e below (T162.setTop (mkF m 218 #[.val (.int p0), .val (.int p1), .val (.int p2), .val (.int p3), .val (.int p4), .val (.int v60), .val (.int v64), .val (.int v66), .val (.int v68), .val (.int v70), .val (.int v72), .val (.int v74), .val (.ref b75), .val (.int lf162), .val (.int la162), .val (.int fi162), .val (.int v191), .unset, .unset] [(.int la162)])) _
          refine XS.iconst X162.here hx rfl (hb hby at_218) ?_
          show Steps p.tables e below (T162.setTop (mkF m 219 #[.val (.int p0), .val (.int p1), .val (.int p2), .val (.int p3), .val (.int p4), .val (.int v60), .val (.int v64), .val (.int v66), .val (.int v68), .val (.int v70), .val (.int v72), .val (.int v74), .val (.ref b75), .val (.int lf162), .val (.int la162), .val (.int fi162), .val (.int v191), .unset, .unset] [(.int (1 : Int32)), (.int la162)])) _
          refine XS.iload X162.here hx rfl (hb hby at_219) rfl ?_
          show Steps p.tables e below (T162.setTop (mkF m 221 #[.val (.int p0), .val (.int p1), .val (.int p2), .val (.int p3), .val (.int p4), .val (.int v60), .val (.int v64), .val (.int v66), .val (.int v68), .val (.int v70), .val (.int v72), .val (.int v74), .val (.ref b75), .val (.int lf162), .val (.int la162), .val (.int fi162), .val (.int v191), .unset, .unset] [(.int p4), (.int (1 : Int32)), (.int la162)])) _
          refine XS.bipush X162.here hx rfl (hb hby at_221) ?_
          show Steps p.tables e below (T162.setTop (mkF m 223 #[.val (.int p0), .val (.int p1), .val (.int p2), .val (.int p3), .val (.int p4), .val (.int v60), .val (.int v64), .val (.int v66), .val (.int v68), .val (.int v70), .val (.int v72), .val (.int v74), .val (.ref b75), .val (.int lf162), .val (.int la162), .val (.int fi162), .val (.int v191), .unset, .unset] [(.int (15 : Int32)), (.int p4), (.int (1 : Int32)), (.int la162)])) _
          refine XS.iand X162.here hx rfl (hb hby at_223) rfl ?_
          show Steps p.tables e below (T162.setTop (mkF m 224 #[.val (.int p0), .val (.int p1), .val (.int p2), .val (.int p3), .val (.int p4), .val (.int v60), .val (.int v64), .val (.int v66), .val (.int v68), .val (.int v70), .val (.int v72), .val (.int v74), .val (.ref b75), .val (.int lf162), .val (.int la162), .val (.int fi162), .val (.int v191), .unset, .unset] [(.int (p4 &&& (15 : Int32))), (.int (1 : Int32)), (.int la162)])) _
          refine XS.ishl X162.here hx rfl (hb hby at_224) rfl ?_
          show Steps p.tables e below (T162.setTop (mkF m 225 #[.val (.int p0), .val (.int p1), .val (.int p2), .val (.int p3), .val (.int p4), .val (.int v60), .val (.int v64), .val (.int v66), .val (.int v68), .val (.int v70), .val (.int v72), .val (.int v74), .val (.ref b75), .val (.int lf162), .val (.int la162), .val (.int fi162), .val (.int v191), .unset, .unset] [(.int ((1 : Int32) <<< ((p4 &&& (15 : Int32)) &&& 31))), (.int la162)])) _
          refine XS.ixor X162.here hx rfl (hb hby at_225) rfl ?_
          show Steps p.tables e below (T162.setTop (mkF m 226 #[.val (.int p0), .val (.int p1), .val (.int p2), .val (.int p3), .val (.int p4), .val (.int v60), .val (.int v64), .val (.int v66), .val (.int v68), .val (.int v70), .val (.int v72), .val (.int v74), .val (.ref b75), .val (.int lf162), .val (.int la162), .val (.int fi162), .val (.int v191), .unset, .unset] [(.int (la162 ^^^ ((1 : Int32) <<< ((p4 &&& (15 : Int32)) &&& 31))))])) _
          refine XS.i2c X162.here hx rfl (hb hby at_226) rfl ?_
          show Steps p.tables e below (T162.setTop (mkF m 227 #[.val (.int p0), .val (.int p1), .val (.int p2), .val (.int p3), .val (.int p4), .val (.int v60), .val (.int v64), .val (.int v66), .val (.int v68), .val (.int v70), .val (.int v72), .val (.int v74), .val (.ref b75), .val (.int lf162), .val (.int la162), .val (.int fi162), .val (.int v191), .unset, .unset] [(.int ((la162 ^^^ ((1 : Int32) <<< ((p4 &&& (15 : Int32)) &&& 31))).toUInt32.toUInt16.toUInt32.toInt32))])) _
          refine XS.istore X162.here hx rfl (hb hby at_227) rfl (l' := #[.val (.int p0), .val (.int p1), .val (.int p2), .val (.int p3), .val (.int p4), .val (.int v60), .val (.int v64), .val (.int v66), .val (.int v68), .val (.int v70), .val (.int v72), .val (.int v74), .val (.ref b75), .val (.int lf162), .val (.int la162), .val (.int fi162), .val (.int v191), .val (.int ((la162 ^^^ ((1 : Int32) <<< ((p4 &&& (15 : Int32)) &&& 31))).toUInt32.toUInt16.toUInt32.toInt32)), .unset]) rfl ?_
          show Steps p.tables e below (T162.setTop (mkF m 229 #[.val (.int p0), .val (.int p1), .val (.int p2), .val (.int p3), .val (.int p4), .val (.int v60), .val (.int v64), .val (.int v66), .val (.int v68), .val (.int v70), .val (.int v72), .val (.int v74), .val (.ref b75), .val (.int lf162), .val (.int la162), .val (.int fi162), .val (.int v191), .val (.int ((la162 ^^^ ((1 : Int32) <<< ((p4 &&& (15 : Int32)) &&& 31))).toUInt32.toUInt16.toUInt32.toInt32)), .unset] [])) _
          refine XS.goto X162.here hx rfl (pc0 := 229) (pc' := 236) rfl (hb hby at_229) (by decide) (by decide) ?_
          show Steps p.tables e below (T162.setTop (mkF m 236 #[.val (.int p0), .val (.int p1), .val (.int p2), .val (.int p3), .val (.int p4), .val (.int v60), .val (.int v64), .val (.int v66), .val (.int v68), .val (.int v70), .val (.int v72), .val (.int v74), .val (.ref b75), .val (.int lf162), .val (.int la162), .val (.int fi162), .val (.int v191), .val (.int ((la162 ^^^ ((1 : Int32) <<< ((p4 &&& (15 : Int32)) &&& 31))).toUInt32.toUInt16.toUInt32.toInt32)), .unset] [])) _
          simpa only [if_neg hj186_193, if_neg hj200_194, if_pos hj213_195] using kt
        · refine XS.icmpYes X162.here hx rfl (pc0 := 213) (pc' := 232) rfl (hb hby at_213) rfl (feq hj213_195).2 (by decide) (by decide) ?_
          show Steps p.tables e below (T162.setTop (mkF m 232 #[.val (.int p0), .val (.int p1), .val (.int p2), .val (.int p3), .val (.int p4), .val (.int v60), .val (.int v64), .val (.int v66), .val (.int v68), .val (.int v70), .val (.int v72), .val (.int v74), .val (.ref b75), .val (.int lf162), .val (.int la162), .val (.int fi162), .val (.int v191), .unset, .unset] [])) _
          refine XS.iload X162.here hx rfl (hb hby at_232) rfl ?_
          show Steps p.tables e below (T162.setTop (mkF m 234 #[.val (.int p0), .val (.int p1), .val (.int p2), .val (.int p3), .val (.int p4), .val (.int v60), .val (.int v64), .val (.int v66), .val (.int v68), .val (.int v70), .val (.int v72), .val (.int v74), .val (.ref b75), .val (.int lf162), .val (.int la162), .val (.int fi162), .val (.int v191), .unset, .unset] [(.int fi162)])) _
          refine XS.istore X162.here hx rfl (hb hby at_234) rfl (l' := #[.val (.int p0), .val (.int p1), .val (.int p2), .val (.int p3), .val (.int p4), .val (.int v60), .val (.int v64), .val (.int v66), .val (.int v68), .val (.int v70), .val (.int v72), .val (.int v74), .val (.ref b75), .val (.int lf162), .val (.int la162), .val (.int fi162), .val (.int v191), .val (.int fi162), .unset]) rfl ?_
          show Steps p.tables e below (T162.setTop (mkF m 236 #[.val (.int p0), .val (.int p1), .val (.int p2), .val (.int p3), .val (.int p4), .val (.int v60), .val (.int v64), .val (.int v66), .val (.int v68), .val (.int v70), .val (.int v72), .val (.int v74), .val (.ref b75), .val (.int lf162), .val (.int la162), .val (.int fi162), .val (.int v191), .val (.int fi162), .unset] [])) _
          simpa only [if_neg hj186_193, if_neg hj200_194, if_neg hj213_195] using kt
  obtain ⟨v197, hv197⟩ : ∃ z : Int32, z = (if v191 = (0 : Int32) then (p4.toUInt32.toUInt16.toUInt32.toInt32) else (if v191 = (1 : Int32) then la162 else (if v191 = (2 : Int32) then ((la162 ^^^ ((1 : Int32) <<< ((p4 &&& (15 : Int32)) &&& 31))).toUInt32.toUInt16.toUInt32.toInt32) else fi162))) := ⟨_, rfl⟩
  rw [← hv197] at k196
  have k198 : ∀ tg_, Steps p.tables e below (T162.setTop (mkF m 238 #[.val (.int p0), .val (.int p1), .val (.int p2), .val (.int p3), .val (.int p4), .val (.int v60), .val (.int v64), .val (.int v66), .val (.int v68), .val (.int v70), .val (.int v72), .val (.int v74), .val (.ref b75), .val (.int lf162), .val (.int la162), .val (.int fi162), .val (.int v191), .val (.int v197), .unset] [(.int lf162)])) tg_ → Steps p.tables e below (s₁.setTop (entryFrame m #[(.int p0), (.int p1), (.int p2), (.int p3), (.int p4)] maxLocals)) tg_ := by
    intro tg_ kt
    refine k196 tg_ ?_
    refine XS.iload X162.here hx rfl (hb hby at_236) rfl ?_
    show Steps p.tables e below (T162.setTop (mkF m 238 #[.val (.int p0), .val (.int p1), .val (.int p2), .val (.int p3), .val (.int p4), .val (.int v60), .val (.int v64), .val (.int v66), .val (.int v68), .val (.int v70), .val (.int v72), .val (.int v74), .val (.ref b75), .val (.int lf162), .val (.int la162), .val (.int fi162), .val (.int v191), .val (.int v197), .unset] [(.int lf162)])) _
    exact kt
  have k201 : ∀ tg_, Steps p.tables e below (T162.setTop (mkF m 253 #[.val (.int p0), .val (.int p1), .val (.int p2), .val (.int p3), .val (.int p4), .val (.int v60), .val (.int v64), .val (.int v66), .val (.int v68), .val (.int v70), .val (.int v72), .val (.int v74), .val (.ref b75), .val (.int lf162), .val (.int la162), .val (.int fi162), .val (.int v191), .val (.int v197), .unset] [(.int (if (0 : Int32) < lf162 then (if la162 = v197 then (1 : Int32) else (0 : Int32)) else (0 : Int32)))])) tg_ → Steps p.tables e below (s₁.setTop (entryFrame m #[(.int p0), (.int p1), (.int p2), (.int p3), (.int p4)] maxLocals)) tg_ := by
    intro tg_ kt
    refine k198 tg_ ?_
    by_cases hj238_199 : (0 : Int32) < lf162
    · refine XS.ifNo X162.here hx rfl (hb hby at_238) rfl ((if0 _ _).trans (tlt hj238_199).2.2.2) ?_
      show Steps p.tables e below (T162.setTop (mkF m 241 #[.val (.int p0), .val (.int p1), .val (.int p2), .val (.int p3), .val (.int p4), .val (.int v60), .val (.int v64), .val (.int v66), .val (.int v68), .val (.int v70), .val (.int v72), .val (.int v74), .val (.ref b75), .val (.int lf162), .val (.int la162), .val (.int fi162), .val (.int v191), .val (.int v197), .unset] [])) _
      refine XS.iload X162.here hx rfl (hb hby at_241) rfl ?_
      show Steps p.tables e below (T162.setTop (mkF m 243 #[.val (.int p0), .val (.int p1), .val (.int p2), .val (.int p3), .val (.int p4), .val (.int v60), .val (.int v64), .val (.int v66), .val (.int v68), .val (.int v70), .val (.int v72), .val (.int v74), .val (.ref b75), .val (.int lf162), .val (.int la162), .val (.int fi162), .val (.int v191), .val (.int v197), .unset] [(.int la162)])) _
      refine XS.iload X162.here hx rfl (hb hby at_243) rfl ?_
      show Steps p.tables e below (T162.setTop (mkF m 245 #[.val (.int p0), .val (.int p1), .val (.int p2), .val (.int p3), .val (.int p4), .val (.int v60), .val (.int v64), .val (.int v66), .val (.int v68), .val (.int v70), .val (.int v72), .val (.int v74), .val (.ref b75), .val (.int lf162), .val (.int la162), .val (.int fi162), .val (.int v191), .val (.int v197), .unset] [(.int v197), (.int la162)])) _
      by_cases hj245_200 : la162 = v197
      · refine XS.icmpNo X162.here hx rfl (hb hby at_245) rfl (teq hj245_200).2 ?_
        show Steps p.tables e below (T162.setTop (mkF m 248 #[.val (.int p0), .val (.int p1), .val (.int p2), .val (.int p3), .val (.int p4), .val (.int v60), .val (.int v64), .val (.int v66), .val (.int v68), .val (.int v70), .val (.int v72), .val (.int v74), .val (.ref b75), .val (.int lf162), .val (.int la162), .val (.int fi162), .val (.int v191), .val (.int v197), .unset] [])) _
        refine XS.iconst X162.here hx rfl (hb hby at_248) ?_
        show Steps p.tables e below (T162.setTop (mkF m 249 #[.val (.int p0), .val (.int p1), .val (.int p2), .val (.int p3), .val (.int p4), .val (.int v60), .val (.int v64), .val (.int v66), .val (.int v68), .val (.int v70), .val (.int v72), .val (.int v74), .val (.ref b75), .val (.int lf162), .val (.int la162), .val (.int fi162), .val (.int v191), .val (.int v197), .unset] [(.int (1 : Int32))])) _
        refine XS.goto X162.here hx rfl (pc0 := 249) (pc' := 253) rfl (hb hby at_249) (by decide) (by decide) ?_
        show Steps p.tables e below (T162.setTop (mkF m 253 #[.val (.int p0), .val (.int p1), .val (.int p2), .val (.int p3), .val (.int p4), .val (.int v60), .val (.int v64), .val (.int v66), .val (.int v68), .val (.int v70), .val (.int v72), .val (.int v74), .val (.ref b75), .val (.int lf162), .val (.int la162), .val (.int fi162), .val (.int v191), .val (.int v197), .unset] [(.int (1 : Int32))])) _
        simpa only [if_pos hj238_199, if_pos hj245_200] using kt
      · refine XS.icmpYes X162.here hx rfl (pc0 := 245) (pc' := 252) rfl (hb hby at_245) rfl (feq hj245_200).2 (by decide) (by decide) ?_
        show Steps p.tables e below (T162.setTop (mkF m 252 #[.val (.int p0), .val (.int p1), .val (.int p2), .val (.int p3), .val (.int p4), .val (.int v60), .val (.int v64), .val (.int v66), .val (.int v68), .val (.int v70), .val (.int v72), .val (.int v74), .val (.ref b75), .val (.int lf162), .val (.int la162), .val (.int fi162), .val (.int v191), .val (.int v197), .unset] [])) _
        refine XS.iconst X162.here hx rfl (hb hby at_252) ?_
        show Steps p.tables e below (T162.setTop (mkF m 253 #[.val (.int p0), .val (.int p1), .val (.int p2), .val (.int p3), .val (.int p4), .val (.int v60), .val (.int v64), .val (.int v66), .val (.int v68), .val (.int v70), .val (.int v72), .val (.int v74), .val (.ref b75), .val (.int lf162), .val (.int la162), .val (.int fi162), .val (.int v191), .val (.int v197), .unset] [(.int (0 : Int32))])) _
        simpa only [if_pos hj238_199, if_neg hj245_200] using kt
    · refine XS.ifYes X162.here hx rfl (pc0 := 238) (pc' := 252) rfl (hb hby at_238) rfl ((if0 _ _).trans (flt hj238_199).2.2.2) (by decide) (by decide) ?_
      show Steps p.tables e below (T162.setTop (mkF m 252 #[.val (.int p0), .val (.int p1), .val (.int p2), .val (.int p3), .val (.int p4), .val (.int v60), .val (.int v64), .val (.int v66), .val (.int v68), .val (.int v70), .val (.int v72), .val (.int v74), .val (.ref b75), .val (.int lf162), .val (.int la162), .val (.int fi162), .val (.int v191), .val (.int v197), .unset] [])) _
      refine XS.iconst X162.here hx rfl (hb hby at_252) ?_
      show Steps p.tables e below (T162.setTop (mkF m 253 #[.val (.int p0), .val (.int p1), .val (.int p2), .val (.int p3), .val (.int p4), .val (.int v60), .val (.int v64), .val (.int v66), .val (.int v68), .val (.int v70), .val (.int v72), .val (.int v74), .val (.ref b75), .val (.int lf162), .val (.int la162), .val (.int fi162), .val (.int v191), .val (.int v197), .unset] [(.int (0 : Int32))])) _
      simpa only [if_neg hj238_199] using kt
  obtain ⟨v202, hv202⟩ : ∃ z : Int32, z = (if (0 : Int32) < lf162 then (if la162 = v197 then (1 : Int32) else (0 : Int32)) else (0 : Int32)) := ⟨_, rfl⟩
  rw [← hv202] at k201
  obtain ⟨kn203, hkn203, hkl203⟩ : ∃ k : Nat, lf162.toInt = (k : Int) ∧ k < 200 := ⟨lf162.toInt.toNat, by omega, by omega⟩
  obtain ⟨cq204, kq204, q204a, q204b, q204c⟩ := isOf hZ e162 j0_162
  obtain ⟨_, _, ⟨T204, L204, kc204, nc204⟩, -, X204, ⟨Lc204, hQ204, l204, y204, z204⟩, st204⟩ := X162.virtualBack hx (y := (⟨"com/example/abak/abak/io/HeaderText", "endsWith", "(C)Z"⟩ : MethodName)) (z := (⟨"com/example/abak/abak/io/HeaderText", "endsWith", "(C)Z"⟩ : MethodName)) hown (mvT hZ (hw _ (List.mem_of_getElem? (i := 12) rfl))) (mvT hZ (hw _ (List.mem_of_getElem? (i := 13) rfl))) (notFace_of_selects (args := #[]) (mvT hZ (hw _ (List.mem_of_getElem? (i := 15) rfl)))) (mvT hZ (hw _ (List.mem_of_getElem? (i := 15) rfl))) (mvT hZ (hw _ (List.mem_of_getElem? (i := 14) rfl))) (by decide) (backOf (W := 0) (rm3 l Z a0 hw [] b75 v197 ca80 lf162 kn203 f162 h162 n0 j1_162 j2_162 j4_162 hkn203 hkl203) hZ (hw _ (List.mem_of_getElem? (i := 16) rfl)) (hw _ (List.mem_of_getElem? (i := 2) rfl)) (by decide) (by decide)) q204a q204c (g := (mkF m 259 #[.val (.int p0), .val (.int p1), .val (.int p2), .val (.int p3), .val (.int p4), .val (.int v60), .val (.int v64), .val (.int v66), .val (.int v68), .val (.int v70), .val (.int v72), .val (.int v74), .val (.ref b75), .val (.int lf162), .val (.int la162), .val (.int fi162), .val (.int v191), .val (.int v197), .val (.int v202)] [(.int v197), (.ref b75)])) rfl (by rw [hml]; rfl) (Steps.refl _) (argsL := [(.int v197)]) (rest := []) (lenOf pd_1 rfl) rfl (by show 2 * 0 + _ ≤ _; exact Nat.le_of_eq rfl) (hb hby at_259) (fun _ _ => ⟨rfl, e162, (by decide : 2 + 0 ≤ _), (by decide : 259 + 0 ≤ _)⟩)
  dsimp only [Pt.U, Pt.locs, Pt.cells, Pt.slots] at X204 l204 y204 z204 st204 hQ204
  subst l204 y204 z204
  obtain ⟨rfl, Nq204, eq204⟩ := hQ204
  have N204 := Fr.app N162 Nq204
  have hres205 : (if (0 : Int32) < lf162 then (if (f162 (kn203 - 1)) = v197 then (1 : Int32) else (0 : Int32)) else (0 : Int32)) = v202 := by
    rw [hv202]
    by_cases hpos : (0 : Int32) < lf162
    · rw [if_pos hpos, if_pos hpos]
      have hp' := Int32.lt_iff_toInt_lt.mp hpos
      have o0 : (0 : Int32).toInt = 0 := by decide
      have hkk := hkn203
      have e : kn203 - 1 = lf162.toInt.toNat - 1 := by omega
      rw [e, pr2_162 (by omega)]
    · rw [if_neg hpos, if_neg hpos]
  have hc264_206 : (if (0 : Int32) < lf162 then (if (f162 (kn203 - 1)) = v197 then (1 : Int32) else (0 : Int32)) else (0 : Int32)) = v202 := hres205
  have k207 : ∀ tg_, Steps p.tables e below (T204.setTop (mkF m 272 #[.val (.int p0), .val (.int p1), .val (.int p2), .val (.int p3), .val (.int p4), .val (.int v60), .val (.int v64), .val (.int v66), .val (.int v68), .val (.int v70), .val (.int v72), .val (.int v74), .val (.ref b75), .val (.int lf162), .val (.int la162), .val (.int fi162), .val (.int v191), .val (.int v197), .val (.int v202)] [(.int (1 : Int32))])) tg_ → Steps p.tables e below (s₁.setTop (entryFrame m #[(.int p0), (.int p1), (.int p2), (.int p3), (.int p4)] maxLocals)) tg_ := by
    intro tg_ kt
    refine k201 tg_ ?_
    refine XS.istore X162.here hx rfl (hb hby at_253) rfl (l' := #[.val (.int p0), .val (.int p1), .val (.int p2), .val (.int p3), .val (.int p4), .val (.int v60), .val (.int v64), .val (.int v66), .val (.int v68), .val (.int v70), .val (.int v72), .val (.int v74), .val (.ref b75), .val (.int lf162), .val (.int la162), .val (.int fi162), .val (.int v191), .val (.int v197), .val (.int v202)]) rfl ?_
    show Steps p.tables e below (T162.setTop (mkF m 255 #[.val (.int p0), .val (.int p1), .val (.int p2), .val (.int p3), .val (.int p4), .val (.int v60), .val (.int v64), .val (.int v66), .val (.int v68), .val (.int v70), .val (.int v72), .val (.int v74), .val (.ref b75), .val (.int lf162), .val (.int la162), .val (.int fi162), .val (.int v191), .val (.int v197), .val (.int v202)] [])) _
    refine XS.aload X162.here hx rfl (hb hby at_255) rfl rfl ?_
    show Steps p.tables e below (T162.setTop (mkF m 257 #[.val (.int p0), .val (.int p1), .val (.int p2), .val (.int p3), .val (.int p4), .val (.int v60), .val (.int v64), .val (.int v66), .val (.int v68), .val (.int v70), .val (.int v72), .val (.int v74), .val (.ref b75), .val (.int lf162), .val (.int la162), .val (.int fi162), .val (.int v191), .val (.int v197), .val (.int v202)] [(.ref b75)])) _
    refine XS.iload X162.here hx rfl (hb hby at_257) rfl ?_
    show Steps p.tables e below (T162.setTop (mkF m 259 #[.val (.int p0), .val (.int p1), .val (.int p2), .val (.int p3), .val (.int p4), .val (.int v60), .val (.int v64), .val (.int v66), .val (.int v68), .val (.int v70), .val (.int v72), .val (.int v74), .val (.ref b75), .val (.int lf162), .val (.int la162), .val (.int fi162), .val (.int v191), .val (.int v197), .val (.int v202)] [(.int v197), (.ref b75)])) _
    refine st204.trans ?_
    show Steps p.tables e below (T204.setTop (mkF m 262 #[.val (.int p0), .val (.int p1), .val (.int p2), .val (.int p3), .val (.int p4), .val (.int v60), .val (.int v64), .val (.int v66), .val (.int v68), .val (.int v70), .val (.int v72), .val (.int v74), .val (.ref b75), .val (.int lf162), .val (.int la162), .val (.int fi162), .val (.int v191), .val (.int v197), .val (.int v202)] [(.int (if (0 : Int32) < lf162 then (if (f162 (kn203 - 1)) = v197 then (1 : Int32) else (0 : Int32)) else (0 : Int32)))])) _
    refine XS.iload X204.here hx rfl (hb hby at_262) rfl ?_
    show Steps p.tables e below (T204.setTop (mkF m 264 #[.val (.int p0), .val (.int p1), .val (.int p2), .val (.int p3), .val (.int p4), .val (.int v60), .val (.int v64), .val (.int v66), .val (.int v68), .val (.int v70), .val (.int v72), .val (.int v74), .val (.ref b75), .val (.int lf162), .val (.int la162), .val (.int fi162), .val (.int v191), .val (.int v197), .val (.int v202)] [(.int v202), (.int (if (0 : Int32) < lf162 then (if (f162 (kn203 - 1)) = v197 then (1 : Int32) else (0 : Int32)) else (0 : Int32)))])) _
    refine XS.icmpNo X204.here hx rfl (hb hby at_264) rfl (teq hc264_206).2 ?_
    show Steps p.tables e below (T204.setTop (mkF m 267 #[.val (.int p0), .val (.int p1), .val (.int p2), .val (.int p3), .val (.int p4), .val (.int v60), .val (.int v64), .val (.int v66), .val (.int v68), .val (.int v70), .val (.int v72), .val (.int v74), .val (.ref b75), .val (.int lf162), .val (.int la162), .val (.int fi162), .val (.int v191), .val (.int v197), .val (.int v202)] [])) _
    refine XS.iconst X204.here hx rfl (hb hby at_267) ?_
    show Steps p.tables e below (T204.setTop (mkF m 268 #[.val (.int p0), .val (.int p1), .val (.int p2), .val (.int p3), .val (.int p4), .val (.int v60), .val (.int v64), .val (.int v66), .val (.int v68), .val (.int v70), .val (.int v72), .val (.int v74), .val (.ref b75), .val (.int lf162), .val (.int la162), .val (.int fi162), .val (.int v191), .val (.int v197), .val (.int v202)] [(.int (1 : Int32))])) _
    refine XS.goto X204.here hx rfl (pc0 := 268) (pc' := 272) rfl (hb hby at_268) (by decide) (by decide) ?_
    show Steps p.tables e below (T204.setTop (mkF m 272 #[.val (.int p0), .val (.int p1), .val (.int p2), .val (.int p3), .val (.int p4), .val (.int v60), .val (.int v64), .val (.int v66), .val (.int v68), .val (.int v70), .val (.int v72), .val (.int v74), .val (.ref b75), .val (.int lf162), .val (.int la162), .val (.int fi162), .val (.int v191), .val (.int v197), .val (.int v202)] [(.int (1 : Int32))])) _
    exact kt
  obtain ⟨fs, hr, hrun, hended, hW, hsame⟩ := X204.leave (v := some (.int (1 : Int32))) (fun h => by rw [Bd.returns] at h; cases h)
  refine ⟨_, _, k207 _ (retN X204 hx (t := .boolean) Bd.returns (by simp) (hb hby at_272) hr), hrun, hended, _, _, rfl, ?_, ⟨_, rfl⟩, hW, hsame.mono (by decide) (by decide)⟩
  show Q0 Z p0 p1 p2 p3 p4 h0 n0 _ T204.heap _
  rw [eq204]
  exact ⟨rfl, N204⟩
set_option maxRecDepth 65536 in
set_option maxHeartbeats 40000000 in
theorem comes_1 {Post : Tables → Env → Array Value → State → Outcome → State → Prop} (hpost : ∀ tb e args s v u, (limb_1_1.after args s (.returned v) u = true ∧ limb_1_2.after args s (.returned v) u = true ∧ True) → FrameEnd s (.returned v) u (Jvm.fieldLocs frame_1_writes args s ++ Jvm.arrayLocs frame_1_arrays args s ++ Jvm.staticLocs frame_1_statics s) 16 640 → Post tb e args s (.returned v) u) :
    ArmFor flags0 classFile x code maxLocals ret World_1 tables_1 room_1 Calls_1 rest_1 Pre_1 Post := by
  intro l hfl _ _ p e ha hc hk s m args below hf hA hF happ hP
  obtain ⟨hcalls, hrest, hpre⟩ := hP
  obtain ⟨-, -, -, hnamed, -, -, -, hat⟩ := (Spec.applies_iff hf).mp happ
  obtain ⟨hg, hn⟩ := and_e (Cond.before_iff.mp (show (Jvm.Cond.and given_1 narrow_1).before args s = true from hpre))
  have hcount := (and_e hg).1
  have hgs0 := (and_e hg).2
  have hi0 := (and_e hgs0).1
  have hgs1 := (and_e hgs0).2
  have hi1 := (and_e hgs1).1
  have hgs2 := (and_e hgs1).2
  have hi2 := (and_e hgs2).1
  have hgs3 := (and_e hgs2).2
  have hi3 := (and_e hgs3).1
  have hgs4 := (and_e hgs3).2
  have hi4 := hgs4
  obtain ⟨w0, w1, w2, w3, w4, rfl⟩ : ∃ w0 w1 w2 w3 w4 : Value, args = #[w0, w1, w2, w3, w4] := by
    have hs : args.size = 5 := by simpa [Cond.value, given_1] using hcount
    obtain ⟨L⟩ := args
    match L, hs with
    | [w0, w1, w2, w3, w4], _ => exact ⟨w0, w1, w2, w3, w4, rfl⟩
  have hw := fun d (hd : d ∈ tables_1) => atoms_spec (ws := Jvm.Cond.code x code maxLocals ret :: tables_1) hat d (List.mem_cons_of_mem _ hd)
  have hfit : Fit s := fun {y c} hc i hi => by
    obtain ⟨ha, rfl⟩ := Array.getElem?_eq_some_iff.mp hc
    have q := List.all_eq_true.mp ((Array.all_eq_true_iff_forall_mem.mp hF) _ (Array.getElem_mem ha)) i (List.mem_range.mpr hi)
    simpa [Array.getElem?_eq_getElem hi] using q
  obtain ⟨i0, ei0⟩ := is_v hi0
  obtain rfl : w0 = (.int i0) := Option.some.inj ei0
  obtain ⟨i1, ei1⟩ := is_v hi1
  obtain rfl : w1 = (.int i1) := Option.some.inj ei1
  obtain ⟨i2, ei2⟩ := is_v hi2
  obtain rfl : w2 = (.int i2) := Option.some.inj ei2
  obtain ⟨i3, ei3⟩ := is_v hi3
  obtain rfl : w3 = (.int i3) := Option.some.inj ei3
  obtain ⟨i4, ei4⟩ := is_v hi4
  obtain rfl : w4 = (.int i4) := Option.some.inj ei4
  obtain ⟨n, o, h1, h2, h3, _, L, rfl, ⟨rfl, N⟩, hq⟩ := rm0 l s _ hw tables_1 i0 i1 i2 i3 i4 s.heap s.heap.size (Nat.le_refl _)  p e ha hc hk s m _ below hf ((Spec.applies_iff_loose hf).mp happ).1 ⟨rfl, State.Warmed39.refl s, rfl⟩ trivial
  refine ⟨n, _, h1, h2, h3, hpost _ _ _ _ _ _ ⟨Cond.after_iff.mpr rfl, Cond.after_iff.mpr (eq_i res_at (Term.int_eval (1)) rfl), trivial⟩ ⟨hq.1, hq.2.1, (hq.2.2.sift fun y hy => Or.inr (N y hy)).mono (by decide) (by decide)⟩⟩
theorem main_1_1 : Claimed_1_1 := comes_1 fun _ _ _ _ _ _ h hF => ⟨h.1, hF⟩
theorem main_1_2 : Claimed_1_2 := comes_1 fun _ _ _ _ _ _ h hF => ⟨h.2.1, hF⟩
end Jvm.Pilot.@@N@@
namespace Jvm.Pilot.@@N@@
open Jvm Jvm.ClassFile Sem Op Lib Jvm.Free Jvm.Stand Jvm.Pilot.@@N@@.Jvm.D
/-! MADE BY PROGRAM (witnessworld.py) out of the Statement's table words and the real class files: 12 classes; the members and pool entries that the words name. The judged class is class 1, her method 1. -/
namespace start1
open Jvm.ClassFile
def u (s : String) : CpInfo := .utf8 (stringToUtf16 s)
/-- a pool by its gaps: so many unusable entries, then the entry; so many at the end -/
def gap : Nat → List CpInfo → List CpInfo
  | 0, r => r
  | n + 1, r => .unusable :: gap n r
def poolList (es : List (Nat × CpInfo)) (last : Nat) : List CpInfo := es.foldr (fun e r => gap e.1 (e.2 :: r)) (gap last [])
def pool (es : List (Nat × CpInfo)) (last : Nat) : Array CpInfo := ⟨poolList es last⟩
def fileOf (pool : Array CpInfo) (this : Nat) (attrs : Array Attribute := #[]) (ms : Array MethodInfo := #[]) (fl : Nat := 33) (sup : Nat := 0) (ifs : Array Nat := #[]) (fds : Array FieldInfo := #[]) : ClassFile where
  minorVersion := 0
  majorVersion := 65
  constantPool := pool
  accessFlags := fl
  thisClass := this
  superClass := sup
  interfaces := ifs
  fields := fds
  methods := ms
  attributes := attrs
def plain (name : String) (sup : Option ClassId) : Class where
  name := name
  kind := .ordinary
  loader := none
  accessFlags := 33
  super := sup
  interfaces := #[]
  cf := none
  fields := #[]
  methods := #[]
  instanceTypes := #[]
  staticTypes := #[]
  resolved := #[]
  callSites := []
  init := .initialized
  statics := none
  mirror := none

def pool0 : Array CpInfo := pool [(5, u "<init>"), (0, u "()V"), (1, .class_ 10), (1, u "java/lang/Object")] 113

def k0c0 : Code := { maxStack := 0, maxLocals := 1, code := object_method_1_code, exceptionTable := #[], attributes := #[] }
def k0m0 : Method := { name := "<init>", desc := "()V", sig := { parameters := [], returnType := none }, accessFlags := 1, code := some k0c0 }
/-- java/lang/Object -/
def k0 : Class := { plain "java/lang/Object" none with
  accessFlags := 33
  interfaces := #[]
  cf := some (fileOf pool0 8 #[] #[{ accessFlags := 1, nameIndex := 5, descriptorIndex := 6, attributes := #[] }] 33 0 #[] #[])
  fields := #[]
  methods := #[k0m0]
  instanceTypes := #[]
  staticTypes := #[]
  resolved := Array.replicate 124 none
  statics := none }

def pool1 : Array CpInfo := pool [(2, .class_ 4), (0, .nameAndType 5 6), (0, u "java/lang/Object"), (0, u "<init>"), (0, u "()V"), (0, .class_ 8), (0, u "com/example/abak/abak/io/HeaderText"), (0, .methodref 7 3), (0, .methodref 7 11), (0, .nameAndType 12 13), (0, u "add"), (0, u "(C)V"), (0, .methodref 7 15), (0, .nameAndType 16 6), (0, u "clear"), (0, .methodref 7 18), (0, .nameAndType 19 20), (0, u "endsWith"), (0, u "(C)Z"), (0, .class_ 22), (0, u "com/example/abak/abak/io/HeaderTextEndsWithPinLaw"), (2, u "law"), (0, u "(IIIII)Z")] 3

def k1m0 : Method := { name := "<init>", desc := "()V", sig := { parameters := [], returnType := none }, accessFlags := 2, code := none }
def k1c1 : Code := { maxStack := 4, maxLocals := 19, code := code, exceptionTable := #[], attributes := #[] }
def k1m1 : Method := { name := "law", desc := "(IIIII)Z", sig := { parameters := [.int, .int, .int, .int, .int], returnType := some .boolean }, accessFlags := 9, code := some k1c1 }
/-- com/example/abak/abak/io/HeaderTextEndsWithPinLaw -/
def k1 : Class := { plain "com/example/abak/abak/io/HeaderTextEndsWithPinLaw" (some 0) with
  accessFlags := 49
  interfaces := #[]
  cf := some (fileOf pool1 21 #[] #[{ accessFlags := 2, nameIndex := 5, descriptorIndex := 6, attributes := #[] }, { accessFlags := 9, nameIndex := 25, descriptorIndex := 26, attributes := #[] }] 49 2 #[] #[])
  fields := #[]
  methods := #[k1m0, k1m1]
  instanceTypes := #[]
  staticTypes := #[]
  resolved := Array.replicate 30 none
  statics := none }

def pool2 : Array CpInfo := pool [(2, .class_ 4), (1, u "java/lang/CharSequence"), (42, .class_ 48), (0, u "java/lang/CharSequence$1CodePointIterator"), (10, .class_ 60), (0, u "java/lang/CharSequence$1CharIterator"), (5, .class_ 67), (0, u "java/lang/Object")] 63

/-- java/lang/CharSequence -/
def k2 : Class := { plain "java/lang/CharSequence" (some 0) with
  accessFlags := 1537
  interfaces := #[]
  cf := some (fileOf pool2 2 #[.nestMembers #[47, 59]] #[] 1537 66 #[] #[])
  fields := #[]
  methods := #[]
  instanceTypes := #[]
  staticTypes := #[]
  resolved := Array.replicate 131 none
  statics := none }

def pool3 : Array CpInfo := pool [(1, .methodref 2 3), (0, .class_ 4), (0, .nameAndType 5 6), (0, u "java/lang/Object"), (0, u "<init>"), (0, u "()V"), (0, .class_ 8), (0, u "com/example/abak/abak/io/HeaderText"), (0, .fieldref 7 10), (0, .nameAndType 11 12), (0, u "chars"), (0, u "[C"), (0, .fieldref 7 14), (0, .nameAndType 15 16), (0, u "length"), (0, u "I"), (0, .fieldref 7 18), (0, .nameAndType 19 20), (0, u "string"), (0, u "Ljava/lang/String;"), (0, .methodref 7 22), (0, .nameAndType 23 24), (0, u "reserve"), (0, u "(I)V"), (20, .class_ 47), (1, u "java/lang/CharSequence"), (32, u "INITIAL_SIZE"), (4, u "clear"), (5, u "add"), (1, u "(C)V"), (0, u "endsWith"), (0, u "(C)Z")] 21

def k3c0 : Code := { maxStack := 2, maxLocals := 1, code := prog_41_method_1_code, exceptionTable := #[], attributes := #[] }
def k3m0 : Method := { name := "<init>", desc := "()V", sig := { parameters := [], returnType := none }, accessFlags := 0, code := some k3c0 }
def k3c1 : Code := { maxStack := 2, maxLocals := 1, code := prog_41_method_2_code, exceptionTable := #[], attributes := #[] }
def k3m1 : Method := { name := "clear", desc := "()V", sig := { parameters := [], returnType := none }, accessFlags := 0, code := some k3c1 }
def k3c2 : Code := { maxStack := 5, maxLocals := 2, code := prog_41_method_5_code, exceptionTable := #[], attributes := #[] }
def k3m2 : Method := { name := "add", desc := "(C)V", sig := { parameters := [.char], returnType := none }, accessFlags := 0, code := some k3c2 }
def k3c3 : Code := { maxStack := 3, maxLocals := 2, code := prog_41_method_6_code, exceptionTable := #[], attributes := #[] }
def k3m3 : Method := { name := "endsWith", desc := "(C)Z", sig := { parameters := [.char], returnType := some .boolean }, accessFlags := 0, code := some k3c3 }
def k3c4 : Code := { maxStack := 5, maxLocals := 2, code := prog_41_method_12_code, exceptionTable := #[], attributes := #[] }
def k3m4 : Method := { name := "reserve", desc := "(I)V", sig := { parameters := [.int], returnType := none }, accessFlags := 2, code := some k3c4 }
/-- com/example/abak/abak/io/HeaderText -/
def k3 : Class := { plain "com/example/abak/abak/io/HeaderText" (some 0) with
  accessFlags := 48
  interfaces := #[2]
  cf := some (fileOf pool3 7 #[] #[{ accessFlags := 0, nameIndex := 5, descriptorIndex := 6, attributes := #[] }, { accessFlags := 0, nameIndex := 85, descriptorIndex := 6, attributes := #[] }, { accessFlags := 0, nameIndex := 91, descriptorIndex := 93, attributes := #[] }, { accessFlags := 0, nameIndex := 94, descriptorIndex := 95, attributes := #[] }, { accessFlags := 2, nameIndex := 23, descriptorIndex := 24, attributes := #[] }] 48 2 #[45] #[{ accessFlags := 26, nameIndex := 80, descriptorIndex := 16, attributes := #[] }, { accessFlags := 2, nameIndex := 11, descriptorIndex := 12, attributes := #[] }, { accessFlags := 2, nameIndex := 15, descriptorIndex := 16, attributes := #[] }, { accessFlags := 2, nameIndex := 19, descriptorIndex := 20, attributes := #[] }])
  fields := #[{ name := "INITIAL_SIZE", type := .int, accessFlags := 26, slot := 0, constantValue := 0 }, { name := "chars", type := (.array .char), accessFlags := 2, slot := 0, constantValue := 0 }, { name := "length", type := .int, accessFlags := 2, slot := 1, constantValue := 0 }, { name := "string", type := (.object "java/lang/String"), accessFlags := 2, slot := 2, constantValue := 0 }]
  methods := #[k3m0, k3m1, k3m2, k3m3, k3m4]
  instanceTypes := #[(.array .char), .int, (.object "java/lang/String")]
  staticTypes := #[.int]
  resolved := Array.replicate 117 none
  statics := none }

def pool4 : Array CpInfo := pool [(1, u "java/lang/Cloneable"), (0, .class_ 1), (0, u "java/lang/Object"), (0, .class_ 3)] 3

/-- java/lang/Cloneable -/
def k4 : Class := { plain "java/lang/Cloneable" (some 0) with
  accessFlags := 1537
  interfaces := #[]
  cf := some (fileOf pool4 2 #[] #[] 1537 4 #[] #[])
  fields := #[]
  methods := #[]
  instanceTypes := #[]
  staticTypes := #[]
  resolved := Array.replicate 8 none
  statics := none }

def pool5 : Array CpInfo := pool [(1, u "java/io/Serializable"), (0, .class_ 1), (0, u "java/lang/Object"), (0, .class_ 3)] 3

/-- java/io/Serializable -/
def k5 : Class := { plain "java/io/Serializable" (some 0) with
  accessFlags := 1537
  interfaces := #[]
  cf := some (fileOf pool5 2 #[] #[] 1537 4 #[] #[])
  fields := #[]
  methods := #[]
  instanceTypes := #[]
  staticTypes := #[]
  resolved := Array.replicate 8 none
  statics := none }

/-- the primitive byte -/
def k6 : Class := { plain "byte" none with kind := .primitive 'B', accessFlags := 0x411 }
/-- [B -/
def k7 : Class := { plain "[B" (some 0) with kind := .array 6 .byte, interfaces := #[4, 5], accessFlags := 1041 }

/-- the primitive char -/
def k8 : Class := { plain "char" none with kind := .primitive 'C', accessFlags := 0x411 }
/-- [C -/
def k9 : Class := { plain "[C" (some 0) with kind := .array 8 .char, interfaces := #[4, 5], accessFlags := 1041 }

/-- the primitive int -/
def k10 : Class := { plain "int" none with kind := .primitive 'I', accessFlags := 0x411 }
/-- [I -/
def k11 : Class := { plain "[I" (some 0) with kind := .array 10 .int, interfaces := #[4, 5], accessFlags := 1041 }

def heap : Heap := #[]
def classes : Array Class := #[k0, k1, k2, k3, k4, k5, k6, k7, k8, k9, k10, k11]
def interned : List (Array UInt16 × Addr) := []
def slotsUsed : Nat := 0
def theMethod : MethodId := ⟨1, 1⟩
def args0 : Array Value := #[.int 1, .int 2, .int 3, .int 4, .int 5]
def aboutOver (below : List Frame) : State where
  vm := { classes := classes, interned := interned.toArray }
  heap := heap
  slotsUsed := slotsUsed
  threads := #[{ frames := .invoking theMethod args0 :: below }]
def below0 : List Frame := [.native { method := ⟨0, 0⟩, args := #[] }]
def about1 : State := aboutOver below0
def p0 : Program := .bare "" "" ""
def e0 : Env := launch0.env 0 0 0
theorem w_frames : about1.frames = Frame.invoking theMethod args0 :: below0 := rfl
set_option maxRecDepth 65536 in
theorem w_args : argsFit about1.vm theMethod args0 = true := by decide +kernel
set_option maxRecDepth 65536 in
theorem w_heap : heapFits about1 = true := by decide +kernel
set_option maxRecDepth 65536 in
theorem w_runnable : about1.curStatus? = some .runnable := by decide +kernel
set_option maxRecDepth 65536 in
theorem w_alone : about1.alone = true := by decide +kernel
set_option maxRecDepth 65536 in
theorem w_named : about1.methodNamed? x = some theMethod := by decide +kernel
set_option maxRecDepth 65536 in
theorem w_hears : about1.hears theMethod below0 = true := by decide +kernel
set_option maxRecDepth 65536 in
theorem w_ripe : about1.ripe theMethod args0 below0 = true := by decide +kernel
theorem w_running : about1.status = .running := rfl
set_option maxRecDepth 65536 in
theorem w_room : about1.hasRoom e0.platform room_1 = true :=
  launch0.hasRoom_least _ room_1 (by decide +kernel) (by decide +kernel) (by decide +kernel) (by decide +kernel) (by decide +kernel) (by decide +kernel)
theorem allAtoms_all (ts : List Jvm.Cond) (a : Array Jvm.Value) (st : Jvm.State) : (allAtoms ts).before a st = ts.all (fun c => c.before a st) := by
  induction ts with
  | nil => rfl
  | cons c t ih =>
    show (Jvm.Cond.and c (allAtoms t)).before a st = _
    rw [Jvm.Cond.before_and, ih, List.all_cons]
def words1 : List Jvm.Cond := Jvm.Cond.code x code maxLocals ret :: tables_1
/-- a 'code' word, met by the world's own term for the bytes: nothing is compared byte by byte -/
theorem code_word {y : MethodName} {bytes : ByteArray} {mx : Nat} {rt : Option FieldType} {a : Array Value} {s : State} {m : MethodId} {meth : Method} {c : Code} (h1 : s.methodNamed? y = some m) (h2 : s.vm.method? m = some meth) (h3 : meth.code = some c) (h4 : c.code = bytes)
    (h5 : (c.maxLocals == mx && c.exceptionTable.isEmpty && decide (c.maxStack ≤ mostOperands) && decide (meth.sig.returnType = rt) && !meth.locks && decide (parseMethodDescriptor y.desc = some meth.sig)) = true) : (Jvm.Cond.code y bytes mx rt).before a s = true := by
  simp only [Bool.and_eq_true, beq_iff_eq, Bool.not_eq_true', decide_eq_true_eq] at h5
  obtain ⟨⟨⟨⟨⟨g1, g2⟩, g3⟩, g4⟩, g5⟩, g6⟩ := h5
  simp [Cond.before, Cond.holds, Cond.value, h1, h2, h3, h4, g1, g2, g3, g4, g5, g6]
def isCode : Jvm.Cond → Bool
  | .code _ _ _ _ => true
  | _ => false
theorem all_split {L : List Jvm.Cond} {P : Jvm.Cond → Bool} (h1 : L.all (fun c => isCode c || P c) = true) (h2 : ∀ c ∈ L.filter isCode, P c = true) : L.all P = true := by
  refine List.all_eq_true.mpr fun c hc => ?_
  have h := List.all_eq_true.mp h1 c hc
  rcases Bool.eq_false_or_eq_true (isCode c) with hi | hi
  · exact h2 c (List.mem_filter.mpr ⟨hc, hi⟩)
  · simpa [hi] using h
set_option maxRecDepth 65536 in
theorem w_c0 : (Jvm.Cond.code x code maxLocals ret).before args0 about1 = true := code_word (m := ⟨1, 1⟩) (meth := k1m1) (c := k1c1) (by decide +kernel) rfl rfl rfl (by decide +kernel)
set_option maxRecDepth 65536 in
theorem w_c1 : (Jvm.Cond.code ({ cls := "com/example/abak/abak/io/HeaderText", name := "<init>", desc := "()V" } : Jvm.MethodName) prog_41_method_1_code (1 : Nat) (Option.none : Option Jvm.ClassFile.FieldType)).before args0 about1 = true := code_word (m := ⟨3, 0⟩) (meth := k3m0) (c := k3c0) (by decide +kernel) rfl rfl rfl (by decide +kernel)
set_option maxRecDepth 65536 in
theorem w_c2 : (Jvm.Cond.code ({ cls := "java/lang/Object", name := "<init>", desc := "()V" } : Jvm.MethodName) object_method_1_code (1 : Nat) (Option.none : Option Jvm.ClassFile.FieldType)).before args0 about1 = true := code_word (m := ⟨0, 0⟩) (meth := k0m0) (c := k0c0) (by decide +kernel) rfl rfl rfl (by decide +kernel)
set_option maxRecDepth 65536 in
theorem w_c3 : (Jvm.Cond.code ({ cls := "com/example/abak/abak/io/HeaderText", name := "endsWith", desc := "(C)Z" } : Jvm.MethodName) prog_41_method_6_code (2 : Nat) (Option.some Jvm.ClassFile.FieldType.boolean)).before args0 about1 = true := code_word (m := ⟨3, 3⟩) (meth := k3m3) (c := k3c3) (by decide +kernel) rfl rfl rfl (by decide +kernel)
set_option maxRecDepth 65536 in
theorem w_c4 : (Jvm.Cond.code ({ cls := "com/example/abak/abak/io/HeaderText", name := "add", desc := "(C)V" } : Jvm.MethodName) prog_41_method_5_code (2 : Nat) (Option.none : Option Jvm.ClassFile.FieldType)).before args0 about1 = true := code_word (m := ⟨3, 2⟩) (meth := k3m2) (c := k3c2) (by decide +kernel) rfl rfl rfl (by decide +kernel)
set_option maxRecDepth 65536 in
theorem w_c5 : (Jvm.Cond.code ({ cls := "com/example/abak/abak/io/HeaderText", name := "reserve", desc := "(I)V" } : Jvm.MethodName) prog_41_method_12_code (2 : Nat) (Option.none : Option Jvm.ClassFile.FieldType)).before args0 about1 = true := code_word (m := ⟨3, 4⟩) (meth := k3m4) (c := k3c4) (by decide +kernel) rfl rfl rfl (by decide +kernel)
set_option maxRecDepth 65536 in
theorem w_c6 : (Jvm.Cond.code ({ cls := "com/example/abak/abak/io/HeaderText", name := "clear", desc := "()V" } : Jvm.MethodName) prog_41_method_2_code (1 : Nat) (Option.none : Option Jvm.ClassFile.FieldType)).before args0 about1 = true := code_word (m := ⟨3, 1⟩) (meth := k3m1) (c := k3c1) (by decide +kernel) rfl rfl rfl (by decide +kernel)
def codes1 : List Jvm.Cond := [Jvm.Cond.code x code maxLocals ret, Jvm.Cond.code ({ cls := "com/example/abak/abak/io/HeaderText", name := "<init>", desc := "()V" } : Jvm.MethodName) prog_41_method_1_code (1 : Nat) (Option.none : Option Jvm.ClassFile.FieldType), Jvm.Cond.code ({ cls := "java/lang/Object", name := "<init>", desc := "()V" } : Jvm.MethodName) object_method_1_code (1 : Nat) (Option.none : Option Jvm.ClassFile.FieldType), Jvm.Cond.code ({ cls := "com/example/abak/abak/io/HeaderText", name := "endsWith", desc := "(C)Z" } : Jvm.MethodName) prog_41_method_6_code (2 : Nat) (Option.some Jvm.ClassFile.FieldType.boolean), Jvm.Cond.code ({ cls := "com/example/abak/abak/io/HeaderText", name := "add", desc := "(C)V" } : Jvm.MethodName) prog_41_method_5_code (2 : Nat) (Option.none : Option Jvm.ClassFile.FieldType), Jvm.Cond.code ({ cls := "com/example/abak/abak/io/HeaderText", name := "reserve", desc := "(I)V" } : Jvm.MethodName) prog_41_method_12_code (2 : Nat) (Option.none : Option Jvm.ClassFile.FieldType), Jvm.Cond.code ({ cls := "com/example/abak/abak/io/HeaderText", name := "clear", desc := "()V" } : Jvm.MethodName) prog_41_method_2_code (1 : Nat) (Option.none : Option Jvm.ClassFile.FieldType)]
set_option maxRecDepth 65536 in
theorem codes_eq : words1.filter isCode = codes1 := rfl
theorem w_codes : ∀ c ∈ words1.filter isCode, c.before args0 about1 = true := by
  rw [codes_eq]
  intro c hc
  simp only [codes1, List.mem_cons, List.not_mem_nil, or_false] at hc
  rcases hc with rfl | rfl | rfl | rfl | rfl | rfl | rfl
  · exact w_c0
  · exact w_c1
  · exact w_c2
  · exact w_c3
  · exact w_c4
  · exact w_c5
  · exact w_c6
set_option maxRecDepth 65536 in
theorem w_t1 : (words1.take 24).all (fun c => isCode c || c.before args0 about1) = true := by decide +kernel
set_option maxRecDepth 65536 in
theorem w_t2 : (words1.drop 24).all (fun c => isCode c || c.before args0 about1) = true := by decide +kernel
theorem w_tables : (allAtoms (Jvm.Cond.code x code maxLocals ret :: tables_1)).before args0 about1 = true := by
  rw [allAtoms_all]
  show words1.all (fun c => c.before args0 about1) = true
  refine all_split ?_ w_codes
  rw [← List.take_append_drop 24 words1, List.all_append, w_t1, w_t2]
  rfl
set_option maxRecDepth 65536 in
theorem w_case : (Jvm.Cond.and given_1 narrow_1).before args0 about1 = true := by decide +kernel
theorem w_applies : (headSpec (Jvm.Cond.code x code maxLocals ret :: tables_1) room_1).applies x e0.platform about1 = true :=
  (Spec.applies_iff w_frames).mpr ⟨w_running, w_runnable, w_alone, w_named, w_hears, w_ripe, w_room, w_tables⟩
theorem atStart : AtStart classFile x code maxLocals ret World_1 tables_1 room_1 Calls_1 rest_1 Pre_1 launch0 p0 e0 about1 theMethod args0 below0 :=
  ⟨lists_1, trivial, launch0.admits_env _ _ _, launch0.least_env, fairChoices_fair.cas, fairChoices_fair.clock, w_frames, w_args, w_heap, w_applies, trivial, trivial, w_case⟩
end start1
theorem witness_1 : WitnessClaimed_1 := ⟨start1.p0, start1.e0, start1.about1, start1.theMethod, start1.args0, start1.below0, start1.atStart⟩
end Jvm.Pilot.@@N@@
