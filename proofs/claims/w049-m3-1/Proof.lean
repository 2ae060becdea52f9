import JvmDerived
import JvmDerived.Pilot.@@N@@Statement
import JvmDerived.Pilot.@@N@@Code
set_option linter.unusedVariables false
set_option linter.unusedSimpArgs false
namespace Jvm.RoadKit
open Sem ClassFile Op Lib Jvm.Stand Jvm.Free Jvm.LawKit
section New
variable {p : Program} {l : Launch} {e : Env} {R : Room} {s : State} {m : MethodId} {args : Array Value} {below : List Frame} {meth : Method} {c : Code} {T : State} {locs : List Loc} {cells slots : Nat}
theorem retI (X : Stand p l e R s m args below meth c T locs cells slots) (hx : p.tables.exec = Jvm.exec) {pc : Nat} {Ls : Array Slot} {z : Int32} {rest : List Value} (hret : meth.sig.returnType = some .int) (hd : decode c.code pc = .ok (.ireturn, 1)) {fs : List Frame}
    (hl : ∀ (f : JFrame) (acts : List Action), f.method = m → f.locked = none → f.entered = [] → (doReturn e (T.setTop f) acts (some (.int z))).1 = T.setFrames fs) : Steps p.tables e below (T.setTop (mkF m pc Ls (.int z :: rest))) (T.setFrames fs) := by
  have hm' : T.vm.method? m = some meth := X.method'
  have hn : narrow .int (.int z) = .int z := rfl
  show Steps p.tables e below (T.setTop { method := m, pc := pc, locals := Ls, stack := _ :: rest, locked := none }) _
  jvm_step X.here [X.here.top, hx, hd, hm', hret, hn]
  first | (intro acts; rw [hl _ acts rfl rfl rfl]) | rw [hl _ _ rfl rfl rfl]
  exact Steps.refl _
end New
end Jvm.RoadKit
namespace Jvm.Pilot.@@N@@
open Jvm Jvm.ClassFile Sem Op Lib Jvm.Free Jvm.Stand Jvm.LawKit Jvm.RoadKit Bundle Jvm.Pilot.@@N@@.Jvm.D
section Own
variable {p : Program} {l : Launch} {e : Env} {R : Room} {s : State} {m : MethodId} {args : Array Value} {below : List Frame} {meth : Method} {c : Code} {T : State} {locs : List Loc} {cells slots : Nat} {Z : State} {a0 : Array Value} {h h' : Heap}
/-- an array of n places, whose j-th holds f j -/
def own_AF (Z : State) (h : Heap) (a : Addr) (ty : FieldType) (n : Nat) (f : Nat → Value) : Prop := n < 2147483648 ∧ ∃ c : Cell, Arr Z h a c ty ∧ c.slots.size = n ∧ ∀ j, j < n → c.slots[j]? = some (f j)
/-- an array of ints, bytes, chars, booleans -/
def own_AI (Z : State) (h : Heap) (a : Addr) (ty : FieldType) (n : Nat) (f : Nat → Int32) : Prop := own_AF Z h a ty n (fun j => .int (f j))
def own_AL (Z : State) (h : Heap) (a : Addr) (n : Nat) (f : Nat → Int64) : Prop := own_AF Z h a .long n (fun j => .long (f j))
def own_upd {α : Type} (f : Nat → α) (i : Nat) (x : α) : Nat → α := fun j => if j = i then x else f j
theorem own_AF.lt {a : Addr} {ty : FieldType} {n : Nat} {f : Nat → Value} (F : own_AF Z h a ty n f) : a < h.size := by obtain ⟨_, c, A, -⟩ := F; exact A.lt
theorem own_AI.lt {a : Addr} {ty : FieldType} {n : Nat} {f : Nat → Int32} (F : own_AI Z h a ty n f) : a < h.size := own_AF.lt F
theorem own_AL.lt {a : Addr} {n : Nat} {f : Nat → Int64} (F : own_AL Z h a n f) : a < h.size := own_AF.lt F
theorem own_AF.keep {a : Addr} {ty : FieldType} {n : Nat} {f : Nat → Value} {ws : List Addr} (F : own_AF Z h a ty n f) (K : Keep h h' ws) (q : a ∉ ws) : own_AF Z h' a ty n f := by
  obtain ⟨b, c, A, r⟩ := F; exact ⟨b, c, ⟨K.2.1 a c A.1 q, A.2⟩, r⟩
theorem own_AI.keep {a : Addr} {ty : FieldType} {n : Nat} {f : Nat → Int32} {ws : List Addr} (F : own_AI Z h a ty n f) (K : Keep h h' ws) (q : a ∉ ws) : own_AI Z h' a ty n f := own_AF.keep F K q
theorem own_AL.keep {a : Addr} {n : Nat} {f : Nat → Int64} {ws : List Addr} (F : own_AL Z h a n f) (K : Keep h h' ws) (q : a ∉ ws) : own_AL Z h' a n f := own_AF.keep F K q
theorem own_AF.congr {a : Addr} {ty : FieldType} {n : Nat} {f g : Nat → Value} (F : own_AF Z h a ty n f) (q : ∀ j, j < n → f j = g j) : own_AF Z h a ty n g := by
  obtain ⟨b, c, A, s, r⟩ := F; exact ⟨b, c, A, s, fun j hj => by rw [r j hj, q j hj]⟩
theorem own_AI.congr {a : Addr} {ty : FieldType} {n : Nat} {f g : Nat → Int32} (F : own_AI Z h a ty n f) (q : ∀ j, j < n → f j = g j) : own_AI Z h a ty n g := own_AF.congr F fun j hj => by show Value.int (f j) = .int (g j); rw [q j hj]
theorem own_AF.wr {a : Addr} {ty : FieldType} {n i : Nat} {f : Nat → Value} {v : Value} (F : own_AF Z h a ty n f) (hi : i < n) (W : Wr h h' a i v) : own_AF Z h' a ty n (own_upd f i v) := by
  obtain ⟨b, c, A, s, r⟩ := F
  refine ⟨b, _, A.same W, by rw [sz_set]; exact s, fun j hj => ?_⟩
  simp only [Cell.setSlot, own_upd, Array.getElem?_setIfInBounds]
  by_cases q : i = j
  · subst q; simp [s, hi]
  · have q' : ¬ j = i := fun e => q e.symm
    simp [q, q', r j hj]
theorem own_AI.wr {a : Addr} {ty : FieldType} {n i : Nat} {f : Nat → Int32} {x : Int32} (F : own_AI Z h a ty n f) (hi : i < n) (W : Wr h h' a i (.int x)) : own_AI Z h' a ty n (own_upd f i x) :=
  (own_AF.wr F hi W).congr fun j hj => by simp only [own_upd]; split <;> rfl
theorem own_AL.wr {a : Addr} {n i : Nat} {f : Nat → Int64} {x : Int64} (F : own_AL Z h a n f) (hi : i < n) (W : Wr h h' a i (.long x)) : own_AL Z h' a n (own_upd f i x) :=
  (own_AF.wr F hi W).congr fun j hj => by simp only [own_upd]; split <;> rfl
theorem own_idx {j : Int32} {i : Nat} (hj : j.toInt = i) : ¬ j < 0 ∧ j.toNatClampNeg = i := by
  refine ⟨by rw [Int32.lt_iff_toInt_lt, Int32.toInt_zero]; omega, ?_⟩
  have := nat_of (j := j) (by rw [Int32.lt_iff_toInt_lt, Int32.toInt_zero]; omega)
  omega
theorem own_inb {j : Int32} {i n : Nat} {cl : Cell} (hj : j.toInt = i) (hi : i < n) (hs : cl.slots.size = n) : ¬ (j < 0 ∨ cl.slots.size ≤ j.toNatClampNeg) := by
  obtain ⟨h1, h2⟩ := own_idx hj
  rintro (q | q)
  · exact h1 q
  · rw [h2, hs] at q; omega
theorem own_ldF {a : Addr} {n i : Nat} {ty : FieldType} {f : Nat → Value} {j : Int32} {v : Value} (A : own_AF Z h a ty n f) (hj : j.toInt = i) (hi : i < n) (hv : f i = v) : ∃ cl : Cell, Arr Z h a cl ty ∧ ¬ (j < 0 ∨ cl.slots.size ≤ j.toNatClampNeg) ∧ cl.slots[j.toNatClampNeg]? = some v := by
  obtain ⟨b, cl, Ar, hs, hf⟩ := A
  exact ⟨cl, Ar, own_inb hj hi hs, by rw [(own_idx hj).2, hf i hi, hv]⟩
theorem own_ldI (X : Stand p l e R s m args below meth c T locs cells slots) (hx : p.tables.exec = Jvm.exec) (hZ : Z.Warmed39 s.vm) (eT : T.heap = h) {a : Addr} {n i : Nat} {f : Nat → Int32} {j x : Int32} (A : own_AI Z h a .int n f) (hj : j.toInt = i) (hi : i < n) (hv : f i = x) {g : JFrame} (hg : g.method = m) {rest : List Value} (hs : g.stack = .int j :: .ref a :: rest) (hd : decode c.code g.pc = .ok (.iaload, 1)) :
    ∀ target, Steps p.tables e below (T.setTop { g with pc := g.pc + 1, stack := .int x :: rest }) target → Steps p.tables e below (T.setTop g) target := by
  obtain ⟨cl, Ar, h1, h2⟩ := own_ldF A hj hi (by rw [hv])
  exact X.iaload hx (by rw [eT]; exact Ar.1) (State.isArrayOf_alike hZ.alike Ar.2.1) Ar.2.2 h1 h2 hg hs hd
theorem own_ldC (X : Stand p l e R s m args below meth c T locs cells slots) (hx : p.tables.exec = Jvm.exec) (hZ : Z.Warmed39 s.vm) (eT : T.heap = h) {a : Addr} {n i : Nat} {f : Nat → Int32} {j x : Int32} (A : own_AI Z h a .char n f) (hj : j.toInt = i) (hi : i < n) (hv : f i = x) {g : JFrame} (hg : g.method = m) {rest : List Value} (hs : g.stack = .int j :: .ref a :: rest) (hd : decode c.code g.pc = .ok (.caload, 1)) :
    ∀ target, Steps p.tables e below (T.setTop { g with pc := g.pc + 1, stack := .int x :: rest }) target → Steps p.tables e below (T.setTop g) target := by
  obtain ⟨cl, Ar, h1, h2⟩ := own_ldF A hj hi (by rw [hv])
  exact X.caload hx (by rw [eT]; exact Ar.1) (State.isArrayOf_alike hZ.alike Ar.2.1) Ar.2.2 h1 h2 hg hs hd
theorem own_ldB (X : Stand p l e R s m args below meth c T locs cells slots) (hx : p.tables.exec = Jvm.exec) (hZ : Z.Warmed39 s.vm) (eT : T.heap = h) {a : Addr} {n i : Nat} {f : Nat → Int32} {j x : Int32} (A : own_AI Z h a .byte n f) (hj : j.toInt = i) (hi : i < n) (hv : f i = x) {g : JFrame} (hg : g.method = m) {rest : List Value} (hs : g.stack = .int j :: .ref a :: rest) (hd : decode c.code g.pc = .ok (.baload, 1)) :
    ∀ target, Steps p.tables e below (T.setTop { g with pc := g.pc + 1, stack := .int x :: rest }) target → Steps p.tables e below (T.setTop g) target := by
  obtain ⟨cl, Ar, h1, h2⟩ := own_ldF A hj hi (by rw [hv])
  exact X.baloadBytes hx (by rw [eT]; exact Ar.1) (State.isArrayOf_alike hZ.alike Ar.2.1) Ar.2.2 h1 h2 hg hs hd
theorem own_ldZ (X : Stand p l e R s m args below meth c T locs cells slots) (hx : p.tables.exec = Jvm.exec) (hZ : Z.Warmed39 s.vm) (eT : T.heap = h) {a : Addr} {n i : Nat} {f : Nat → Int32} {j x : Int32} (A : own_AI Z h a .boolean n f) (hj : j.toInt = i) (hi : i < n) (hv : f i = x) {g : JFrame} (hg : g.method = m) {rest : List Value} (hs : g.stack = .int j :: .ref a :: rest) (hd : decode c.code g.pc = .ok (.baload, 1)) :
    ∀ target, Steps p.tables e below (T.setTop { g with pc := g.pc + 1, stack := .int x :: rest }) target → Steps p.tables e below (T.setTop g) target := by
  obtain ⟨cl, Ar, h1, h2⟩ := own_ldF A hj hi (by rw [hv])
  exact X.baloadBooleans hx (by rw [eT]; exact Ar.1) (State.isArrayOf_alike hZ.alike Ar.2.1) Ar.2.2 h1 h2 hg hs hd
theorem own_ldJ (X : Stand p l e R s m args below meth c T locs cells slots) (hx : p.tables.exec = Jvm.exec) (hZ : Z.Warmed39 s.vm) (eT : T.heap = h) {a : Addr} {n i : Nat} {f : Nat → Int64} {j : Int32} {x : Int64} (A : own_AL Z h a n f) (hj : j.toInt = i) (hi : i < n) (hv : f i = x) {g : JFrame} (hg : g.method = m) {rest : List Value} (hs : g.stack = .int j :: .ref a :: rest) (hd : decode c.code g.pc = .ok (.laload, 1)) :
    ∀ target, Steps p.tables e below (T.setTop { g with pc := g.pc + 1, stack := .long x :: rest }) target → Steps p.tables e below (T.setTop g) target := by
  obtain ⟨cl, Ar, h1, h2⟩ := own_ldF A hj hi (by rw [hv])
  exact X.laload hx (by rw [eT]; exact Ar.1) (State.isArrayOf_alike hZ.alike Ar.2.1) Ar.2.2 h1 h2 hg hs hd
theorem own_ldR (X : Stand p l e R s m args below meth c T locs cells slots) (hx : p.tables.exec = Jvm.exec) (hZ : Z.Warmed39 s.vm) (eT : T.heap = h) {a : Addr} {n i : Nat} {ty : FieldType} {f : Nat → Value} {j : Int32} {v : Value} (hty : ty.isReference = true) (A : own_AF Z h a ty n f) (hj : j.toInt = i) (hi : i < n) (hv : f i = v) {g : JFrame} (hg : g.method = m) {rest : List Value} (hs : g.stack = .int j :: .ref a :: rest) (hd : decode c.code g.pc = .ok (.aaload, 1)) :
    ∀ target, Steps p.tables e below (T.setTop { g with pc := g.pc + 1, stack := v :: rest }) target → Steps p.tables e below (T.setTop g) target := by
  obtain ⟨cl, Ar, h1, h2⟩ := own_ldF A hj hi hv
  exact X.aaload hx (by rw [eT]; exact Ar.1) (State.isArrayOf_alike hZ.alike Ar.2.1) hty Ar.2.2 h1 h2 hg hs hd
theorem own_len (X : Stand p l e R s m args below meth c T locs cells slots) (hx : p.tables.exec = Jvm.exec) (hZ : Z.Warmed39 s.vm) (eT : T.heap = h) {a : Addr} {n : Nat} {ty : FieldType} {f : Nat → Value} {z : Int32} (A : own_AF Z h a ty n f) (hz : z.toInt = n) {g : JFrame} (hg : g.method = m) {rest : List Value} (hs : g.stack = .ref a :: rest) (hd : decode c.code g.pc = .ok (.arraylength, 1)) :
    ∀ target, Steps p.tables e below (T.setTop { g with pc := g.pc + 1, stack := .int z :: rest }) target → Steps p.tables e below (T.setTop g) target := by
  obtain ⟨b, cl, Ar, hs', hf⟩ := A
  intro target k
  refine X.arraylength hx (by rw [eT]; exact Ar.1) (State.isArrayOf_alike hZ.alike Ar.2.1) hg hs hd target ?_
  have q : cl.slots.size.toInt32 = z := by
    apply Int32.toInt_inj.mp
    rw [hs', len_toInt (by omega), hz]
  rw [q]; exact k
theorem own_stI (X : Stand p l e R s m args below meth c T locs cells slots) (hx : p.tables.exec = Jvm.exec) (hZ : Z.Warmed39 s.vm) (eT : T.heap = h) {a : Addr} {n i : Nat} {f : Nat → Int32} {j x : Int32} (A : own_AI Z h a .int n f) (hj : j.toInt = i) (hi : i < n) {g : JFrame} (hg : g.method = m) {rest : List Value} (hs : g.stack = .int x :: .int j :: .ref a :: rest) (hd : decode c.code g.pc = .ok (.iastore, 1)) :
    ∃ T' h', Stand p l e R s m args below meth c T' (locs ++ [⟨a, i⟩]) cells slots ∧ T'.heap = h' ∧ Wr h h' a i (.int x) ∧ own_AI Z h' a .int n (own_upd f i x) ∧ ∀ target, Steps p.tables e below (T'.setTop { g with pc := g.pc + 1, stack := rest }) target → Steps p.tables e below (T.setTop g) target := by
  obtain ⟨cl, Ar, h1, -⟩ := own_ldF A hj hi rfl
  obtain ⟨T', h', X', e', W, st⟩ := stI X hx hZ eT Ar h1 hg hs hd
  rw [(own_idx hj).2] at X' W
  exact ⟨T', h', X', e', W, A.wr hi W, st⟩
theorem own_stB (X : Stand p l e R s m args below meth c T locs cells slots) (hx : p.tables.exec = Jvm.exec) (hZ : Z.Warmed39 s.vm) (eT : T.heap = h) {a : Addr} {n i : Nat} {f : Nat → Int32} {j x : Int32} (A : own_AI Z h a .byte n f) (hj : j.toInt = i) (hi : i < n) {g : JFrame} (hg : g.method = m) {rest : List Value} (hs : g.stack = .int x :: .int j :: .ref a :: rest) (hd : decode c.code g.pc = .ok (.bastore, 1)) :
    ∃ T' h', Stand p l e R s m args below meth c T' (locs ++ [⟨a, i⟩]) cells slots ∧ T'.heap = h' ∧ Wr h h' a i (.int (x.toInt8.toInt32)) ∧ own_AI Z h' a .byte n (own_upd f i (x.toInt8.toInt32)) ∧ ∀ target, Steps p.tables e below (T'.setTop { g with pc := g.pc + 1, stack := rest }) target → Steps p.tables e below (T.setTop g) target := by
  obtain ⟨cl, Ar, h1, -⟩ := own_ldF A hj hi rfl
  obtain ⟨T', h', X', e', W, st⟩ := stB X hx hZ eT Ar h1 hg hs hd
  rw [(own_idx hj).2] at X' W
  exact ⟨T', h', X', e', W, A.wr hi W, st⟩
theorem own_stZ (X : Stand p l e R s m args below meth c T locs cells slots) (hx : p.tables.exec = Jvm.exec) (hZ : Z.Warmed39 s.vm) (eT : T.heap = h) {a : Addr} {n i : Nat} {f : Nat → Int32} {j x : Int32} (A : own_AI Z h a .boolean n f) (hj : j.toInt = i) (hi : i < n) {g : JFrame} (hg : g.method = m) {rest : List Value} (hs : g.stack = .int x :: .int j :: .ref a :: rest) (hd : decode c.code g.pc = .ok (.bastore, 1)) :
    ∃ T' h', Stand p l e R s m args below meth c T' (locs ++ [⟨a, i⟩]) cells slots ∧ T'.heap = h' ∧ Wr h h' a i (.int (x &&& 1)) ∧ own_AI Z h' a .boolean n (own_upd f i (x &&& 1)) ∧ ∀ target, Steps p.tables e below (T'.setTop { g with pc := g.pc + 1, stack := rest }) target → Steps p.tables e below (T.setTop g) target := by
  obtain ⟨cl, Ar, h1, -⟩ := own_ldF A hj hi rfl
  obtain ⟨T', h', X', e', W, st⟩ := stZ X hx hZ eT Ar h1 hg hs hd
  rw [(own_idx hj).2] at X' W
  exact ⟨T', h', X', e', W, A.wr hi W, st⟩
theorem own_stC (X : Stand p l e R s m args below meth c T locs cells slots) (hx : p.tables.exec = Jvm.exec) (hZ : Z.Warmed39 s.vm) (eT : T.heap = h) {a : Addr} {n i : Nat} {f : Nat → Int32} {j x : Int32} (A : own_AI Z h a .char n f) (hj : j.toInt = i) (hi : i < n) {g : JFrame} (hg : g.method = m) {rest : List Value} (hs : g.stack = .int x :: .int j :: .ref a :: rest) (hd : decode c.code g.pc = .ok (.castore, 1)) :
    ∃ T' h', Stand p l e R s m args below meth c T' (locs ++ [⟨a, i⟩]) cells slots ∧ T'.heap = h' ∧ Wr h h' a i (.int (x.toUInt32.toUInt16.toUInt32.toInt32)) ∧ own_AI Z h' a .char n (own_upd f i (x.toUInt32.toUInt16.toUInt32.toInt32)) ∧ ∀ target, Steps p.tables e below (T'.setTop { g with pc := g.pc + 1, stack := rest }) target → Steps p.tables e below (T.setTop g) target := by
  obtain ⟨cl, Ar, h1, -⟩ := own_ldF A hj hi rfl
  obtain ⟨T', h', X', e', W, st⟩ := stC X hx hZ eT Ar h1 hg hs hd
  rw [(own_idx hj).2] at X' W
  exact ⟨T', h', X', e', W, A.wr hi W, st⟩
theorem own_stJ (X : Stand p l e R s m args below meth c T locs cells slots) (hx : p.tables.exec = Jvm.exec) (hZ : Z.Warmed39 s.vm) (eT : T.heap = h) {a : Addr} {n i : Nat} {f : Nat → Int64} {j : Int32} {x : Int64} (A : own_AL Z h a n f) (hj : j.toInt = i) (hi : i < n) {g : JFrame} (hg : g.method = m) {rest : List Value} (hs : g.stack = .long x :: .int j :: .ref a :: rest) (hd : decode c.code g.pc = .ok (.lastore, 1)) :
    ∃ T' h', Stand p l e R s m args below meth c T' (locs ++ [⟨a, i⟩]) cells slots ∧ T'.heap = h' ∧ Wr h h' a i (.long x) ∧ own_AL Z h' a n (own_upd f i x) ∧ ∀ target, Steps p.tables e below (T'.setTop { g with pc := g.pc + 1, stack := rest }) target → Steps p.tables e below (T.setTop g) target := by
  obtain ⟨cl, Ar, h1, -⟩ := own_ldF A hj hi rfl
  obtain ⟨T', h', X', e', W, st⟩ := stJ X hx hZ eT Ar h1 hg hs hd
  rw [(own_idx hj).2] at X' W
  exact ⟨T', h', X', e', W, A.wr hi W, st⟩
theorem own_newF {a : Addr} {cA : ClassId} {ty : FieldType} {n : Int32} {i : Nat} (hn : n.toInt = i) (A : Arr Z h a (newA cA ty n) ty) : own_AF Z h a ty i (fun _ => defaultValue ty) := by
  obtain ⟨h1, h2⟩ := own_idx hn
  have := n.toInt_lt
  refine ⟨by omega, _, A, by rw [sz_new, h2], fun j hj => ?_⟩
  simp [newA, h2, hj]
theorem own_newI {a : Addr} {cA : ClassId} {ty : FieldType} {n : Int32} {i : Nat} (hn : n.toInt = i) (A : Arr Z h a (newA cA ty n) ty) (hd : defaultValue ty = .int 0) : own_AI Z h a ty i (fun _ => 0) :=
  (own_newF hn A).congr fun _ _ => hd
theorem own_newL {a : Addr} {cA : ClassId} {n : Int32} {i : Nat} (hn : n.toInt = i) (A : Arr Z h a (newA cA .long n) .long) : own_AL Z h a i (fun _ => 0) :=
  (own_newF hn A).congr fun _ _ => rfl
theorem own_Sta.keep {C n d : String} {v : Value} {ws : List Addr} (F : Sta Z h C n d v) (K : Keep h h' ws) (q : ∀ x ∈ ws, ∀ cl : Cell, h[x]? = some cl → cl.vm.isStatics = false) : Sta Z h' C n d v := by
  obtain ⟨cf, i, k, f, st, cell, h1, h2, h3, h4, h5, h6, h7⟩ := F
  refine ⟨cf, i, k, f, st, cell, h1, h2, h3, h4, K.2.1 st cell h5 (fun q' => ?_), h6, h7⟩
  have := q st q' cell h5
  rw [h6] at this; cases this
theorem own_selP {args : Array Value} {C : String} {y y' : MethodName} (hcls : y'.cls = y.cls) (hs : (Jvm.Cond.selects C y' y').before args s = true) (hi' : (Jvm.Cond.instanceMethod y').before args s = true) (hp : (Jvm.Cond.privateMethod y).before args s = true) (hi : (Jvm.Cond.instanceMethod y).before args s = true) (hy : y.cls ≠ "java/lang/invoke/MethodHandle" ∧ y.cls ≠ "java/lang/invoke/VarHandle") : (Jvm.Cond.selects y.cls y y).before args s = true := by
  obtain ⟨mk, methM, hnamed, -⟩ := Cond.instanceMethod_spec hi'
  obtain ⟨kr, hk, hni⟩ := notFace_of_selects hs mk hnamed
  have hc := findClass_of_methodNamed hnamed
  rw [hcls] at hc
  exact selects_self_of_private hc hk hni (Cond.privateMethod_at hp) hi hy
end Own
theorem d1_0 : decode prog_9_method_6_code 0 = .ok (.aload_n 0, 1) := by decide +kernel
theorem d1_1 : decode prog_9_method_6_code 1 = .ok (.getstatic 3, 3) := by decide +kernel
theorem d1_4 : decode prog_9_method_6_code 4 = .ok (.if_acmp .ne 9, 3) := by decide +kernel
theorem d1_7 : decode prog_9_method_6_code 7 = .ok (.getstatic 7, 3) := by decide +kernel
theorem d1_10 : decode prog_9_method_6_code 10 = .ok (.goto 6, 3) := by decide +kernel
theorem d1_16 : decode prog_9_method_6_code 16 = .ok (.areturn, 1) := by decide +kernel
theorem pn_1 : plainName "com/example/abak/abak/format/KeyForm" = true := by first | (simp [plainName, overriddenIn]; done) | decide +kernel
theorem ef_o8 (m : MethodId) (x0 : Addr) : entryFrame m #[(.ref x0)] 1 = mkF m 0 #[.val (.ref x0)] [] := by first | (simp [entryFrame, mkF, argsToLocals, Value.category]; done) | rfl
def Qo8 (Z : State) (x8 : Addr) (xu : Addr) (h0 : Heap) (n0 : Nat) (v : Option Value) (h : Heap) (L : List Loc) : Prop := v = some (.ref xu) ∧ Fr n0 L ∧ h = h0
set_option maxRecDepth 65536 in
set_option maxHeartbeats 40000000 in
theorem rmo8 (l : Launch) (Z : State) (a0 : Array Value) (hw : ∀ d ∈ tables_1, d.before a0 Z = true) (ws : List Jvm.Cond) (x8 : Addr) (xu : Addr) (h0 : Heap) (n0 : Nat) (S_EIGHT_BIT : Sta Z h0 "com/example/abak/abak/format/KeyForm" "EIGHT_BIT" "Lcom/example/abak/abak/format/KeyForm;" (.ref x8)) (S_UTF_8 : Sta Z h0 "com/example/abak/abak/format/KeyForm" "UTF_8" "Lcom/example/abak/abak/format/KeyForm;" (.ref xu)) :
    MetFree l (⟨"com/example/abak/abak/format/KeyForm", "other", "()Lcom/example/abak/abak/format/KeyForm;"⟩ : MethodName) (head1 (Jvm.Cond.code (⟨"com/example/abak/abak/format/KeyForm", "other", "()Lcom/example/abak/abak/format/KeyForm;"⟩ : MethodName) prog_9_method_6_code 1 (some (.object "com/example/abak/abak/format/KeyForm")) :: ws) ({ frames := 0, cells := 0, slots := 0, locals := 0 } : Room)) (fun aa UU => aa = #[(.ref x8)] ∧ Z.Warmed39 UU.vm ∧ UU.heap = h0) (fun _ _ _ _ _ => True) (fun _ UU oo UV => ∃ vv LL, oo = .returned vv ∧ Qo8 Z x8 xu h0 n0 vv UV.heap LL ∧ FrameEnd UU oo UV LL ({ frames := 0, cells := 0, slots := 0, locals := 0 } : Room).cells ({ frames := 0, cells := 0, slots := 0, locals := 0 } : Room).slots) := by
  refine MetFree.of_bodySF (plainFor_of_name pn_1) hisR ?_
  intro p e s m args below meth c s₁ Bd hml0 hP hK
  obtain ⟨rfl, hZ, hh⟩ := hP
  have hx := Bd.exec
  have hby := Bd.bytes
  have hml : c.maxLocals = 1 := hml0
  have hown : s.vm.findClass "com/example/abak/abak/format/KeyForm" = some m.cls := findClass_of_methodNamed Bd.named
  have hnm := (name_of_methodNamed Bd.named Bd.method).1
  have X0 : Stand p l e ({ frames := 0, cells := 0, slots := 0, locals := 0 } : Room) s m #[(.ref x8)] below meth c s₁ [] 0 0 := Stand.of_body Bd
  have e0 : s₁.heap = h0 := by rw [← hh, Bd.state]; rfl
  have N0 := Fr.nil n0
  have k0 : ∀ t, Steps p.tables e below (s₁.setTop (mkF m 0 #[.val (.ref x8)] [])) t → Steps p.tables e below (s₁.setTop (entryFrame m #[(.ref x8)] 1)) t := fun t k => castTop (ef_o8 m x8) k
  obtain ⟨T1, X1, e1, st1⟩ := getS2 X0 hx hZ hown (host := "") (Or.inl (hw _ (List.mem_of_getElem? (i := 8) rfl))) Via.refl e0 S_EIGHT_BIT (g := (mkF m 1 #[.val (.ref x8)] [(.ref x8)])) rfl (hb hby d1_1)
  obtain ⟨T2, X2, e2, st2⟩ := getS2 X1 hx hZ hown (host := "") (Or.inl (hw _ (List.mem_of_getElem? (i := 9) rfl))) Via.refl e1 S_UTF_8 (g := (mkF m 7 #[.val (.ref x8)] [])) rfl (hb hby d1_7)
  have k3 : ∀ t, Steps p.tables e below (T2.setTop (mkF m 16 #[.val (.ref x8)] [(.ref xu)])) t → Steps p.tables e below (s₁.setTop (entryFrame m #[(.ref x8)] 1)) t := by
    intro t kt
    refine k0 t ?_
    refine XS.aloadN X0.here hx rfl (hb hby d1_0) rfl rfl ?_
    show Steps p.tables e below (s₁.setTop (mkF m 1 #[.val (.ref x8)] [(.ref x8)])) _
    refine st1 _ ?_
    show Steps p.tables e below (T1.setTop (mkF m 4 #[.val (.ref x8)] [(.ref x8), (.ref x8)])) _
    refine Jvm.RoadKit.acmp (g := (mkF m 4 #[.val (.ref x8)] [(.ref x8), (.ref x8)])) X1 hx rfl rfl rfl (pc0 := 4) (pc' := 7) (same := true) rfl (hb hby d1_4) rfl (decide_eq_true rfl) (by decide) (by decide) ?_
    show Steps p.tables e below (T1.setTop (mkF m 7 #[.val (.ref x8)] [])) _
    refine st2 _ ?_
    show Steps p.tables e below (T2.setTop (mkF m 10 #[.val (.ref x8)] [(.ref xu)])) _
    refine XS.goto X2.here hx rfl (pc0 := 10) (pc' := 16) rfl (hb hby d1_10) (by decide) (by decide) ?_
    show Steps p.tables e below (T2.setTop (mkF m 16 #[.val (.ref x8)] [(.ref xu)])) _
    exact kt
  obtain ⟨fs, hr, hrun, hended, hW, hsame⟩ := X2.leave (v := some (.ref xu)) (fun h => by rw [Bd.returns] at h; cases h)
  refine ⟨_, _, k3 _ (retOut X2 hx Bd.returns rfl (Or.inr (Or.inr (Or.inr (Or.inr ⟨rfl, rfl, rfl⟩)))) (hb hby d1_16) hr), hrun, hended, _, _, rfl, ?_, ⟨_, rfl⟩, hW, hsame.mono (by decide) (by decide)⟩
  show Qo8 Z x8 xu h0 n0 _ T2.heap _
  rw [e2]
  exact ⟨rfl, N0, rfl⟩
theorem d1_13 : decode prog_9_method_6_code 13 = .ok (.getstatic 3, 3) := by decide +kernel
theorem ef_ou (m : MethodId) (x0 : Addr) : entryFrame m #[(.ref x0)] 1 = mkF m 0 #[.val (.ref x0)] [] := by first | (simp [entryFrame, mkF, argsToLocals, Value.category]; done) | rfl
def Qou (Z : State) (xu : Addr) (x8 : Addr) (h0 : Heap) (n0 : Nat) (v : Option Value) (h : Heap) (L : List Loc) : Prop := v = some (.ref x8) ∧ Fr n0 L ∧ h = h0
set_option maxRecDepth 65536 in
set_option maxHeartbeats 40000000 in
theorem rmou (l : Launch) (Z : State) (a0 : Array Value) (hw : ∀ d ∈ tables_1, d.before a0 Z = true) (ws : List Jvm.Cond) (xu : Addr) (x8 : Addr) (h0 : Heap) (n0 : Nat) (S_EIGHT_BIT : Sta Z h0 "com/example/abak/abak/format/KeyForm" "EIGHT_BIT" "Lcom/example/abak/abak/format/KeyForm;" (.ref x8)) (S_UTF_8 : Sta Z h0 "com/example/abak/abak/format/KeyForm" "UTF_8" "Lcom/example/abak/abak/format/KeyForm;" (.ref xu)) (ne_x8_xu : x8 ≠ xu) :
    MetFree l (⟨"com/example/abak/abak/format/KeyForm", "other", "()Lcom/example/abak/abak/format/KeyForm;"⟩ : MethodName) (head1 (Jvm.Cond.code (⟨"com/example/abak/abak/format/KeyForm", "other", "()Lcom/example/abak/abak/format/KeyForm;"⟩ : MethodName) prog_9_method_6_code 1 (some (.object "com/example/abak/abak/format/KeyForm")) :: ws) ({ frames := 0, cells := 0, slots := 0, locals := 0 } : Room)) (fun aa UU => aa = #[(.ref xu)] ∧ Z.Warmed39 UU.vm ∧ UU.heap = h0) (fun _ _ _ _ _ => True) (fun _ UU oo UV => ∃ vv LL, oo = .returned vv ∧ Qou Z xu x8 h0 n0 vv UV.heap LL ∧ FrameEnd UU oo UV LL ({ frames := 0, cells := 0, slots := 0, locals := 0 } : Room).cells ({ frames := 0, cells := 0, slots := 0, locals := 0 } : Room).slots) := by
  refine MetFree.of_bodySF (plainFor_of_name pn_1) hisR ?_
  intro p e s m args below meth c s₁ Bd hml0 hP hK
  obtain ⟨rfl, hZ, hh⟩ := hP
  have hx := Bd.exec
  have hby := Bd.bytes
  have hml : c.maxLocals = 1 := hml0
  have hown : s.vm.findClass "com/example/abak/abak/format/KeyForm" = some m.cls := findClass_of_methodNamed Bd.named
  have hnm := (name_of_methodNamed Bd.named Bd.method).1
  have X0 : Stand p l e ({ frames := 0, cells := 0, slots := 0, locals := 0 } : Room) s m #[(.ref xu)] below meth c s₁ [] 0 0 := Stand.of_body Bd
  have e0 : s₁.heap = h0 := by rw [← hh, Bd.state]; rfl
  have N0 := Fr.nil n0
  have k0 : ∀ t, Steps p.tables e below (s₁.setTop (mkF m 0 #[.val (.ref xu)] [])) t → Steps p.tables e below (s₁.setTop (entryFrame m #[(.ref xu)] 1)) t := fun t k => castTop (ef_ou m xu) k
  obtain ⟨T4, X4, e4, st4⟩ := getS2 X0 hx hZ hown (host := "") (Or.inl (hw _ (List.mem_of_getElem? (i := 8) rfl))) Via.refl e0 S_EIGHT_BIT (g := (mkF m 1 #[.val (.ref xu)] [(.ref xu)])) rfl (hb hby d1_1)
  obtain ⟨T5, X5, e5, st5⟩ := getS2 X4 hx hZ hown (host := "") (Or.inl (hw _ (List.mem_of_getElem? (i := 8) rfl))) Via.refl e4 S_EIGHT_BIT (g := (mkF m 13 #[.val (.ref xu)] [])) rfl (hb hby d1_13)
  have k6 : ∀ t, Steps p.tables e below (T5.setTop (mkF m 16 #[.val (.ref xu)] [(.ref x8)])) t → Steps p.tables e below (s₁.setTop (entryFrame m #[(.ref xu)] 1)) t := by
    intro t kt
    refine k0 t ?_
    refine XS.aloadN X0.here hx rfl (hb hby d1_0) rfl rfl ?_
    show Steps p.tables e below (s₁.setTop (mkF m 1 #[.val (.ref xu)] [(.ref xu)])) _
    refine st4 _ ?_
    show Steps p.tables e below (T4.setTop (mkF m 4 #[.val (.ref xu)] [(.ref x8), (.ref xu)])) _
    refine Jvm.RoadKit.acmp (g := (mkF m 4 #[.val (.ref xu)] [(.ref x8), (.ref xu)])) X4 hx rfl rfl rfl (pc0 := 4) (pc' := 13) (same := false) rfl (hb hby d1_4) rfl (decide_eq_false fun q => (Ne.symm ne_x8_xu) (Value.ref.inj q)) (by decide) (by decide) ?_
    show Steps p.tables e below (T4.setTop (mkF m 13 #[.val (.ref xu)] [])) _
    refine st5 _ ?_
    show Steps p.tables e below (T5.setTop (mkF m 16 #[.val (.ref xu)] [(.ref x8)])) _
    exact kt
  obtain ⟨fs, hr, hrun, hended, hW, hsame⟩ := X5.leave (v := some (.ref x8)) (fun h => by rw [Bd.returns] at h; cases h)
  refine ⟨_, _, k6 _ (retOut X5 hx Bd.returns rfl (Or.inr (Or.inr (Or.inr (Or.inr ⟨rfl, rfl, rfl⟩)))) (hb hby d1_16) hr), hrun, hended, _, _, rfl, ?_, ⟨_, rfl⟩, hW, hsame.mono (by decide) (by decide)⟩
  show Qou Z xu x8 h0 n0 _ T5.heap _
  rw [e5]
  exact ⟨rfl, N0, rfl⟩
theorem pd_0 : parseMethodDescriptor "()Lcom/example/abak/abak/format/KeyForm;" = some ⟨[], some (.object "com/example/abak/abak/format/KeyForm")⟩ := by decide +kernel
theorem pn_0 : plainName "com/example/abak/abak/format/KeyFormOtherPinLaw" = true := by first | (simp [plainName, overriddenIn]; done) | decide +kernel
theorem ef_0 (m : MethodId) (x0 : Int32) : entryFrame m #[(.int x0)] maxLocals = mkF m 0 #[.val (.int x0), .unset, .unset] [] := by first | (simp [entryFrame, mkF, argsToLocals, Value.category, maxLocals]; done) | rfl
def Q0 (Z : State) (p0 : Int32) (x8 : Addr) (xu : Addr) (h0 : Heap) (n0 : Nat) (v : Option Value) (h : Heap) (L : List Loc) : Prop := v = some (.int 1) ∧ Fr n0 L
set_option maxRecDepth 65536 in
set_option maxHeartbeats 40000000 in
theorem rm0 (l : Launch) (Z : State) (a0 : Array Value) (hw : ∀ d ∈ tables_1, d.before a0 Z = true) (ws : List Jvm.Cond) (p0 : Int32) (x8 : Addr) (xu : Addr) (h0 : Heap) (n0 : Nat) (Z0 : n0 ≤ h0.size) (S_EIGHT_BIT : Sta Z h0 "com/example/abak/abak/format/KeyForm" "EIGHT_BIT" "Lcom/example/abak/abak/format/KeyForm;" (.ref x8)) (S_UTF_8 : Sta Z h0 "com/example/abak/abak/format/KeyForm" "UTF_8" "Lcom/example/abak/abak/format/KeyForm;" (.ref xu)) (E_x8 : Exa Z h0 x8 "com/example/abak/abak/format/KeyForm$1") (E_xu : Exa Z h0 xu "com/example/abak/abak/format/KeyForm$2") (ne_x8_xu : x8 ≠ xu) :
    MetFree l x (head1 (Jvm.Cond.code x code maxLocals ret :: ws) room_1) (fun aa UU => aa = #[(.int p0)] ∧ Z.Warmed39 UU.vm ∧ UU.heap = h0) (fun _ _ _ _ _ => True) (fun _ UU oo UV => ∃ vv LL, oo = .returned vv ∧ Q0 Z p0 x8 xu h0 n0 vv UV.heap LL ∧ FrameEnd UU oo UV LL room_1.cells room_1.slots) := by
  refine MetFree.of_bodySF (plainFor_of_name pn_0) hisR ?_
  intro p e s m args below meth c s₁ Bd hml0 hP hK
  obtain ⟨rfl, hZ, hh⟩ := hP
  have hx := Bd.exec
  have hby := Bd.bytes
  have hml : c.maxLocals = 3 := hml0
  have hown : s.vm.findClass "com/example/abak/abak/format/KeyFormOtherPinLaw" = some m.cls := findClass_of_methodNamed Bd.named
  have hnm := (name_of_methodNamed Bd.named Bd.method).1
  have X0 : Stand p l e room_1 s m #[(.int p0)] below meth c s₁ [] 0 0 := Stand.of_body Bd
  have e0 : s₁.heap = h0 := by rw [← hh, Bd.state]; rfl
  have N0 := Fr.nil n0
  have k0 : ∀ t, Steps p.tables e below (s₁.setTop (mkF m 0 #[.val (.int p0), .unset, .unset] [])) t → Steps p.tables e below (s₁.setTop (entryFrame m #[(.int p0)] maxLocals)) t := fun t k => castTop (ef_0 m p0) k
  have k7 : ∀ t, Steps p.tables e below (s₁.setTop (mkF m 3 #[.val (.int p0), .unset, .unset] [(.int (p0 &&& (1 : Int32)))])) t → Steps p.tables e below (s₁.setTop (entryFrame m #[(.int p0)] maxLocals)) t := by
    intro t kt
    refine k0 t ?_
    refine XS.iloadN X0.here hx rfl (hb hby at_0) rfl ?_
    show Steps p.tables e below (s₁.setTop (mkF m 1 #[.val (.int p0), .unset, .unset] [(.int p0)])) _
    refine XS.iconst X0.here hx rfl (hb hby at_1) ?_
    show Steps p.tables e below (s₁.setTop (mkF m 2 #[.val (.int p0), .unset, .unset] [(.int (1 : Int32)), (.int p0)])) _
    refine XS.iand X0.here hx rfl (hb hby at_2) rfl ?_
    show Steps p.tables e below (s₁.setTop (mkF m 3 #[.val (.int p0), .unset, .unset] [(.int (p0 &&& (1 : Int32)))])) _
    exact kt
  by_cases hc3_8 : (p0 &&& (1 : Int32)) = (0 : Int32)
  · obtain ⟨T9, X9, e9, st9⟩ := getS2 X0 hx hZ hown (host := "") (Or.inl (hw _ (List.mem_of_getElem? (i := 0) rfl))) Via.refl e0 S_EIGHT_BIT (g := (mkF m 6 #[.val (.int p0), .unset, .unset] [])) rfl (hb hby at_6)
    obtain ⟨cq10, kq10, q10a, q10b, q10c⟩ := isOf hZ e9 E_x8
    obtain ⟨_, _, ⟨T10, L10, kc10, nc10⟩, -, X10, ⟨Lc10, hQ10, l10, y10, z10⟩, st10⟩ := X9.virtualBack hx (y := (⟨"com/example/abak/abak/format/KeyForm", "other", "()Lcom/example/abak/abak/format/KeyForm;"⟩ : MethodName)) (z := (⟨"com/example/abak/abak/format/KeyForm", "other", "()Lcom/example/abak/abak/format/KeyForm;"⟩ : MethodName)) hown (mvT hZ (hw _ (List.mem_of_getElem? (i := 3) rfl))) (mvT hZ (hw _ (List.mem_of_getElem? (i := 4) rfl))) (notFace_of_selects (args := #[]) (mvT hZ (hw _ (List.mem_of_getElem? (i := 6) rfl)))) (mvT hZ (hw _ (List.mem_of_getElem? (i := 6) rfl))) (mvT hZ (hw _ (List.mem_of_getElem? (i := 5) rfl))) (by decide) (backOf (W := 0) (rmo8 l Z a0 hw [] x8 xu h0 n0 S_EIGHT_BIT S_UTF_8) hZ (hw _ (List.mem_of_getElem? (i := 7) rfl)) (hw _ (List.mem_of_getElem? (i := 1) rfl)) (by decide) (by decide)) q10a q10c (g := (mkF m 17 #[.val (.int p0), .val (.ref x8), .unset] [(.ref x8)])) rfl (by rw [hml]; rfl) (Steps.refl _) (argsL := []) (rest := []) (lenOf pd_0 rfl) rfl (by show 2 * 0 + _ ≤ _; exact Nat.le_of_eq rfl) (hb hby at_17) (fun _ _ => ⟨rfl, e9, (by decide : 0 + 0 ≤ _), (by decide : 0 + 0 ≤ _)⟩)
    dsimp only [Pt.U, Pt.locs, Pt.cells, Pt.slots] at X10 l10 y10 z10 st10 hQ10
    subst l10 y10 z10
    obtain ⟨rfl, Nq10, eq10⟩ := hQ10
    have N10 := Fr.app N0 Nq10
    obtain ⟨cq11, kq11, q11a, q11b, q11c⟩ := isOf hZ eq10 E_xu
    obtain ⟨_, _, ⟨T11, L11, kc11, nc11⟩, -, X11, ⟨Lc11, hQ11, l11, y11, z11⟩, st11⟩ := X10.virtualBack hx (y := (⟨"com/example/abak/abak/format/KeyForm", "other", "()Lcom/example/abak/abak/format/KeyForm;"⟩ : MethodName)) (z := (⟨"com/example/abak/abak/format/KeyForm", "other", "()Lcom/example/abak/abak/format/KeyForm;"⟩ : MethodName)) hown (mvT hZ (hw _ (List.mem_of_getElem? (i := 3) rfl))) (mvT hZ (hw _ (List.mem_of_getElem? (i := 4) rfl))) (notFace_of_selects (args := #[]) (mvT hZ (hw _ (List.mem_of_getElem? (i := 11) rfl)))) (mvT hZ (hw _ (List.mem_of_getElem? (i := 11) rfl))) (mvT hZ (hw _ (List.mem_of_getElem? (i := 5) rfl))) (by decide) (backOf (W := 0) (rmou l Z a0 hw [] xu x8 h0 n0 S_EIGHT_BIT S_UTF_8 ne_x8_xu) hZ (hw _ (List.mem_of_getElem? (i := 7) rfl)) (hw _ (List.mem_of_getElem? (i := 1) rfl)) (by decide) (by decide)) q11a q11c (g := (mkF m 35 #[.val (.int p0), .val (.ref x8), .val (.ref xu)] [(.ref xu)])) rfl (by rw [hml]; rfl) (Steps.refl _) (argsL := []) (rest := []) (lenOf pd_0 rfl) rfl (by show 2 * 0 + _ ≤ _; exact Nat.le_of_eq rfl) (hb hby at_35) (fun _ _ => ⟨rfl, eq10, (by decide : 0 + 0 ≤ _), (by decide : 0 + 0 ≤ _)⟩)
    dsimp only [Pt.U, Pt.locs, Pt.cells, Pt.slots] at X11 l11 y11 z11 st11 hQ11
    subst l11 y11 z11
    obtain ⟨rfl, Nq11, eq11⟩ := hQ11
    have N11 := Fr.app N10 Nq11
    have k12 : ∀ t, Steps p.tables e below (T11.setTop (mkF m 47 #[.val (.int p0), .val (.ref x8), .val (.ref xu)] [(.int (1 : Int32))])) t → Steps p.tables e below (s₁.setTop (entryFrame m #[(.int p0)] maxLocals)) t := by
      intro t kt
      refine k7 t ?_
      refine XS.ifNo X0.here hx rfl (hb hby at_3) rfl ((if0 _ _).trans (teq hc3_8).2) ?_
      show Steps p.tables e below (s₁.setTop (mkF m 6 #[.val (.int p0), .unset, .unset] [])) _
      refine st9 _ ?_
      show Steps p.tables e below (T9.setTop (mkF m 9 #[.val (.int p0), .unset, .unset] [(.ref x8)])) _
      refine XS.goto X9.here hx rfl (pc0 := 9) (pc' := 15) rfl (hb hby at_9) (by decide) (by decide) ?_
      show Steps p.tables e below (T9.setTop (mkF m 15 #[.val (.int p0), .unset, .unset] [(.ref x8)])) _
      refine XS.astoreN X9.here hx rfl (hb hby at_15) rfl rfl (l' := #[.val (.int p0), .val (.ref x8), .unset]) rfl ?_
      show Steps p.tables e below (T9.setTop (mkF m 16 #[.val (.int p0), .val (.ref x8), .unset] [])) _
      refine XS.aloadN X9.here hx rfl (hb hby at_16) rfl rfl ?_
      show Steps p.tables e below (T9.setTop (mkF m 17 #[.val (.int p0), .val (.ref x8), .unset] [(.ref x8)])) _
      refine st10.trans ?_
      show Steps p.tables e below (T10.setTop (mkF m 20 #[.val (.int p0), .val (.ref x8), .unset] [(.ref xu)])) _
      refine XS.astoreN X10.here hx rfl (hb hby at_20) rfl rfl (l' := #[.val (.int p0), .val (.ref x8), .val (.ref xu)]) rfl ?_
      show Steps p.tables e below (T10.setTop (mkF m 21 #[.val (.int p0), .val (.ref x8), .val (.ref xu)] [])) _
      refine XS.aloadN X10.here hx rfl (hb hby at_21) rfl rfl ?_
      show Steps p.tables e below (T10.setTop (mkF m 22 #[.val (.int p0), .val (.ref x8), .val (.ref xu)] [(.ref xu)])) _
      refine XS.ifnonnullYes X10.here hx rfl (pc0 := 22) (pc' := 27) rfl (hb hby at_22) rfl (by decide) (by decide) ?_
      show Steps p.tables e below (T10.setTop (mkF m 27 #[.val (.int p0), .val (.ref x8), .val (.ref xu)] [])) _
      refine XS.aloadN X10.here hx rfl (hb hby at_27) rfl rfl ?_
      show Steps p.tables e below (T10.setTop (mkF m 28 #[.val (.int p0), .val (.ref x8), .val (.ref xu)] [(.ref xu)])) _
      refine XS.aloadN X10.here hx rfl (hb hby at_28) rfl rfl ?_
      show Steps p.tables e below (T10.setTop (mkF m 29 #[.val (.int p0), .val (.ref x8), .val (.ref xu)] [(.ref x8), (.ref xu)])) _
      refine Jvm.RoadKit.acmp (g := (mkF m 29 #[.val (.int p0), .val (.ref x8), .val (.ref xu)] [(.ref x8), (.ref xu)])) X10 hx rfl rfl rfl (pc0 := 29) (pc' := 34) (same := false) rfl (hb hby at_29) rfl (decide_eq_false fun q => (Ne.symm ne_x8_xu) (Value.ref.inj q)) (by decide) (by decide) ?_
      show Steps p.tables e below (T10.setTop (mkF m 34 #[.val (.int p0), .val (.ref x8), .val (.ref xu)] [])) _
      refine XS.aloadN X10.here hx rfl (hb hby at_34) rfl rfl ?_
      show Steps p.tables e below (T10.setTop (mkF m 35 #[.val (.int p0), .val (.ref x8), .val (.ref xu)] [(.ref xu)])) _
      refine st11.trans ?_
      show Steps p.tables e below (T11.setTop (mkF m 38 #[.val (.int p0), .val (.ref x8), .val (.ref xu)] [(.ref x8)])) _
      refine XS.aloadN X11.here hx rfl (hb hby at_38) rfl rfl ?_
      show Steps p.tables e below (T11.setTop (mkF m 39 #[.val (.int p0), .val (.ref x8), .val (.ref xu)] [(.ref x8), (.ref x8)])) _
      refine Jvm.RoadKit.acmp (g := (mkF m 39 #[.val (.int p0), .val (.ref x8), .val (.ref xu)] [(.ref x8), (.ref x8)])) X11 hx rfl rfl rfl (pc0 := 39) (pc' := 42) (same := true) rfl (hb hby at_39) rfl (decide_eq_true rfl) (by decide) (by decide) ?_
      show Steps p.tables e below (T11.setTop (mkF m 42 #[.val (.int p0), .val (.ref x8), .val (.ref xu)] [])) _
      refine XS.iconst X11.here hx rfl (hb hby at_42) ?_
      show Steps p.tables e below (T11.setTop (mkF m 43 #[.val (.int p0), .val (.ref x8), .val (.ref xu)] [(.int (1 : Int32))])) _
      refine XS.goto X11.here hx rfl (pc0 := 43) (pc' := 47) rfl (hb hby at_43) (by decide) (by decide) ?_
      show Steps p.tables e below (T11.setTop (mkF m 47 #[.val (.int p0), .val (.ref x8), .val (.ref xu)] [(.int (1 : Int32))])) _
      exact kt
    obtain ⟨fs, hr, hrun, hended, hW, hsame⟩ := X11.leave (v := some (.int (1 : Int32))) (fun h => by rw [Bd.returns] at h; cases h)
    refine ⟨_, _, k12 _ (retN X11 hx (t := .boolean) Bd.returns (by simp) (hb hby at_47) hr), hrun, hended, _, _, rfl, ?_, ⟨_, rfl⟩, hW, hsame.mono (by decide) (by decide)⟩
    show Q0 Z p0 x8 xu h0 n0 _ T11.heap _
    rw [eq11]
    exact ⟨rfl, N11⟩
  · obtain ⟨T13, X13, e13, st13⟩ := getS2 X0 hx hZ hown (host := "") (Or.inl (hw _ (List.mem_of_getElem? (i := 12) rfl))) Via.refl e0 S_UTF_8 (g := (mkF m 12 #[.val (.int p0), .unset, .unset] [])) rfl (hb hby at_12)
    obtain ⟨cq14, kq14, q14a, q14b, q14c⟩ := isOf hZ e13 E_xu
    obtain ⟨_, _, ⟨T14, L14, kc14, nc14⟩, -, X14, ⟨Lc14, hQ14, l14, y14, z14⟩, st14⟩ := X13.virtualBack hx (y := (⟨"com/example/abak/abak/format/KeyForm", "other", "()Lcom/example/abak/abak/format/KeyForm;"⟩ : MethodName)) (z := (⟨"com/example/abak/abak/format/KeyForm", "other", "()Lcom/example/abak/abak/format/KeyForm;"⟩ : MethodName)) hown (mvT hZ (hw _ (List.mem_of_getElem? (i := 3) rfl))) (mvT hZ (hw _ (List.mem_of_getElem? (i := 4) rfl))) (notFace_of_selects (args := #[]) (mvT hZ (hw _ (List.mem_of_getElem? (i := 11) rfl)))) (mvT hZ (hw _ (List.mem_of_getElem? (i := 11) rfl))) (mvT hZ (hw _ (List.mem_of_getElem? (i := 5) rfl))) (by decide) (backOf (W := 0) (rmou l Z a0 hw [] xu x8 h0 n0 S_EIGHT_BIT S_UTF_8 ne_x8_xu) hZ (hw _ (List.mem_of_getElem? (i := 7) rfl)) (hw _ (List.mem_of_getElem? (i := 1) rfl)) (by decide) (by decide)) q14a q14c (g := (mkF m 17 #[.val (.int p0), .val (.ref xu), .unset] [(.ref xu)])) rfl (by rw [hml]; rfl) (Steps.refl _) (argsL := []) (rest := []) (lenOf pd_0 rfl) rfl (by show 2 * 0 + _ ≤ _; exact Nat.le_of_eq rfl) (hb hby at_17) (fun _ _ => ⟨rfl, e13, (by decide : 0 + 0 ≤ _), (by decide : 0 + 0 ≤ _)⟩)
    dsimp only [Pt.U, Pt.locs, Pt.cells, Pt.slots] at X14 l14 y14 z14 st14 hQ14
    subst l14 y14 z14
    obtain ⟨rfl, Nq14, eq14⟩ := hQ14
    have N14 := Fr.app N0 Nq14
    obtain ⟨cq15, kq15, q15a, q15b, q15c⟩ := isOf hZ eq14 E_x8
    obtain ⟨_, _, ⟨T15, L15, kc15, nc15⟩, -, X15, ⟨Lc15, hQ15, l15, y15, z15⟩, st15⟩ := X14.virtualBack hx (y := (⟨"com/example/abak/abak/format/KeyForm", "other", "()Lcom/example/abak/abak/format/KeyForm;"⟩ : MethodName)) (z := (⟨"com/example/abak/abak/format/KeyForm", "other", "()Lcom/example/abak/abak/format/KeyForm;"⟩ : MethodName)) hown (mvT hZ (hw _ (List.mem_of_getElem? (i := 3) rfl))) (mvT hZ (hw _ (List.mem_of_getElem? (i := 4) rfl))) (notFace_of_selects (args := #[]) (mvT hZ (hw _ (List.mem_of_getElem? (i := 6) rfl)))) (mvT hZ (hw _ (List.mem_of_getElem? (i := 6) rfl))) (mvT hZ (hw _ (List.mem_of_getElem? (i := 5) rfl))) (by decide) (backOf (W := 0) (rmo8 l Z a0 hw [] x8 xu h0 n0 S_EIGHT_BIT S_UTF_8) hZ (hw _ (List.mem_of_getElem? (i := 7) rfl)) (hw _ (List.mem_of_getElem? (i := 1) rfl)) (by decide) (by decide)) q15a q15c (g := (mkF m 35 #[.val (.int p0), .val (.ref xu), .val (.ref x8)] [(.ref x8)])) rfl (by rw [hml]; rfl) (Steps.refl _) (argsL := []) (rest := []) (lenOf pd_0 rfl) rfl (by show 2 * 0 + _ ≤ _; exact Nat.le_of_eq rfl) (hb hby at_35) (fun _ _ => ⟨rfl, eq14, (by decide : 0 + 0 ≤ _), (by decide : 0 + 0 ≤ _)⟩)
    dsimp only [Pt.U, Pt.locs, Pt.cells, Pt.slots] at X15 l15 y15 z15 st15 hQ15
    subst l15 y15 z15
    obtain ⟨rfl, Nq15, eq15⟩ := hQ15
    have N15 := Fr.app N14 Nq15
    have k16 : ∀ t, Steps p.tables e below (T15.setTop (mkF m 47 #[.val (.int p0), .val (.ref xu), .val (.ref x8)] [(.int (1 : Int32))])) t → Steps p.tables e below (s₁.setTop (entryFrame m #[(.int p0)] maxLocals)) t := by
      intro t kt
      refine k7 t ?_
      refine XS.ifYes X0.here hx rfl (pc0 := 3) (pc' := 12) rfl (hb hby at_3) rfl ((if0 _ _).trans (feq hc3_8).2) (by decide) (by decide) ?_
      show Steps p.tables e below (s₁.setTop (mkF m 12 #[.val (.int p0), .unset, .unset] [])) _
      refine st13 _ ?_
      show Steps p.tables e below (T13.setTop (mkF m 15 #[.val (.int p0), .unset, .unset] [(.ref xu)])) _
      refine XS.astoreN X13.here hx rfl (hb hby at_15) rfl rfl (l' := #[.val (.int p0), .val (.ref xu), .unset]) rfl ?_
      show Steps p.tables e below (T13.setTop (mkF m 16 #[.val (.int p0), .val (.ref xu), .unset] [])) _
      refine XS.aloadN X13.here hx rfl (hb hby at_16) rfl rfl ?_
      show Steps p.tables e below (T13.setTop (mkF m 17 #[.val (.int p0), .val (.ref xu), .unset] [(.ref xu)])) _
      refine st14.trans ?_
      show Steps p.tables e below (T14.setTop (mkF m 20 #[.val (.int p0), .val (.ref xu), .unset] [(.ref x8)])) _
      refine XS.astoreN X14.here hx rfl (hb hby at_20) rfl rfl (l' := #[.val (.int p0), .val (.ref xu), .val (.ref x8)]) rfl ?_
      show Steps p.tables e below (T14.setTop (mkF m 21 #[.val (.int p0), .val (.ref xu), .val (.ref x8)] [])) _
      refine XS.aloadN X14.here hx rfl (hb hby at_21) rfl rfl ?_
      show Steps p.tables e below (T14.setTop (mkF m 22 #[.val (.int p0), .val (.ref xu), .val (.ref x8)] [(.ref x8)])) _
      refine XS.ifnonnullYes X14.here hx rfl (pc0 := 22) (pc' := 27) rfl (hb hby at_22) rfl (by decide) (by decide) ?_
      show Steps p.tables e below (T14.setTop (mkF m 27 #[.val (.int p0), .val (.ref xu), .val (.ref x8)] [])) _
      refine XS.aloadN X14.here hx rfl (hb hby at_27) rfl rfl ?_
      show Steps p.tables e below (T14.setTop (mkF m 28 #[.val (.int p0), .val (.ref xu), .val (.ref x8)] [(.ref x8)])) _
      refine XS.aloadN X14.here hx rfl (hb hby at_28) rfl rfl ?_
      show Steps p.tables e below (T14.setTop (mkF m 29 #[.val (.int p0), .val (.ref xu), .val (.ref x8)] [(.ref xu), (.ref x8)])) _
      refine Jvm.RoadKit.acmp (g := (mkF m 29 #[.val (.int p0), .val (.ref xu), .val (.ref x8)] [(.ref xu), (.ref x8)])) X14 hx rfl rfl rfl (pc0 := 29) (pc' := 34) (same := false) rfl (hb hby at_29) rfl (decide_eq_false fun q => ne_x8_xu (Value.ref.inj q)) (by decide) (by decide) ?_
      show Steps p.tables e below (T14.setTop (mkF m 34 #[.val (.int p0), .val (.ref xu), .val (.ref x8)] [])) _
      refine XS.aloadN X14.here hx rfl (hb hby at_34) rfl rfl ?_
      show Steps p.tables e below (T14.setTop (mkF m 35 #[.val (.int p0), .val (.ref xu), .val (.ref x8)] [(.ref x8)])) _
      refine st15.trans ?_
      show Steps p.tables e below (T15.setTop (mkF m 38 #[.val (.int p0), .val (.ref xu), .val (.ref x8)] [(.ref xu)])) _
      refine XS.aloadN X15.here hx rfl (hb hby at_38) rfl rfl ?_
      show Steps p.tables e below (T15.setTop (mkF m 39 #[.val (.int p0), .val (.ref xu), .val (.ref x8)] [(.ref xu), (.ref xu)])) _
      refine Jvm.RoadKit.acmp (g := (mkF m 39 #[.val (.int p0), .val (.ref xu), .val (.ref x8)] [(.ref xu), (.ref xu)])) X15 hx rfl rfl rfl (pc0 := 39) (pc' := 42) (same := true) rfl (hb hby at_39) rfl (decide_eq_true rfl) (by decide) (by decide) ?_
      show Steps p.tables e below (T15.setTop (mkF m 42 #[.val (.int p0), .val (.ref xu), .val (.ref x8)] [])) _
      refine XS.iconst X15.here hx rfl (hb hby at_42) ?_
      show Steps p.tables e below (T15.setTop (mkF m 43 #[.val (.int p0), .val (.ref xu), .val (.ref x8)] [(.int (1 : Int32))])) _
      refine XS.goto X15.here hx rfl (pc0 := 43) (pc' := 47) rfl (hb hby at_43) (by decide) (by decide) ?_
      show Steps p.tables e below (T15.setTop (mkF m 47 #[.val (.int p0), .val (.ref xu), .val (.ref x8)] [(.int (1 : Int32))])) _
      exact kt
    obtain ⟨fs, hr, hrun, hended, hW, hsame⟩ := X15.leave (v := some (.int (1 : Int32))) (fun h => by rw [Bd.returns] at h; cases h)
    refine ⟨_, _, k16 _ (retN X15 hx (t := .boolean) Bd.returns (by simp) (hb hby at_47) hr), hrun, hended, _, _, rfl, ?_, ⟨_, rfl⟩, hW, hsame.mono (by decide) (by decide)⟩
    show Q0 Z p0 x8 xu h0 n0 _ T15.heap _
    rw [eq15]
    exact ⟨rfl, N15⟩
set_option maxRecDepth 65536 in
set_option maxHeartbeats 40000000 in
theorem comes_1 {Post : Tables → Env → Array Value → State → Outcome → State → Prop} (hpost : ∀ tb e args s v u, (limb_1_1.after args s (.returned v) u = true ∧ limb_1_2.after args s (.returned v) u = true ∧ True) → FrameEnd s (.returned v) u (Jvm.fieldLocs frame_1_writes args s ++ Jvm.arrayLocs frame_1_arrays args s ++ Jvm.staticLocs frame_1_statics s) 0 0 → Post tb e args s (.returned v) u) :
    ArmFor flags0 classFile x code maxLocals ret World_1 tables_1 room_1 Calls_1 rest_1 Pre_1 Post := by
  intro l hfl _ _ p e ha hc hk s m args below hf hA hF happ hP
  obtain ⟨hcalls, hrest, hpre⟩ := hP
  obtain ⟨-, -, -, hnamed, -, -, -, hat⟩ := (Spec.applies_iff hf).mp happ
  obtain ⟨hg, hn⟩ := and_e (Cond.before_iff.mp (show (Jvm.Cond.and given_1 narrow_1).before args s = true from hpre))
  have hcount := (and_e hg).1
  have hgs0 := (and_e hg).2
  have hi0 := hgs0
  obtain ⟨w0, rfl⟩ : ∃ w0 : Value, args = #[w0] := by
    have hs : args.size = 1 := by simpa [Cond.value, given_1] using hcount
    obtain ⟨L⟩ := args
    match L, hs with
    | [w0], _ => exact ⟨w0, rfl⟩
  have hw := fun d (hd : d ∈ tables_1) => atoms_spec (ws := Jvm.Cond.code x code maxLocals ret :: tables_1) hat d (List.mem_cons_of_mem _ hd)
  have hfit : Fit s := fun {y c} hc i hi => by
    obtain ⟨ha, rfl⟩ := Array.getElem?_eq_some_iff.mp hc
    have q := List.all_eq_true.mp ((Array.all_eq_true_iff_forall_mem.mp hF) _ (Array.getElem_mem ha)) i (List.mem_range.mpr hi)
    simpa [Array.getElem?_eq_getElem hi] using q
  obtain ⟨i0, ei0⟩ := is_v hi0
  obtain rfl : w0 = (.int i0) := Option.some.inj ei0
  obtain ⟨hn1, hn2⟩ := and_e hn
  obtain ⟨x8, ev8⟩ := exa_v hn1
  obtain ⟨xu, evu⟩ := exa_v hn2
  have A8 := Exa.start ev8 hn1
  have Au := Exa.start evu hn2
  have B8 := Sta.start ev8 (Or.inr ⟨hw _ (List.mem_of_getElem? (i := 1) rfl), hw _ (List.mem_of_getElem? (i := 2) rfl)⟩)
  have Bu := Sta.start evu (Or.inr ⟨hw _ (List.mem_of_getElem? (i := 1) rfl), hw _ (List.mem_of_getElem? (i := 10) rfl)⟩)
  have hne : x8 ≠ xu := ne_exa A8 Au (by decide)
  obtain ⟨n, o, h1, h2, h3, _, L, rfl, ⟨rfl, N⟩, hq⟩ := rm0 l s _ hw tables_1 i0 x8 xu s.heap s.heap.size (Nat.le_refl _) B8 Bu A8 Au hne p e ha hc hk s m _ below hf ((Spec.applies_iff_loose hf).mp happ).1 ⟨rfl, State.Warmed39.refl s, rfl⟩ trivial
  refine ⟨n, _, h1, h2, h3, hpost _ _ _ _ _ _ ⟨Cond.after_iff.mpr rfl, Cond.after_iff.mpr (eq_i res_at (Term.int_eval (1)) rfl), trivial⟩ ⟨hq.1, hq.2.1, (hq.2.2.sift fun y hy => Or.inr (N y hy)).mono (by decide) (by decide)⟩⟩
theorem main_1_1 : Claimed_1_1 := comes_1 fun _ _ _ _ _ _ h hF => ⟨h.1, hF⟩
theorem main_1_2 : Claimed_1_2 := comes_1 fun _ _ _ _ _ _ h hF => ⟨h.2.1, hF⟩
end Jvm.Pilot.@@N@@
namespace Jvm.Pilot.@@N@@
open Jvm Jvm.ClassFile Sem Op Lib Jvm.Free Jvm.Stand Jvm.Pilot.@@N@@.Jvm.D
/-! MADE BY PROGRAM (witnessworld.py) out of the Statement's table words and the real class files: 14 classes; the members and pool entries that the words name. The judged class is class 1, her method 1. -/
namespace start1
open Jvm.ClassFile
def u (s : String) : CpInfo := .utf8 (stringToUtf16 s)
/-- a pool by its gaps: so many unusable entries, then the entry; so many at the end -/
def gap : Nat → List CpInfo → List CpInfo
  | 0, r => r
  | n + 1, r => .unusable :: gap n r
def poolList (es : List (Nat × CpInfo)) (last : Nat) : List CpInfo := es.foldr (fun e r => gap e.1 (e.2 :: r)) (gap last [])
def pool (es : List (Nat × CpInfo)) (last : Nat) : Array CpInfo := ⟨poolList es last⟩
def fileOf (pool : Array CpInfo) (this : Nat) (attrs : Array Attribute := #[]) (ms : Array MethodInfo := #[]) (fl : Nat := 33) (sup : Nat := 0) (ifs : Array Nat := #[]) (fds : Array FieldInfo := #[]) : ClassFile where
  minorVersion := 0
  majorVersion := 65
  constantPool := pool
  accessFlags := fl
  thisClass := this
  superClass := sup
  interfaces := ifs
  fields := fds
  methods := ms
  attributes := attrs
def plain (name : String) (sup : Option ClassId) : Class where
  name := name
  kind := .ordinary
  loader := none
  accessFlags := 33
  super := sup
  interfaces := #[]
  cf := none
  fields := #[]
  methods := #[]
  instanceTypes := #[]
  staticTypes := #[]
  resolved := #[]
  callSites := []
  init := .initialized
  statics := none
  mirror := none

def pool0 : Array CpInfo := pool [(5, u "<init>"), (0, u "()V"), (1, .class_ 10), (1, u "java/lang/Object")] 113

def k0m0 : Method := { name := "<init>", desc := "()V", sig := { parameters := [], returnType := none }, accessFlags := 1, code := none }
/-- java/lang/Object -/
def k0 : Class := { plain "java/lang/Object" none with
  accessFlags := 33
  interfaces := #[]
  cf := some (fileOf pool0 8 #[] #[{ accessFlags := 1, nameIndex := 5, descriptorIndex := 6, attributes := #[] }] 33 0 #[] #[])
  fields := #[]
  methods := #[k0m0]
  instanceTypes := #[]
  staticTypes := #[]
  resolved := Array.replicate 124 none
  statics := none }

def pool1 : Array CpInfo := pool [(2, .class_ 4), (1, u "java/lang/Object"), (0, u "<init>"), (0, u "()V"), (0, .fieldref 8 9), (0, .class_ 10), (0, .nameAndType 11 12), (0, u "com/example/abak/abak/format/KeyForm"), (0, u "EIGHT_BIT"), (0, u "Lcom/example/abak/abak/format/KeyForm;"), (0, .fieldref 8 14), (0, .nameAndType 15 12), (0, u "UTF_8"), (0, .methodref 8 17), (0, .nameAndType 18 19), (0, u "other"), (0, u "()Lcom/example/abak/abak/format/KeyForm;"), (0, .class_ 21), (0, u "com/example/abak/abak/format/KeyFormOtherPinLaw"), (2, u "law"), (0, u "(I)Z")] 3

def k1m0 : Method := { name := "<init>", desc := "()V", sig := { parameters := [], returnType := none }, accessFlags := 1, code := none }
def k1c1 : Code := { maxStack := 2, maxLocals := 3, code := code, exceptionTable := #[], attributes := #[] }
def k1m1 : Method := { name := "law", desc := "(I)Z", sig := { parameters := [.int], returnType := some .boolean }, accessFlags := 9, code := some k1c1 }
/-- com/example/abak/abak/format/KeyFormOtherPinLaw -/
def k1 : Class := { plain "com/example/abak/abak/format/KeyFormOtherPinLaw" (some 0) with
  accessFlags := 49
  interfaces := #[]
  cf := some (fileOf pool1 20 #[] #[{ accessFlags := 1, nameIndex := 5, descriptorIndex := 6, attributes := #[] }, { accessFlags := 9, nameIndex := 24, descriptorIndex := 25, attributes := #[] }] 49 2 #[] #[])
  fields := #[]
  methods := #[k1m0, k1m1]
  instanceTypes := #[]
  staticTypes := #[]
  resolved := Array.replicate 29 none
  statics := none }

def pool2 : Array CpInfo := pool [(1, .class_ 2), (0, u "java/lang/constant/Constable"), (0, .class_ 4), (0, u "java/lang/Object")] 6

/-- java/lang/constant/Constable -/
def k2 : Class := { plain "java/lang/constant/Constable" (some 0) with
  accessFlags := 1537
  interfaces := #[]
  cf := some (fileOf pool2 1 #[] #[] 1537 3 #[] #[])
  fields := #[]
  methods := #[]
  instanceTypes := #[]
  staticTypes := #[]
  resolved := Array.replicate 11 none
  statics := none }

def pool3 : Array CpInfo := pool [(1, .class_ 2), (0, u "java/lang/Comparable"), (0, .class_ 4), (0, u "java/lang/Object")] 7

/-- java/lang/Comparable -/
def k3 : Class := { plain "java/lang/Comparable" (some 0) with
  accessFlags := 1537
  interfaces := #[]
  cf := some (fileOf pool3 1 #[] #[] 1537 3 #[] #[])
  fields := #[]
  methods := #[]
  instanceTypes := #[]
  staticTypes := #[]
  resolved := Array.replicate 12 none
  statics := none }

def pool4 : Array CpInfo := pool [(1, .class_ 2), (0, u "java/io/Serializable"), (0, .class_ 4), (0, u "java/lang/Object")] 2

/-- java/io/Serializable -/
def k4 : Class := { plain "java/io/Serializable" (some 0) with
  accessFlags := 1537
  interfaces := #[]
  cf := some (fileOf pool4 1 #[] #[] 1537 3 #[] #[])
  fields := #[]
  methods := #[]
  instanceTypes := #[]
  staticTypes := #[]
  resolved := Array.replicate 7 none
  statics := none }

def pool5 : Array CpInfo := pool [(2, .class_ 4), (1, u "java/lang/Enum"), (0, u "name"), (0, u "Ljava/lang/String;"), (2, u "ordinal"), (0, u "I"), (1, .class_ 14), (1, u "java/lang/Object"), (4, u "hash"), (86, .class_ 108), (1, u "java/lang/Enum$EnumDesc"), (2, .class_ 112), (0, u "java/lang/constant/Constable"), (0, .class_ 114), (0, u "java/lang/Comparable"), (0, .class_ 116), (0, u "java/io/Serializable")] 87

/-- java/lang/Enum -/
def k5 : Class := { plain "java/lang/Enum" (some 0) with
  accessFlags := 1057
  interfaces := #[2, 3, 4]
  cf := some (fileOf pool5 2 #[.nestMembers #[106]] #[] 1057 12 #[111, 113, 115] #[{ accessFlags := 18, nameIndex := 5, descriptorIndex := 6, attributes := #[] }, { accessFlags := 18, nameIndex := 9, descriptorIndex := 10, attributes := #[] }, { accessFlags := 2, nameIndex := 19, descriptorIndex := 10, attributes := #[] }])
  fields := #[{ name := "name", type := (.object "java/lang/String"), accessFlags := 18, slot := 0, constantValue := 0 }, { name := "ordinal", type := .int, accessFlags := 18, slot := 1, constantValue := 0 }, { name := "hash", type := .int, accessFlags := 2, slot := 2, constantValue := 0 }]
  methods := #[]
  instanceTypes := #[(.object "java/lang/String"), .int, .int]
  staticTypes := #[]
  resolved := Array.replicate 204 none
  statics := none }

def pool6 : Array CpInfo := pool [(1, .class_ 2), (0, u "com/example/abak/abak/format/KeyForm"), (0, .fieldref 1 4), (0, .nameAndType 5 6), (0, u "EIGHT_BIT"), (0, u "Lcom/example/abak/abak/format/KeyForm;"), (0, .fieldref 1 8), (0, .nameAndType 9 6), (0, u "UTF_8"), (2, u "$VALUES"), (0, u "[Lcom/example/abak/abak/format/KeyForm;"), (6, .class_ 22), (1, u "java/lang/Enum"), (18, .class_ 42), (0, u "com/example/abak/abak/format/KeyForm$1"), (2, .class_ 46), (0, u "com/example/abak/abak/format/KeyForm$2"), (6, u "MOST_BYTES_PER_KEY_BYTE"), (0, u "I"), (13, u "other"), (0, u "()Lcom/example/abak/abak/format/KeyForm;")] 11

def k6c0 : Code := { maxStack := 2, maxLocals := 1, code := prog_9_method_6_code, exceptionTable := #[], attributes := #[] }
def k6m0 : Method := { name := "other", desc := "()Lcom/example/abak/abak/format/KeyForm;", sig := { parameters := [], returnType := some (.object "com/example/abak/abak/format/KeyForm") }, accessFlags := 1, code := some k6c0 }
/-- com/example/abak/abak/format/KeyForm -/
def k6 : Class := { plain "com/example/abak/abak/format/KeyForm" (some 5) with
  accessFlags := 17441
  interfaces := #[]
  cf := some (fileOf pool6 1 #[.nestMembers #[45, 41]] #[{ accessFlags := 1, nameIndex := 68, descriptorIndex := 69, attributes := #[] }] 17441 20 #[] #[{ accessFlags := 16409, nameIndex := 5, descriptorIndex := 6, attributes := #[] }, { accessFlags := 16409, nameIndex := 9, descriptorIndex := 6, attributes := #[] }, { accessFlags := 24, nameIndex := 53, descriptorIndex := 54, attributes := #[] }, { accessFlags := 4122, nameIndex := 12, descriptorIndex := 13, attributes := #[] }])
  fields := #[{ name := "EIGHT_BIT", type := (.object "com/example/abak/abak/format/KeyForm"), accessFlags := 16409, slot := 0, constantValue := 0 }, { name := "UTF_8", type := (.object "com/example/abak/abak/format/KeyForm"), accessFlags := 16409, slot := 1, constantValue := 0 }, { name := "MOST_BYTES_PER_KEY_BYTE", type := .int, accessFlags := 24, slot := 2, constantValue := 0 }, { name := "$VALUES", type := (.array (.object "com/example/abak/abak/format/KeyForm")), accessFlags := 4122, slot := 3, constantValue := 0 }]
  methods := #[k6m0]
  instanceTypes := #[(.object "java/lang/String"), .int, .int]
  staticTypes := #[(.object "com/example/abak/abak/format/KeyForm"), (.object "com/example/abak/abak/format/KeyForm"), .int, (.array (.object "com/example/abak/abak/format/KeyForm"))]
  resolved := Array.replicate 81 none
  statics := some 0 }

def pool7 : Array CpInfo := pool [(2, .class_ 4), (1, u "com/example/abak/abak/format/KeyForm"), (18, .class_ 24), (0, u "com/example/abak/abak/format/KeyForm$1")] 15

/-- com/example/abak/abak/format/KeyForm$1 -/
def k7 : Class := { plain "com/example/abak/abak/format/KeyForm$1" (some 6) with
  accessFlags := 16432
  interfaces := #[]
  cf := some (fileOf pool7 23 #[.nestHost 2] #[] 16432 2 #[] #[])
  fields := #[]
  methods := #[]
  instanceTypes := #[(.object "java/lang/String"), .int, .int]
  staticTypes := #[]
  resolved := Array.replicate 40 none
  statics := none }

def pool8 : Array CpInfo := pool [(2, .class_ 4), (1, u "com/example/abak/abak/format/KeyForm"), (14, .class_ 20), (0, u "com/example/abak/abak/format/KeyForm$2")] 15

/-- com/example/abak/abak/format/KeyForm$2 -/
def k8 : Class := { plain "com/example/abak/abak/format/KeyForm$2" (some 6) with
  accessFlags := 16432
  interfaces := #[]
  cf := some (fileOf pool8 19 #[.nestHost 2] #[] 16432 2 #[] #[])
  fields := #[]
  methods := #[]
  instanceTypes := #[(.object "java/lang/String"), .int, .int]
  staticTypes := #[]
  resolved := Array.replicate 36 none
  statics := none }

def pool9 : Array CpInfo := pool [(1, u "java/lang/Cloneable"), (0, .class_ 1), (0, u "java/lang/Object"), (0, .class_ 3)] 3

/-- java/lang/Cloneable -/
def k9 : Class := { plain "java/lang/Cloneable" (some 0) with
  accessFlags := 1537
  interfaces := #[]
  cf := some (fileOf pool9 2 #[] #[] 1537 4 #[] #[])
  fields := #[]
  methods := #[]
  instanceTypes := #[]
  staticTypes := #[]
  resolved := Array.replicate 8 none
  statics := none }

/-- the primitive byte -/
def k10 : Class := { plain "byte" none with kind := .primitive 'B', accessFlags := 0x411 }
/-- [B -/
def k11 : Class := { plain "[B" (some 0) with kind := .array 10 .byte, interfaces := #[9, 4], accessFlags := 1041 }

/-- the primitive int -/
def k12 : Class := { plain "int" none with kind := .primitive 'I', accessFlags := 0x411 }
/-- [I -/
def k13 : Class := { plain "[I" (some 0) with kind := .array 12 .int, interfaces := #[9, 4], accessFlags := 1041 }

def heap : Heap := #[{ cls := 6, slots := #[.ref 1, .ref 2, .int 0, .null], vm := .statics 6 },
  { cls := 7, slots := #[.null, .int 0, .int 0], vm := .none },
  { cls := 8, slots := #[.null, .int 1, .int 0], vm := .none }]
def classes : Array Class := #[k0, k1, k2, k3, k4, k5, k6, k7, k8, k9, k10, k11, k12, k13]
def interned : List (Array UInt16 × Addr) := []
def slotsUsed : Nat := 10
def theMethod : MethodId := ⟨1, 1⟩
def args0 : Array Value := #[.int 5]
def aboutOver (below : List Frame) : State where
  vm := { classes := classes, interned := interned.toArray }
  heap := heap
  slotsUsed := slotsUsed
  threads := #[{ frames := .invoking theMethod args0 :: below }]
def below0 : List Frame := [.native { method := ⟨0, 0⟩, args := #[] }]
def about1 : State := aboutOver below0
def p0 : Program := .bare "" "" ""
def e0 : Env := launch0.env 0 0 0
theorem w_frames : about1.frames = Frame.invoking theMethod args0 :: below0 := rfl
set_option maxRecDepth 65536 in
theorem w_args : argsFit about1.vm theMethod args0 = true := by decide +kernel
set_option maxRecDepth 65536 in
theorem w_heap : heapFits about1 = true := by decide +kernel
set_option maxRecDepth 65536 in
theorem w_runnable : about1.curStatus? = some .runnable := by decide +kernel
set_option maxRecDepth 65536 in
theorem w_alone : about1.alone = true := by decide +kernel
set_option maxRecDepth 65536 in
theorem w_named : about1.methodNamed? x = some theMethod := by decide +kernel
set_option maxRecDepth 65536 in
theorem w_hears : about1.hears theMethod below0 = true := by decide +kernel
set_option maxRecDepth 65536 in
theorem w_ripe : about1.ripe theMethod args0 below0 = true := by decide +kernel
theorem w_running : about1.status = .running := rfl
set_option maxRecDepth 65536 in
theorem w_room : about1.hasRoom e0.platform room_1 = true :=
  launch0.hasRoom_least _ room_1 (by decide +kernel) (by decide +kernel) (by decide +kernel) (by decide +kernel) (by decide +kernel) (by decide +kernel)
theorem allAtoms_all (ts : List Jvm.Cond) (a : Array Jvm.Value) (st : Jvm.State) : (allAtoms ts).before a st = ts.all (fun c => c.before a st) := by
  induction ts with
  | nil => rfl
  | cons c t ih =>
    show (Jvm.Cond.and c (allAtoms t)).before a st = _
    rw [Jvm.Cond.before_and, ih, List.all_cons]
def words1 : List Jvm.Cond := Jvm.Cond.code x code maxLocals ret :: tables_1
/-- a 'code' word, met by the world's own term for the bytes: nothing is compared byte by byte -/
theorem code_word {y : MethodName} {bytes : ByteArray} {mx : Nat} {rt : Option FieldType} {a : Array Value} {s : State} {m : MethodId} {meth : Method} {c : Code} (h1 : s.methodNamed? y = some m) (h2 : s.vm.method? m = some meth) (h3 : meth.code = some c) (h4 : c.code = bytes)
    (h5 : (c.maxLocals == mx && c.exceptionTable.isEmpty && decide (c.maxStack ≤ mostOperands) && decide (meth.sig.returnType = rt) && !meth.locks && decide (parseMethodDescriptor y.desc = some meth.sig)) = true) : (Jvm.Cond.code y bytes mx rt).before a s = true := by
  simp only [Bool.and_eq_true, beq_iff_eq, Bool.not_eq_true', decide_eq_true_eq] at h5
  obtain ⟨⟨⟨⟨⟨g1, g2⟩, g3⟩, g4⟩, g5⟩, g6⟩ := h5
  simp [Cond.before, Cond.holds, Cond.value, h1, h2, h3, h4, g1, g2, g3, g4, g5, g6]
def isCode : Jvm.Cond → Bool
  | .code _ _ _ _ => true
  | _ => false
theorem all_split {L : List Jvm.Cond} {P : Jvm.Cond → Bool} (h1 : L.all (fun c => isCode c || P c) = true) (h2 : ∀ c ∈ L.filter isCode, P c = true) : L.all P = true := by
  refine List.all_eq_true.mpr fun c hc => ?_
  have h := List.all_eq_true.mp h1 c hc
  rcases Bool.eq_false_or_eq_true (isCode c) with hi | hi
  · exact h2 c (List.mem_filter.mpr ⟨hc, hi⟩)
  · simpa [hi] using h
set_option maxRecDepth 65536 in
theorem w_c0 : (Jvm.Cond.code x code maxLocals ret).before args0 about1 = true := code_word (m := ⟨1, 1⟩) (meth := k1m1) (c := k1c1) (by decide +kernel) rfl rfl rfl (by decide +kernel)
set_option maxRecDepth 65536 in
theorem w_c1 : (Jvm.Cond.code ({ cls := "com/example/abak/abak/format/KeyForm", name := "other", desc := "()Lcom/example/abak/abak/format/KeyForm;" } : Jvm.MethodName) prog_9_method_6_code (1 : Nat) (Option.some (Jvm.ClassFile.FieldType.object "com/example/abak/abak/format/KeyForm"))).before args0 about1 = true := code_word (m := ⟨6, 0⟩) (meth := k6m0) (c := k6c0) (by decide +kernel) rfl rfl rfl (by decide +kernel)
def codes1 : List Jvm.Cond := [Jvm.Cond.code x code maxLocals ret, Jvm.Cond.code ({ cls := "com/example/abak/abak/format/KeyForm", name := "other", desc := "()Lcom/example/abak/abak/format/KeyForm;" } : Jvm.MethodName) prog_9_method_6_code (1 : Nat) (Option.some (Jvm.ClassFile.FieldType.object "com/example/abak/abak/format/KeyForm"))]
set_option maxRecDepth 65536 in
theorem codes_eq : words1.filter isCode = codes1 := rfl
theorem w_codes : ∀ c ∈ words1.filter isCode, c.before args0 about1 = true := by
  rw [codes_eq]
  intro c hc
  simp only [codes1, List.mem_cons, List.not_mem_nil, or_false] at hc
  rcases hc with rfl | rfl
  · exact w_c0
  · exact w_c1
set_option maxRecDepth 65536 in
theorem w_t1 : words1.all (fun c => isCode c || c.before args0 about1) = true := by decide +kernel
theorem w_tables : (allAtoms (Jvm.Cond.code x code maxLocals ret :: tables_1)).before args0 about1 = true := by
  rw [allAtoms_all]
  show words1.all (fun c => c.before args0 about1) = true
  refine all_split ?_ w_codes
  rw [w_t1]
set_option maxRecDepth 65536 in
theorem w_case : (Jvm.Cond.and given_1 narrow_1).before args0 about1 = true := by decide +kernel
theorem w_applies : (headSpec (Jvm.Cond.code x code maxLocals ret :: tables_1) room_1).applies x e0.platform about1 = true :=
  (Spec.applies_iff w_frames).mpr ⟨w_running, w_runnable, w_alone, w_named, w_hears, w_ripe, w_room, w_tables⟩
theorem atStart : AtStart classFile x code maxLocals ret World_1 tables_1 room_1 Calls_1 rest_1 Pre_1 launch0 p0 e0 about1 theMethod args0 below0 :=
  ⟨lists_1, trivial, launch0.admits_env _ _ _, launch0.least_env, fairChoices_fair.cas, fairChoices_fair.clock, w_frames, w_args, w_heap, w_applies, trivial, trivial, w_case⟩
end start1
theorem witness_1 : WitnessClaimed_1 := ⟨start1.p0, start1.e0, start1.about1, start1.theMethod, start1.args0, start1.below0, start1.atStart⟩
end Jvm.Pilot.@@N@@
